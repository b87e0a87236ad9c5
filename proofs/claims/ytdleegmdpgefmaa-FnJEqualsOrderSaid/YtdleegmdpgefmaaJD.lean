/- spec.JIsDecimal: it answers. -/
import Derived.Test.YtdleegmdpgefmaaJ0
import Derived.Test.YtdleegmdpgefmaaPJx
import Derived.WalkSpells
import Derived.Lib.Hide
namespace Go.Proofs.Ytdleegmdpgefmaa.J
open Go.RowKit Go.Proofs.YtdleegmdpgefmaaW.PrintWords Go.Proofs.YtdleegmdpgefmaaW.PrintLast Go.Proofs.YtdleegmdpgefmaaW.PrintMore Go.Proofs.Ytdleegmdpgefmaa.PJ Go.Proofs.Ytdleegmdpgefmaa.K
set_option linter.unusedVariables false
set_option linter.unusedSimpArgs false

/-! ### what is printed answers -/
theorem digitsE (s : ByteArray) (hs : s.size ≤ 140737488351232) (d : Nat) : ∀ i : Nat, i ≤ s.size → s.size - i = d → ∃ b, Ev (fun k => spec_jDigits.l0 k s i) b := by
  induction d with
  | zero =>
    intro i hi hd
    refine ⟨decide ((s.size : Int) > 0), ev_succ 0 fun k hk => ?_⟩
    simp only [spec_jDigits.l0]
    rw [if_neg (by omega)]
  | succ d ih =>
    intro i hi hd
    have e1 : wrap64 ((i : Int) + 1) = ((i + 1 : Nat) : Int) := by rw [wrap_in (by omega) (by omega)]; omega
    obtain ⟨b, K, hK⟩ := ih (i + 1) (by omega) (by omega)
    obtain ⟨t, ht⟩ : ∃ t, spec_jDigit.f (bt s i) = some t := by unfold spec_jDigit.f; split <;> exact ⟨_, rfl⟩
    cases t with
    | true =>
      refine ⟨b, ev_succ K fun k hk => ?_⟩
      simp only [spec_jDigits.l0, e1, ht, Option.bind_some]
      rw [if_pos (by omega), if_pos (by omega), if_pos trivial]
      exact hK k hk
    | false =>
      refine ⟨false, ev_succ 0 fun k hk => ?_⟩
      simp only [spec_jDigits.l0, e1, ht, Option.bind_some]
      rw [if_pos (by omega), if_pos (by omega), if_neg (by simp)]
theorem plainE (s : ByteArray) (hs : s.size ≤ 140737488351232) : ∃ b, Ev (fun k => spec_jPlain.f k s) b := by
  obtain ⟨b, K, hK⟩ := digitsE s hs s.size 0 (by omega) rfl
  have hK' : ∀ k, K ≤ k → spec_jDigits.f k s = some b := hK
  cases b with
  | false =>
    refine ⟨false, K, fun k hk => ?_⟩
    show spec_jPlain.f k s = _
    rw [spec_jPlain.f, hK' k hk]; rfl
  | true =>
    by_cases h1 : (s.size : Int) = 1
    · refine ⟨true, K, fun k hk => ?_⟩
      show spec_jPlain.f k s = _
      rw [spec_jPlain.f, hK' k hk, Option.bind_some, if_pos rfl, if_pos h1]
    · have h0 : 0 < (s.size : Int) := by
        rcases Nat.eq_zero_or_pos s.size with h | h
        · have := hK' (K + 1) (by omega)
          simp only [spec_jDigits.f, spec_jDigits.l0] at this
          rw [if_neg (by omega)] at this
          simp [h] at this
        · omega
      refine ⟨bt s 0 != 48, K, fun k hk => ?_⟩
      show spec_jPlain.f k s = _
      rw [spec_jPlain.f, hK' k hk, Option.bind_some, if_pos rfl, if_neg h1, if_pos h0]
theorem numberE (s : ByteArray) (hs : s.size ≤ 140737488351232) (d : Nat) : ∀ (i : Nat) (x : Int), i ≤ s.size → s.size - i = d → ∃ r, Ev (fun k => spec_jNumber.l0 k s x i) r := by
  induction d with
  | zero =>
    intro i x hi hd
    refine ⟨x, ev_succ 0 fun k hk => ?_⟩
    simp only [spec_jNumber.l0]
    rw [if_neg (by omega)]
  | succ d ih =>
    intro i x hi hd
    have e1 : wrap64 ((i : Int) + 1) = ((i + 1 : Nat) : Int) := by rw [wrap_in (by omega) (by omega)]; omega
    obtain ⟨r, K, hK⟩ := ih (i + 1) (wrap64 ((wrap64 (10 * x)) + (((bt s i) - 48) % 256))) (by omega) (by omega)
    refine ⟨r, ev_succ K fun k hk => ?_⟩
    simp only [spec_jNumber.l0, e1]
    rw [if_pos (by omega), if_pos (by omega)]
    exact hK k hk
theorem runE (s : ByteArray) (hs : s.size ≤ 140737488351232) (d : Nat) : ∀ i : Nat, i ≤ s.size → s.size - i = d → ∃ r : Nat, i ≤ r ∧ r ≤ s.size ∧ Ev (fun k => spec_jRun.l0 k s i) (r : Int) := by
  induction d with
  | zero =>
    intro i hi hd
    refine ⟨i, Nat.le_refl _, hi, ev_succ 0 fun k hk => ?_⟩
    simp only [spec_jRun.l0]
    rw [if_neg (by omega)]
  | succ d ih =>
    intro i hi hd
    have e1 : wrap64 ((i : Int) + 1) = ((i + 1 : Nat) : Int) := by rw [wrap_in (by omega) (by omega)]; omega
    obtain ⟨r, h1, h2, K, hK⟩ := ih (i + 1) (by omega) (by omega)
    obtain ⟨t, ht⟩ : ∃ t, spec_jDigit.f (bt s i) = some t := by unfold spec_jDigit.f; split <;> exact ⟨_, rfl⟩
    cases t with
    | true =>
      refine ⟨r, by omega, h2, ev_succ K fun k hk => ?_⟩
      simp only [spec_jRun.l0, e1, ht, Option.bind_some]
      rw [if_pos (by omega), if_pos (by omega), if_pos trivial]
      exact hK k hk
    | false =>
      refine ⟨i, Nat.le_refl _, hi, ev_succ 0 fun k hk => ?_⟩
      simp only [spec_jRun.l0, e1, ht, Option.bind_some]
      rw [if_pos (by omega), if_pos (by omega), if_neg (by simp)]
def DigC (s : ByteArray) (b : Bool) : Prop := ∀ w, Calls Try.prog 40 #[.string s] w fun e w' => e = .returned (.bool b) ∧ Drawn0 w w'
theorem DigC.at_ {s : ByteArray} {b : Bool} (h : DigC s b) (w : World) : Calls Try.prog 40 #[.string s] w fun e w' => e = .returned (.bool b) ∧ Drawn0 w w' := h w
theorem digits_calls (s : ByteArray) (hs : s.size ≤ 140737488351232) : ∃ b, DigC s b := by
  obtain ⟨b, K, hK⟩ := digitsE s hs s.size 0 (by omega) rfl
  exact ⟨b, fun w => spec_jDigits.calls K s b w (hK K (Nat.le_refl _))⟩
theorem plain_calls (s : ByteArray) (hs : s.size ≤ 140737488351232) : ∃ b, ∀ w, Calls Try.prog 34 #[.string s] w fun e w' => e = .returned (.bool b) ∧ Drawn0 w w' := by
  obtain ⟨b, K, hK⟩ := plainE s hs
  exact ⟨b, fun w => spec_jPlain.calls K s b w (hK K (Nat.le_refl _))⟩
theorem number_calls (s : ByteArray) (hs : s.size ≤ 140737488351232) (w : World) : ∃ r, Calls Try.prog 41 #[.string s] w fun e w' => e = .returned (.int .i64 r) ∧ Drawn0 w w' := by
  obtain ⟨b, K, hK⟩ := numberE s hs s.size 0 0 (by omega) rfl
  exact ⟨b, spec_jNumber.calls K s b w (hK K (Nat.le_refl _))⟩
theorem run_calls (s : ByteArray) (hs : s.size ≤ 140737488351232) (i : Nat) (hi : i ≤ s.size) : ∃ r : Nat, i ≤ r ∧ r ≤ s.size ∧ ∀ w, Calls Try.prog 33 #[.string s, .int .i64 i] w fun e w' => e = .returned (.int .i64 r) ∧ Drawn0 w w' := by
  obtain ⟨r, h1, h2, K, hK⟩ := runE s hs (s.size - i) i hi rfl
  exact ⟨r, h1, h2, fun w => spec_jRun.calls K s i r w (hK K (Nat.le_refl _))⟩
end Go.Proofs.Ytdleegmdpgefmaa.J
