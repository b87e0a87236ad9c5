/- spec.jDigit, spec.jDigits, spec.jNumber: what they answer. -/
import Derived.Test.YtfnnahopbghndaaDoorDec
import Derived.Test.YtfnnahopbghndaaDoorPJTimex2
namespace Go.Proofs.YtfnnahopbghndaaDoor.SNumJTime
open Go.RowKit Go.Proofs.YtfnnahopbghndaaDoor.PJTime Go.Proofs.YtfnnahopbghndaaDoorW.PrintWords Go.Proofs.YtfnnahopbghndaaDoorW.PrintLast Go.Proofs.YtfnnahopbghndaaDoor.K Go.Proofs.YtfnnahopbghndaaDoor.Fmt
set_option linter.unusedVariables false
set_option linter.unusedSimpArgs false

theorem digitS (b : UInt8) : spec_jDigit.f (b.toNat : Int) = some (digB b) := by
  have h := digB_iff b
  unfold spec_jDigit.f
  by_cases h1 : (b.toNat : Int) ≥ 48
  · rw [if_pos h1]; congr 1; rw [Bool.eq_iff_iff, decide_eq_true_eq, h]; omega
  · rw [if_neg h1]; congr 1; symm; rw [Bool.eq_false_iff]; intro k; have := h.1 k; omega
theorem digitsLoop (s : ByteArray) (hs : s.size ≤ 2147483647) (d : Nat) : ∀ i : Nat, i ≤ s.size → s.size - i = d →
    ∃ b, Ev (fun k => spec_jDigits.l0 k s i) b ∧ (b = true ↔ bs s ≠ [] ∧ ∀ x ∈ (bs s).drop i, digB x = true) := by
  have hl := bs_len s
  induction d with
  | zero =>
    intro i hi hd
    refine ⟨decide ((s.size : Int) > 0), ev_succ 0 fun k _ => ?_, ?_⟩
    · simp only [spec_jDigits.l0]; rw [if_neg (by omega)]
    · rw [List.drop_of_length_le (by omega)]
      simp only [decide_eq_true_eq, List.not_mem_nil, false_imp_iff, implies_true, and_true, ne_eq]
      rw [← List.length_eq_zero_iff, hl]
      omega
  | succ d ih =>
    intro i hi hd
    have hlt : i < (bs s).length := by omega
    have ew' : wrap64 ((i : Int) + 1) = ((i + 1 : Nat) : Int) := by rw [wrap_in (by omega) (by omega)]; omega
    obtain ⟨b, ⟨K, hK⟩, hb⟩ := ih (i + 1) (by omega) (by omega)
    have hbt := bt_nat s i hlt
    rw [List.drop_eq_getElem_cons hlt]
    simp only [List.mem_cons, forall_eq_or_imp]
    by_cases hok : digB (bs s)[i] = true
    · refine ⟨b, ev_succ K fun k hk => ?_, by rw [hb]; simp [hok]⟩
      simp only [spec_jDigits.l0, hbt, ew', digitS, Option.bind_some]
      rw [if_pos (by omega), if_pos (by omega), if_pos hok]
      exact hK k hk
    · refine ⟨false, ev_succ 0 fun k hk => ?_, by simp [hok]⟩
      simp only [spec_jDigits.l0, hbt, ew', digitS, Option.bind_some]
      rw [if_pos (by omega), if_pos (by omega), if_neg hok]
theorem digitsS (s : ByteArray) (hs : s.size ≤ 2147483647) : ∃ b, Ev (fun k => spec_jDigits.f k s) b ∧ (b = true ↔ bs s ≠ [] ∧ ∀ x ∈ bs s, digB x = true) := by
  obtain ⟨b, h1, h2⟩ := digitsLoop s hs s.size 0 (by omega) (by omega)
  exact ⟨b, h1, by rwa [List.drop_zero] at h2⟩
theorem numberLoop (s : ByteArray) (hs : s.size ≤ 9) (hd : ∀ x ∈ bs s, digB x = true) (d : Nat) : ∀ i acc : Nat, i ≤ s.size → s.size - i = d → acc < 10 ^ i →
    Ev (fun k => spec_jNumber.l0 k s acc i) (decF acc ((bs s).drop i) : Int) := by
  have hl := bs_len s
  induction d with
  | zero =>
    intro i acc hi hdd ha
    refine ev_succ 0 fun k _ => ?_
    simp only [spec_jNumber.l0]; rw [if_neg (by omega), List.drop_of_length_le (by omega)]; rfl
  | succ d ih =>
    intro i acc hi hdd ha
    have hlt : i < (bs s).length := by omega
    have hdig := (digB_iff (bs s)[i]).1 (hd _ (List.getElem_mem hlt))
    have hp : 10 ^ i ≤ 10 ^ 8 := Nat.pow_le_pow_right (by omega) (by omega)
    have ew' : wrap64 ((i : Int) + 1) = ((i + 1 : Nat) : Int) := by rw [wrap_in (by omega) (by omega)]; omega
    have hbt := bt_nat s i hlt
    obtain ⟨K, hK⟩ := ih (i + 1) (10 * acc + ((bs s)[i].toNat - 48)) (by omega) (by omega) (by rw [Nat.pow_succ]; omega)
    rw [List.drop_eq_getElem_cons hlt, decF_cons]
    refine ev_succ K fun k hk => ?_
    have e1 : wrap64 (10 * (acc : Int)) = 10 * (acc : Int) := wrap_in (by omega) (by omega)
    have e2 : wrap64 (10 * (acc : Int) + ((((bs s)[i].toNat : Int) - 48) % 256)) = ((10 * acc + ((bs s)[i].toNat - 48) : Nat) : Int) := by rw [wrap_in (by omega) (by omega)]; omega
    simp only [spec_jNumber.l0, hbt, ew', e1, e2]
    rw [if_pos (by omega), if_pos (by omega)]
    exact hK k hk
theorem numberS (s : ByteArray) (hs : s.size ≤ 9) (hd : ∀ x ∈ bs s, digB x = true) : Ev (fun k => spec_jNumber.f k s) (decF 0 (bs s) : Int) := by
  have := numberLoop s hs hd s.size 0 0 (by omega) (by omega) (by simp)
  rwa [List.drop_zero] at this
end Go.Proofs.YtfnnahopbghndaaDoor.SNumJTime
