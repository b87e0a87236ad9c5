/- laws.jOdd: what it answers. -/
import Derived.Test.YtfnnahopbghndaaDoorFmtHost
import Derived.Test.YtfnnahopbghndaaDoorPjOddx1
namespace Go.Proofs.YtfnnahopbghndaaDoor.SOddjOdd
open Go.RowKit Go.Proofs.YtfnnahopbghndaaDoor.PjOdd Go.Proofs.YtfnnahopbghndaaDoorW.PrintWords Go.Proofs.YtfnnahopbghndaaDoorW.PrintLast Go.Proofs.YtfnnahopbghndaaDoor.K Go.Proofs.YtfnnahopbghndaaDoor.Fmt
set_option linter.unusedVariables false
set_option linter.unusedSimpArgs false

theorem resLoop (s : ByteArray) (hs : s.size ≤ 2147483647) (d : Nat) : ∀ a i : Nat, a ≤ i → i ≤ s.size → s.size - i = d → ∃ b, Ev (fun k => spec_JReserved.l0 k s a i) b := by
  have hl := bs_len s
  induction d with
  | zero =>
    intro a i ha hi hd
    refine ⟨false, ev_succ 0 fun k _ => ?_⟩
    simp only [spec_JReserved.l0]
    rw [if_neg (by omega)]
  | succ d ih =>
    intro a i ha hi hd
    have hlt : i < (bs s).length := by omega
    have ew' : wrap64 ((i : Int) + 1) = ((i + 1 : Nat) : Int) := by rw [wrap_in (by omega) (by omega)]; omega
    have e1 : wrap64 (((i + 1 : Nat) : Int) + 3) = ((i + 4 : Nat) : Int) := by rw [wrap_in (by omega) (by omega)]; omega
    have e2 : wrap64 ((a : Int) + 3) = ((a + 3 : Nat) : Int) := by rw [wrap_in (by omega) (by omega)]; omega
    have e3 : wrap64 ((i : Int) - 1) = ((i : Int) - 1) := by rw [wrap_in (by omega) (by omega)]
    obtain ⟨b1, ⟨K1, h1⟩⟩ := ih (i + 1) (i + 1) (by omega) (by omega) (by omega)
    obtain ⟨b2, ⟨K2, h2⟩⟩ := ih a (i + 1) (by omega) (by omega) (by omega)
    by_cases h46 : bt s i = 46
    · refine ⟨b1, ev_succ K1 fun k hk => ?_⟩
      simp only [spec_JReserved.l0, ew', e1]
      rw [if_pos (by omega), if_pos (by omega), if_pos h46, if_neg (by omega)]
      exact h1 k hk
    · by_cases h3 : i = a + 3
      · by_cases h45 : bt s i = 45
        · by_cases h45' : bt s ((i : Int) - 1) = 45
          · refine ⟨true, ev_succ 0 fun k hk => ?_⟩
            simp only [spec_JReserved.l0, ew', e2, e3]
            rw [if_pos (by omega), if_pos (by omega), if_neg h46, if_pos (by omega), if_pos h45, if_pos (by omega), if_pos (by omega), if_pos h45']
          · refine ⟨b2, ev_succ K2 fun k hk => ?_⟩
            simp only [spec_JReserved.l0, ew', e2, e3]
            rw [if_pos (by omega), if_pos (by omega), if_neg h46, if_pos (by omega), if_pos h45, if_pos (by omega), if_pos (by omega), if_neg h45']
            exact h2 k hk
        · refine ⟨b2, ev_succ K2 fun k hk => ?_⟩
          simp only [spec_JReserved.l0, ew', e2, e3]
          rw [if_pos (by omega), if_pos (by omega), if_neg h46, if_pos (by omega), if_neg h45]
          exact h2 k hk
      · refine ⟨b2, ev_succ K2 fun k hk => ?_⟩
        simp only [spec_JReserved.l0, ew', e2, e3]
        rw [if_pos (by omega), if_pos (by omega), if_neg h46, if_neg (by omega)]
        exact h2 k hk

/-- What is not odd does not end with a dot. -/
theorem oddS (s : ByteArray) (hs : s.size ≤ 2147483647) : ∃ o, Ev (fun k => laws_jOdd.f k s) o ∧ (o = false → (bs s).getLast? ≠ some 46) := by
  have hl := bs_len s
  obtain ⟨r, ⟨K, hK⟩⟩ := resLoop s hs s.size 0 0 (Nat.le_refl _) (Nat.zero_le _) rfl
  have hK' : ∀ k, K ≤ k → spec_JReserved.f k s = some r := hK
  cases r with
  | true => exact ⟨true, ev_from K (fun k hk => by unfold laws_jOdd.f; rw [hK' k hk]; rfl), fun h => by cases h⟩
  | false =>
    by_cases h0 : (s.size : Int) > 0
    · have ew : wrap64 ((s.size : Int) - 1) = ((s.size - 1 : Nat) : Int) := by rw [wrap_in (by omega) (by omega)]; omega
      have hbl := bt_nat s (s.size - 1) (by omega)
      refine ⟨(bt s ((s.size - 1 : Nat) : Int)) == 46, ev_from K (fun k hk => by
        unfold laws_jOdd.f
        rw [hK' k hk]
        simp only [Option.bind_some, ew]
        rw [if_neg (by simp), if_pos h0, if_pos (by omega), if_pos (by omega)]), ?_⟩
      intro h
      rw [hbl, beq_eq_false_iff_ne] at h
      have hne : bs s ≠ [] := by intro e; rw [e] at hl; simp at hl; omega
      rw [List.getLast?_eq_some_getLast hne, List.getLast_eq_getElem]
      intro e
      apply h
      have := Option.some.inj e
      simp only [hl] at this
      rw [this]; rfl
    · refine ⟨false, ev_from K (fun k hk => by
        unfold laws_jOdd.f
        rw [hK' k hk]
        simp only [Option.bind_some]
        rw [if_neg (by simp), if_neg h0]), fun _ => ?_⟩
      have : bs s = [] := by apply List.eq_nil_of_length_eq_zero; omega
      rw [this]; simp
end Go.Proofs.YtfnnahopbghndaaDoor.SOddjOdd
