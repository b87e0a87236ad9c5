/- spec.JPointer: what it answers. -/
import Derived.Test.YtdjmjgdafghdgaaFmtPtr
import Derived.Test.YtdjmjgdafghdgaaPFnJPointerx
namespace Go.Proofs.Ytdjmjgdafghdgaa.SPtrFnJPointer
open Go.RowKit Go.Proofs.Ytdjmjgdafghdgaa.PFnJPointer Go.Proofs.YtdjmjgdafghdgaaW.PrintWords Go.Proofs.YtdjmjgdafghdgaaW.PrintLast Go.Proofs.Ytdjmjgdafghdgaa.K Go.Proofs.Ytdjmjgdafghdgaa.Fmt
set_option linter.unusedVariables false
set_option linter.unusedSimpArgs false

theorem ptrLoop (s : ByteArray) (hs : s.size ≤ 2147483647) (d : Nat) : ∀ i : Nat, i ≤ s.size → s.size - i = d →
    ∃ b, Ev (fun k => spec_JPointer.l0 k s i) b ∧ (b = esc false ((bs s).drop i)) := by
  have hl := bs_len s
  induction d with
  | zero =>
    intro i hi hd
    refine ⟨true, ev_succ 0 fun k _ => ?_, ?_⟩
    · simp only [spec_JPointer.l0]; rw [if_neg (by omega)]
    · rw [List.drop_of_length_le (by omega)]; rfl
  | succ d ih =>
    intro i hi hd
    have hlt : i < (bs s).length := by omega
    have ew' : wrap64 ((i : Int) + 1) = ((i + 1 : Nat) : Int) := by rw [wrap_in (by omega) (by omega)]; omega
    have hbt := bt_nat s i hlt
    obtain ⟨b, ⟨K, hK⟩, hb⟩ := ih (i + 1) (by omega) (by omega)
    rw [esc_step_low hlt, if_neg (by simp)]
    by_cases h126 : (bs s)[i] = 126
    · have e1 : (((bs s)[i]).toNat : Int) = 126 := by rw [h126]; rfl
      have e2 : ((bs s)[i] == 126) = true := by rw [h126]; rfl
      rw [e2]
      by_cases hend : i + 1 = s.size
      · refine ⟨false, ev_succ 0 fun k _ => ?_, ?_⟩
        · simp only [spec_JPointer.l0, ew', hbt]
          rw [if_pos (by omega), if_pos (by omega), if_pos e1, if_pos (by omega)]
        · rw [List.drop_of_length_le (by omega)]; rfl
      · have hlt1 : i + 1 < (bs s).length := by omega
        have hbt1 := bt_nat s (i + 1) hlt1
        rw [esc_step_low hlt1, if_pos rfl]
        by_cases h48 : (bs s)[i + 1] = 48
        · have q : (((bs s)[i + 1]).toNat : Int) = 48 := by rw [h48]; rfl
          refine ⟨b, ev_succ K fun k hk => ?_, ?_⟩
          · simp only [spec_JPointer.l0, ew', hbt, hbt1]
            rw [if_pos (by omega), if_pos (by omega), if_pos e1, if_neg (by omega), if_pos (by omega), if_pos (by omega), if_pos q]
            exact hK k hk
          · rw [hb, esc_step_low hlt1, if_neg (by simp), h48]; rfl
        · have q : ¬ (((bs s)[i + 1]).toNat : Int) = 48 := fun e => h48 ((eq_toNat _ 48).1 e)
          by_cases h49 : (bs s)[i + 1] = 49
          · have q2 : (((bs s)[i + 1]).toNat : Int) = 49 := by rw [h49]; rfl
            refine ⟨b, ev_succ K fun k hk => ?_, ?_⟩
            · simp only [spec_JPointer.l0, ew', hbt, hbt1]
              rw [if_pos (by omega), if_pos (by omega), if_pos e1, if_neg (by omega), if_pos (by omega), if_pos (by omega), if_neg q, if_pos q2]
              exact hK k hk
            · rw [hb, esc_step_low hlt1, if_neg (by simp), h49]; rfl
          · have q2 : ¬ (((bs s)[i + 1]).toNat : Int) = 49 := fun e => h49 ((eq_toNat _ 49).1 e)
            refine ⟨false, ev_succ K fun k hk => ?_, ?_⟩
            · simp only [spec_JPointer.l0, ew', hbt, hbt1]
              rw [if_pos (by omega), if_pos (by omega), if_pos e1, if_neg (by omega), if_pos (by omega), if_pos (by omega), if_neg q, if_neg q2]
            · have x1 : ((bs s)[i + 1] == 48) = false := by rw [beq_eq_false_iff_ne]; exact h48
              have x2 : ((bs s)[i + 1] == 49) = false := by rw [beq_eq_false_iff_ne]; exact h49
              rw [x1, x2]; rfl
    · have e1 : ¬ (((bs s)[i]).toNat : Int) = 126 := fun e => h126 ((eq_toNat _ 126).1 e)
      have e2 : ((bs s)[i] == 126) = false := by rw [beq_eq_false_iff_ne]; exact h126
      rw [e2]
      refine ⟨b, ev_succ K fun k hk => ?_, hb⟩
      simp only [spec_JPointer.l0, ew', hbt]
      rw [if_pos (by omega), if_pos (by omega), if_neg e1]
      exact hK k hk

theorem ptrS (s : ByteArray) (hs : s.size ≤ 2147483647) : ∃ b, Ev (fun k => spec_JPointer.f k s) b ∧ (b = true ↔ ptrOk (bs s)) := by
  have hl := bs_len s
  obtain ⟨b, ⟨K, hK⟩, hb⟩ := ptrLoop s hs s.size 0 (by omega) (by omega)
  rw [List.drop_zero] at hb
  simp only [ptr_esc]
  by_cases h0 : bs s = []
  · have e : s.toList = [] := by rw [ByteArray.toList_eq]; exact h0
    refine ⟨b, ev_from (K + 1) fun k hk => ?_, ?_⟩
    · obtain ⟨k, rfl⟩ : ∃ m, k = m + 1 := ⟨k - 1, by omega⟩
      unfold spec_JPointer.f
      rw [if_pos e]
      simp only [spec_JPointer.j0, Bool.false_eq_true, if_false]
      exact hK k (by omega)
    · rw [hb]; simp [h0]
  · have e : ¬ s.toList = [] := by rw [ByteArray.toList_eq]; exact h0
    have hpos : 0 < (bs s).length := List.length_pos_iff.2 h0
    have hb0 := bt_nat s 0 hpos
    have hhead : (bs s).head? = some ((bs s)[0]'hpos) := by rw [List.head?_eq_getElem?, List.getElem?_eq_getElem hpos]
    by_cases h47 : (bs s)[0]'hpos = 47
    · have q : ((((bs s)[0]'hpos).toNat : Int) != 47) = false := by rw [h47]; rfl
      refine ⟨b, ev_from (K + 1) fun k hk => ?_, ?_⟩
      · obtain ⟨k, rfl⟩ : ∃ m, k = m + 1 := ⟨k - 1, by omega⟩
        unfold spec_JPointer.f
        rw [if_neg e, if_pos (by omega)]
        rw [show (0 : Int) = ((0 : Nat) : Int) from rfl, hb0, q]
        simp only [spec_JPointer.j0, Bool.false_eq_true, if_false]
        exact hK k (by omega)
      · rw [hb, hhead]; simp [h47]
    · have q : ((((bs s)[0]'hpos).toNat : Int) != 47) = true := by rw [bne_iff_ne]; exact fun e => h47 ((eq_toNat _ 47).1 e)
      refine ⟨false, ev_from 1 fun k hk => ?_, ?_⟩
      · obtain ⟨k, rfl⟩ : ∃ m, k = m + 1 := ⟨k - 1, by omega⟩
        unfold spec_JPointer.f
        rw [if_neg e, if_pos (by omega)]
        rw [show (0 : Int) = ((0 : Nat) : Int) from rfl, hb0, q]
        simp only [spec_JPointer.j0, if_true]
      · rw [hhead]; simp [h47, h0]
end Go.Proofs.Ytdjmjgdafghdgaa.SPtrFnJPointer
