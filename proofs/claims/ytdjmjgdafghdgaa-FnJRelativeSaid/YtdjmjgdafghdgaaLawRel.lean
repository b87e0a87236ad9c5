/- FnJRelative: for every text of UTF-8 of at most 2^31-1 bytes in which no plus or minus follows the number impl.JRelative and spec.JRelative answer the same. -/
import Derived.Test.YtdjmjgdafghdgaaFmtRel
import Derived.Test.YtdjmjgdafghdgaaSpecUtf8FnJRelative
import Derived.Test.YtdjmjgdafghdgaaSpecPtrFnJRelative
namespace Go.Proofs.Ytdjmjgdafghdgaa.LRel
open Go.RowKit Go.Proofs.Ytdjmjgdafghdgaa.PFnJRelative Go.Proofs.YtdjmjgdafghdgaaW.PrintWords Go.Proofs.YtdjmjgdafghdgaaW.PrintLast Go.Proofs.Ytdjmjgdafghdgaa.K Go.Proofs.Ytdjmjgdafghdgaa.Fmt
set_option linter.unusedVariables false
set_option linter.unusedSimpArgs false

theorem digitS (b : UInt8) : spec_jDigit.f (b.toNat : Int) = some (digB b) := by
  have hk := digK.iff b
  unfold digR at hk
  unfold spec_jDigit.f
  by_cases h : (b.toNat : Int) ≥ 48
  · rw [if_pos h]; congr 1; rw [Bool.eq_iff_iff, decide_eq_true_eq, hk]; omega
  · rw [if_neg h]; congr 1; symm; rw [Bool.eq_false_iff, Ne, hk]; omega

/-- While there are digits the loop goes on. -/
theorem shiftE (s : ByteArray) (hs : s.size ≤ 2147483647) (d : Nat) : ∀ i : Nat, i ≤ s.size → s.size - i = d → ∃ b, Ev (fun k => spec_JShifts.l0 k s i) b := by
  have hl := bs_len s
  induction d with
  | zero =>
    intro i hi hd
    refine ⟨false, ev_succ 0 fun k _ => ?_⟩
    simp only [spec_JShifts.l0]; rw [if_neg (by omega)]; split <;> rfl
  | succ d ih =>
    intro i hi hd
    have hlt : i < (bs s).length := by omega
    have ew' : wrap64 ((i : Int) + 1) = ((i + 1 : Nat) : Int) := by rw [wrap_in (by omega) (by omega)]; omega
    have hbt := bt_nat s i hlt
    obtain ⟨b, ⟨K, hK⟩⟩ := ih (i + 1) (by omega) (by omega)
    by_cases hd1 : digB (bs s)[i] = true
    · refine ⟨b, ev_succ K fun k hk => ?_⟩
      simp only [spec_JShifts.l0, hbt, digitS, Option.bind_some, ew']
      rw [if_pos (by omega), if_pos (by omega), if_pos hd1]
      exact hK k hk
    · by_cases h0 : (i : Int) > 0
      · by_cases h43 : (((bs s)[i]).toNat : Int) = 43
        · refine ⟨true, ev_succ 0 fun k hk => ?_⟩
          simp only [spec_JShifts.l0, hbt, digitS, Option.bind_some, ew']
          rw [if_pos (by omega), if_pos (by omega), if_neg hd1, if_pos h0, if_pos h43]
        · refine ⟨((((bs s)[i]).toNat : Int) == 45), ev_succ 0 fun k hk => ?_⟩
          simp only [spec_JShifts.l0, hbt, digitS, Option.bind_some, ew']
          rw [if_pos (by omega), if_pos (by omega), if_neg hd1, if_pos h0, if_neg h43]
      · refine ⟨false, ev_succ 0 fun k hk => ?_⟩
        simp only [spec_JShifts.l0, hbt, digitS, Option.bind_some, ew']
        rw [if_pos (by omega), if_pos (by omega), if_neg hd1, if_neg h0]

theorem relLoop (s : ByteArray) (hs : s.size ≤ 2147483647) (d : Nat) : ∀ i : Nat, i ≤ s.size → s.size - i = d → Sofar digB s i →
    ∃ b, Ev (fun k => spec_JRelative.l0 k s i) b ∧ (b = true ↔ relOk (bs s)) := by
  have hl := bs_len s
  -- at the end of the digits
  have tail : ∀ i : Nat, i ≤ s.size → digs (bs s) = i → (i < s.size → digB ((bs s).getD i 0) = false) → ∃ b, Ev (fun k => spec_JRelative.l0 k s i) b ∧ (b = true ↔ relOk (bs s)) := by
    intro i hi hdi hnd
    have hn : i < s.size → ∃ h : i < (bs s).length, bt s i = (((bs s)[i]).toNat : Int) ∧ digB (bs s)[i] = false := by
      intro h
      have h' : i < (bs s).length := by omega
      refine ⟨h', bt_nat s i h', ?_⟩
      have := hnd h
      rwa [List.getD_eq_getElem?_getD, List.getElem?_eq_getElem h'] at this
    obtain ⟨p, ⟨K, hK⟩, hp⟩ := SPtrFnJRelative.ptrS (s.extract i s.size) (by rw [ByteArray.size_extract]; omega)
    rw [bs_drop] at hp
    unfold relOk
    rw [hdi]
    have eq35 : (s.extract i s.size).toList = [35] ↔ (bs s).drop i = [35] := by rw [ByteArray.toList_eq, bs_data, bs_drop]
    by_cases h0 : i = 0
    · refine ⟨false, ev_succ 0 fun k hk => ?_, by simp [h0]⟩
      simp only [spec_JRelative.l0]
      by_cases hlt : i < s.size
      · obtain ⟨h', e1, e2⟩ := hn hlt
        rw [if_pos (by omega), if_pos (by omega), e1, digitS, e2]
        simp only [Option.bind_some, Bool.false_eq_true, if_false]
        rw [if_neg (by omega)]
      · rw [if_neg (by omega), if_neg (by omega)]
    · -- the rest of it
      have rest : ∀ X : Nat → Option Bool, (∀ k, K ≤ k → X (k + 1) = if (s.extract i s.size).toList = ([35] : List UInt8) then some true else (PFnJRelative.spec_JPointer.f k (s.extract i s.size)).bind fun t => some t) → ¬ (1 < i ∧ (bs s).head? = some 48) →
          ∃ b, Ev X b ∧ (b = true ↔ i ≠ 0 ∧ ¬ (1 < i ∧ (bs s).head? = some 48) ∧ ((bs s).drop i = [35] ∨ ptrOk ((bs s).drop i))) := by
        intro X hX hh
        by_cases h35 : (bs s).drop i = [35]
        · refine ⟨true, ev_succ K fun k hk => ?_, by simp [h0, hh, h35]⟩
          rw [hX k hk, if_pos (eq35.2 h35)]
        · refine ⟨p, ev_succ K fun k hk => ?_, by rw [hp]; simp [h0, hh, h35]⟩
          rw [hX k hk, if_neg (fun e => h35 (eq35.1 e))]
          have := hK k hk
          simp only at this
          rw [this]; rfl
      by_cases h1 : i = 1
      · refine rest _ (fun k hk => ?_) (by omega)
        simp only [spec_JRelative.l0, Int.toNat_natCast]
        by_cases hlt : i < s.size
        · obtain ⟨h', e1, e2⟩ := hn hlt
          rw [if_pos (by omega), if_pos (by omega), e1, digitS, e2]
          simp only [Option.bind_some, Bool.false_eq_true, if_false]
          rw [if_pos (by omega), if_pos (by omega), if_pos (by omega)]
        · rw [if_neg (by omega), if_pos (by omega), if_pos (by omega), if_pos (by omega), if_pos (by omega)]
      · have hpos : 0 < (bs s).length := by omega
        have hb0 := bt_nat s 0 hpos
        have hhead : (bs s).head? = some ((bs s)[0]'hpos) := by rw [List.head?_eq_getElem?, List.getElem?_eq_getElem hpos]
        by_cases h48 : (bs s)[0]'hpos = 48
        · have q : bt s 0 = 48 := by rw [show (0 : Int) = ((0 : Nat) : Int) from rfl, hb0, h48]; rfl
          refine ⟨false, ev_succ 0 fun k hk => ?_, by rw [hhead, h48]; simp; omega⟩
          simp only [spec_JRelative.l0, Int.toNat_natCast]
          by_cases hlt : i < s.size
          · obtain ⟨h', e1, e2⟩ := hn hlt
            rw [if_pos (by omega), if_pos (by omega), e1, digitS, e2]
            simp only [Option.bind_some, Bool.false_eq_true, if_false]
            rw [if_pos (by omega), if_neg (by omega), if_pos (by omega), if_pos q]
          · rw [if_neg (by omega), if_pos (by omega), if_neg (by omega), if_pos (by omega), if_pos q]
        · have q : ¬ bt s 0 = 48 := by
            rw [show (0 : Int) = ((0 : Nat) : Int) from rfl, hb0]
            exact fun e => h48 ((eq_toNat _ 48).1 e)
          refine rest _ (fun k hk => ?_) (by rw [hhead]; simp [h48])
          simp only [spec_JRelative.l0, Int.toNat_natCast]
          by_cases hlt : i < s.size
          · obtain ⟨h', e1, e2⟩ := hn hlt
            rw [if_pos (by omega), if_pos (by omega), e1, digitS, e2]
            simp only [Option.bind_some, Bool.false_eq_true, if_false]
            rw [if_pos (by omega), if_neg (by omega), if_pos (by omega), if_neg q, if_pos (by omega)]
          · rw [if_neg (by omega), if_pos (by omega), if_neg (by omega), if_pos (by omega), if_neg q, if_pos (by omega), if_pos (by omega)]
  induction d with
  | zero =>
    intro i hi hd hS
    exact tail i hi (digs_stop hS hi (.inl (by omega))) (fun h => by omega)
  | succ d ih =>
    intro i hi hd hS
    have hlt' : i < s.size := by omega
    have hlt : i < (bs s).length := by omega
    have ew' : wrap64 ((i : Int) + 1) = ((i + 1 : Nat) : Int) := by rw [wrap_in (by omega) (by omega)]; omega
    have hbt := bt_nat s i hlt
    by_cases hd1 : digB (bs s)[i] = true
    · obtain ⟨b, ⟨K, hK⟩, hb⟩ := ih (i + 1) (by omega) (by omega) (hS.step hlt' (by rw [← bs_at s i hlt' hlt]; exact hd1))
      refine ⟨b, ev_succ K fun k hk => ?_, hb⟩
      simp only [spec_JRelative.l0, hbt, digitS, Option.bind_some, ew']
      rw [if_pos (by omega), if_pos (by omega), if_pos hd1]
      exact hK k hk
    · have hd2 : digB (bs s)[i] = false := Bool.eq_false_iff.2 hd1
      refine tail i hi (digs_stop hS hi (.inr ⟨hlt', by rw [← bs_at s i hlt' hlt]; exact hd2⟩)) (fun _ => ?_)
      rw [List.getD_eq_getElem?_getD, List.getElem?_eq_getElem hlt]
      exact hd2

theorem relS (s : ByteArray) (hs : s.size ≤ 2147483647) : ∃ b, Ev (fun k => spec_JRelative.f k s) b ∧ (b = true ↔ relOk (bs s)) :=
  relLoop s hs s.size 0 (Nat.zero_le _) rfl (Sofar.zero _ _)

theorem bool_of_iff {b c : Bool} {p q : Prop} (h1 : b = true ↔ p) (h2 : c = true ↔ q) (h : p ↔ q) : b = c := by
  rw [Bool.eq_iff_iff, h1, h2, h]

set_option maxHeartbeats 1000000 in
theorem walk (s : ByteArray) (w : World) (_hs : s.size ≤ 140737488351232) :
    Calls Try.prog 8 #[.string s] w fun e w' => e = .returned (.bool true) ∧ Below w.heap.size w w' := by
  by_cases hbig : s.size ≤ 2147483647
  · obtain ⟨o, ⟨K0, hK0⟩⟩ := SUtf8FnJRelative.utfE s hbig
    obtain ⟨o1, ⟨K1, hK1⟩⟩ := shiftE s hbig s.size 0 (Nat.zero_le _) rfl
    obtain ⟨c, ⟨K, hK⟩, hc⟩ := relS s hbig
    have HK := Lib.hid (hK K (Nat.le_refl _))
    have HK0 := Lib.hid (hK0 K0 (Nat.le_refl _))
    have HK1 := Lib.hid (hK1 K1 (Nat.le_refl _))
    have HC := Lib.hid hc
    clear hK hc hK0 hK1
    go_enter Try.func8, Try.ntmps8
    go_wp2_with fail
    refine (PFnJRelative.spec_JUtf8.calls K0 s o _ HK0.out).mono ?_
    rintro e w2 ⟨rfl, ⟨n, rfl⟩⟩
    have hbr := pw_below_drewN (Below.refl w.heap.size w) n
    generalize w.drewN n = wa at *
    cases o with
    | false =>
      go_wp2_with fail
      go_ret
      exact ⟨rfl, hbr⟩
    | true =>
      go_wp2_with fail
      refine (PFnJRelative.spec_JShifts.calls K1 s o1 _ HK1.out).mono ?_
      rintro e w2 ⟨rfl, ⟨n2, rfl⟩⟩
      have hbr := pw_below_drewN hbr n2
      generalize wa.drewN n2 = wb at *
      cases o1 with
      | true =>
        go_wp2_with fail
        go_ret
        exact ⟨rfl, hbr⟩
      | false =>
        go_wp2_with fail
        refine (implRel s _ (by omega)).mono ?_
        rintro e w1 ⟨⟨b, rfl, hb1⟩, hb⟩
        have hbr := fin0 hbr hbr.size hb
        have hbc : b = c := bool_of_iff hb1 HC.out Iff.rfl
        subst hbc
        have hself : (b == b) = true := by simp
        clear hb1
        go_wp2_with fail
        refine (PFnJRelative.spec_JRelative.calls K s b _ HK.out).mono ?_
        rintro e w2 ⟨rfl, ⟨n3, rfl⟩⟩
        go_wp2_with fail
        go_ret
        exact ⟨by simp, pw_below_drewN hbr n3⟩
  · go_enter Try.func8, Try.ntmps8
    go_wp2_with fail
    go_ret
    exact ⟨rfl, Below.refl _ _⟩
end Go.Proofs.Ytdjmjgdafghdgaa.LRel
