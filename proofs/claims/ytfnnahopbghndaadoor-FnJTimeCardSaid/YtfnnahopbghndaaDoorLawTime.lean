/- FnJTime: for every text of at most 2^31-1 bytes whose second is not 60, without a sign but that of an offset, impl.JTime and spec.JTime answer the same. -/
import Derived.Test.YtfnnahopbghndaaDoorSpecTimeJTime
import Derived.Test.YtfnnahopbghndaaDoorPjSixtyx1
import Derived.Test.YtfnnahopbghndaaDoorPjSignx1
import Derived.Test.YtfnnahopbghndaaDoorRows
namespace Go.Proofs.YtfnnahopbghndaaDoor.LTM
open Go.RowKit Go.Proofs.YtfnnahopbghndaaDoorW.PrintWords Go.Proofs.YtfnnahopbghndaaDoorW.PrintLast Go.Proofs.YtfnnahopbghndaaDoor.K Go.Proofs.YtfnnahopbghndaaDoor.Fmt
set_option linter.unusedVariables false
set_option linter.unusedSimpArgs false

theorem sixtyS (s : ByteArray) : ∃ b, PjSixty.laws_jSixty.f s 6 = some b ∧ (b = true ↔ ((bs s)[6]? = some 54 ∧ (bs s)[7]? = some 48)) := by
  have hl := bs_len s
  have w1 : wrap64 (6 + 2) = 8 := by rw [wrap_in (by omega) (by omega)]; rfl
  have w2 : wrap64 (6 + 1) = 7 := by rw [wrap_in (by omega) (by omega)]; rfl
  unfold PjSixty.laws_jSixty.f
  rw [w1, w2]
  by_cases h : (s.size : Int) ≥ 8
  · have hb6 : bt s 6 = (((bs s)[6]'(by omega)).toNat : Int) := bt_nat s 6 (by omega)
    have hb7 : bt s 7 = (((bs s)[7]'(by omega)).toNat : Int) := bt_nat s 7 (by omega)
    have g6 : (bs s)[6]? = some ((bs s)[6]'(by omega)) := List.getElem?_eq_getElem _
    have g7 : (bs s)[7]? = some ((bs s)[7]'(by omega)) := List.getElem?_eq_getElem _
    rw [if_pos h, if_pos (by omega), if_pos (by omega), g6, g7, hb6, hb7]
    by_cases h6 : (bs s)[6]'(by omega) = 54
    · rw [if_pos (by rw [h6]; rfl), if_pos (by omega), if_pos (by omega)]
      refine ⟨_, rfl, ?_⟩
      rw [beq_iff_eq, h6, Option.some.injEq, Option.some.injEq]
      constructor
      · intro k; exact ⟨rfl, (eq_toNat _ 48).1 k⟩
      · rintro ⟨_, k⟩; rw [k]; rfl
    · have n6 : ¬ ((((bs s)[6]'(by omega)).toNat : Int) = 54) := fun e => h6 ((eq_toNat _ 54).1 e)
      rw [if_neg n6]
      refine ⟨false, rfl, ?_⟩
      rw [Option.some.injEq]
      simp [h6]
  · rw [if_neg h]
    refine ⟨false, rfl, ?_⟩
    rw [List.getElem?_eq_none (i := 7) (by omega)]
    simp
open Go.Proofs.YtfnnahopbghndaaDoor.PjSign in
theorem signLoop (s : ByteArray) (hs : s.size ≤ 2147483647) (d : Nat) : ∀ m i : Nat, m ≤ 1 → i ≤ s.size → s.size - i = d →
    ∃ b, Ev (fun k => laws_jSign.l0 k s m i) b ∧ (b = false → ((bs s).drop i).countP sgn + m ≤ 1 ∧ ∀ x ∈ ((bs s).take 8).drop i, sgn x = false) := by
  have hl := bs_len s
  induction d with
  | zero =>
    intro m i hm hi hd
    refine ⟨false, ev_succ 0 fun k _ => ?_, fun _ => ?_⟩
    · simp only [laws_jSign.l0]
      rw [if_neg (by omega)]
    · rw [List.drop_of_length_le (by omega), List.drop_of_length_le (by rw [List.length_take]; omega)]
      simp; omega
  | succ d ih =>
    intro m i hm hi hd
    have hlt : i < (bs s).length := by omega
    have ew' : wrap64 ((i : Int) + 1) = ((i + 1 : Nat) : Int) := by rw [wrap_in (by omega) (by omega)]; omega
    have em : wrap64 ((m : Int) + 1) = ((m + 1 : Nat) : Int) := by rw [wrap_in (by omega) (by omega)]; omega
    have hbt := bt_nat s i hlt
    have hcons : i < 8 → ((bs s).take 8).drop i = (bs s)[i] :: ((bs s).take 8).drop (i + 1) := by
      intro h8
      rw [List.drop_eq_getElem_cons (by rw [List.length_take]; omega), List.getElem_take]
    have hnil : ¬ i < 8 → ((bs s).take 8).drop i = [] := fun h8 => List.drop_of_length_le (by rw [List.length_take]; omega)
    have into : ∀ (q : Bool) (b : Bool), sgn (bs s)[i] = q → Ev (fun k => laws_jSign.j1 k s m i q) b → Ev (fun k => laws_jSign.l0 k s m i) b := by
      rintro q b hq ⟨K, hK⟩
      refine ev_succ K fun k hk => ?_
      simp only [laws_jSign.l0, hbt]
      rw [if_pos (by omega), if_pos (by omega)]
      by_cases h43 : (bs s)[i] = 43
      · rw [if_pos (by rw [h43]; rfl)]
        rw [h43] at hq
        subst hq
        exact hK k hk
      · have n43 : ¬ ((((bs s)[i]).toNat : Int) = 43) := fun e => h43 ((eq_toNat _ 43).1 e)
        rw [if_neg n43]
        have : ((((bs s)[i]).toNat : Int) == 45) = q := by
          rw [← hq]
          unfold sgn
          rw [Bool.eq_iff_iff, beq_iff_eq, Bool.or_eq_true, beq_iff_eq, beq_iff_eq]
          constructor
          · intro e; exact .inr ((eq_toNat _ 45).1 e)
          · rintro (e | e)
            · exact absurd e h43
            · rw [e]; rfl
        rw [this]
        exact hK k hk
    cases hq : sgn (bs s)[i] with
    | true =>
      by_cases h8 : (i : Int) < 8
      · refine ⟨true, into true true hq (ev_succ 0 fun k _ => ?_), fun h => by cases h⟩
        simp only [laws_jSign.j1]
        rw [if_pos trivial, if_pos h8]
      · by_cases hm1 : ((m + 1 : Nat) : Int) > 1
        · refine ⟨true, into true true hq (ev_succ 0 fun k _ => ?_), fun h => by cases h⟩
          simp only [laws_jSign.j1, em]
          rw [if_pos trivial, if_neg h8, if_pos hm1]
        · obtain ⟨b, ⟨K, hK⟩, hb⟩ := ih (m + 1) (i + 1) (by omega) (by omega) (by omega)
          refine ⟨b, into true b hq (ev_succ K fun k hk => ?_), fun h => ?_⟩
          · simp only [laws_jSign.j1, em, ew']
            rw [if_pos trivial, if_neg h8, if_neg hm1]
            exact hK k hk
          · obtain ⟨h1, h2⟩ := hb h
            rw [List.drop_eq_getElem_cons hlt, List.countP_cons_of_pos hq, hnil (by omega)]
            exact ⟨by omega, by simp⟩
    | false =>
      obtain ⟨b, ⟨K, hK⟩, hb⟩ := ih m (i + 1) (by omega) (by omega) (by omega)
      refine ⟨b, into false b hq (ev_succ K fun k hk => ?_), fun h => ?_⟩
      · simp only [laws_jSign.j1, ew']
        rw [if_neg (by simp)]
        exact hK k hk
      · obtain ⟨h1, h2⟩ := hb h
        rw [List.drop_eq_getElem_cons hlt, List.countP_cons_of_neg (by simp [hq])]
        refine ⟨h1, ?_⟩
        by_cases h8 : i < 8
        · rw [hcons h8]
          intro x hx
          rcases List.mem_cons.1 hx with rfl | hx
          · exact hq
          · exact h2 x hx
        · rw [hnil h8]; simp
open Go.Proofs.YtfnnahopbghndaaDoor.PjSign in
theorem signS (s : ByteArray) (hs : s.size ≤ 2147483647) : ∃ b, Ev (fun k => laws_jSign.f k s) b ∧ (b = false → (bs s).countP sgn ≤ 1 ∧ ∀ x ∈ (bs s).take 8, sgn x = false) := by
  obtain ⟨b, h1, h2⟩ := signLoop s hs s.size 0 0 (by omega) (by omega) (by omega)
  rw [List.drop_zero, List.drop_zero] at h2
  exact ⟨b, h1, h2⟩

set_option maxHeartbeats 1000000 in
theorem walk (s : ByteArray) (w : World) (_hs : s.size ≤ 140737488351232) (hL : laidMetH Tryd.prog Rows.fnJTimeRow.laid w) :
    Calls Tryd.prog 5 #[.string s] w fun e w' => e = .returned (.bool true) ∧ Below w.heap.size w w' := by
  have HKp : Hid (Kept w) := Lib.hid (Errs.of_laid hL)
  clear hL
  by_cases hbig : s.size ≤ 2147483647
  · obtain ⟨p, hp1, hp⟩ := sixtyS s
    obtain ⟨q, ⟨K2, hK2⟩, hq⟩ := signS s hbig
    have HK1 := Lib.hid hp1
    have HK2 := Lib.hid (hK2 K2 (Nat.le_refl _))
    have HP := Lib.hid hp
    have HQ := Lib.hid hq
    clear hp1 hK2 hp hq
    go_enter Tryd.func5, Tryd.ntmps5
    go_wp2_with fail
    refine (PjSixty.laws_jSixty.calls s 6 p _ HK1.out).mono ?_
    rintro e w1 ⟨rfl, ⟨n1, rfl⟩⟩
    have hb1 := pw_below_drewN (Below.refl w.heap.size w) n1
    cases p with
    | true =>
      go_wp2_with fail
      go_ret
      exact ⟨rfl, hb1⟩
    | false =>
      go_wp2_with fail
      refine (PjSign.laws_jSign.calls K2 s q _ HK2.out).mono ?_
      rintro e w2 ⟨rfl, ⟨n2, rfl⟩⟩
      have hb2 := pw_below_drewN (Below.refl w.heap.size w) (n1 + n2)
      cases q with
      | true =>
        go_wp2_with fail
        go_ret
        exact ⟨rfl, hb2⟩
      | false =>
        have h60 : Hid (¬ ((bs s)[6]? = some 54 ∧ (bs s)[7]? = some 48)) := Lib.hid (fun k => by have := HP.out.2 k; cases this)
        have hsg : Hid ((bs s).countP sgn ≤ 1 ∧ ∀ x ∈ (bs s).take 8, sgn x = false) := Lib.hid (HQ.out rfl)
        obtain ⟨c, ⟨K3, hK3⟩, hc⟩ := STmJTime.timeS s hbig h60.out
        have HK3 := Lib.hid (hK3 K3 (Nat.le_refl _))
        have HC := Lib.hid hc
        clear hK3 hc
        go_wp2_with fail
        refine (implTime s _ (by omega) (HKp.out.below hb2)).mono ?_
        rintro e w4 ⟨⟨b, rfl, hb1'⟩, hb4⟩
        have HB := Lib.hid hb1'
        have hb5 := hb2.trans (hb4.mono hb2.size)
        clear hb1' hb4
        go_wp2_with fail
        refine (PJTime.spec_JTime.calls K3 s c _ HK3.out).mono ?_
        rintro e w5 ⟨rfl, ⟨n5, rfl⟩⟩
        go_wp2_with fail
        go_ret
        have hbc : b = c := by
          rw [Bool.eq_iff_iff, HB.out, HC.out]
          exact time_iff (bs s) hsg.out.2 hsg.out.1 h60.out
        subst hbc
        exact ⟨by simp, pw_below_drewN hb5 n5⟩
  · go_enter Tryd.func5, Tryd.ntmps5
    go_wp2_with fail
    go_ret
    exact ⟨rfl, Below.refl _ _⟩
end Go.Proofs.YtfnnahopbghndaaDoor.LTM
