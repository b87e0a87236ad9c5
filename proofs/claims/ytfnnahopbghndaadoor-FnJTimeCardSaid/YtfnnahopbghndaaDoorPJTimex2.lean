-- PRINTED BY print.sh 35421559b90ae4d0a3588c463048766b98c2df88dd9212a6774a882060cdf62d: not written by this session
import Derived.Test.YtfnnahopbghndaaDoorPJTimex0
import Derived.Test.YtfnnahopbghndaaDoorPJTimex1
namespace Go.Proofs.YtfnnahopbghndaaDoor.PJTime
open Go.RowKit Go.Proofs.YtfnnahopbghndaaDoorW.PrintWords Go.Proofs.YtfnnahopbghndaaDoorW.PrintLast Go.Proofs.YtfnnahopbghndaaDoorW.PrintMore
attribute [local go_sem] max2_int min2_int max_two min_two max_three min_three max_four min_four   -- for this text's walks alone
set_option linter.unusedVariables false
set_option linter.unusedSimpArgs false

/-! ### spec_JTime: function 19 -/
mutual
def spec_JTime.j0 : Nat → ByteArray → Bool → Option (Bool)
  | 0, _, _ => none
  | k + 1, x0, x24 => if x24 = true then (some false) else (if 0 ≤ 5 then (if 5 ≤ (x0.size : Int) then ((spec_jClock.f k (x0.extract 0 5)).bind fun bt110 => (if 6 ≤ 8 then (if 8 ≤ (x0.size : Int) then ((spec_jNumber.f k (x0.extract 6 8)).bind fun t113 => (if 8 < (x0.size : Int) then (if (bt x0 8) = 46 then (spec_JTime.l0 k x0 bt110.1 bt110.2.1 bt110.2.2 t113 (8 + 1)) else ((spec_jOffset.f k (x0.extract 8 x0.size)).bind fun bt117 => (if bt110.2.2 = true then (if bt117.2 = true then (if t113 > 60 then (some false) else (if t113 < 60 then (some true) else (some ((Int.tmod (wrap64 ((wrap64 ((wrap64 ((wrap64 (60 * bt110.1)) + bt110.2.1)) - bt117.1)) + 2880)) 1440) == 1439)))) else (some false)) else (some false)))) else (none))) else (none)) else (none))) else (none)) else (none))
def spec_JTime.j2 : Nat → ByteArray → Int → Int → Bool → Int → Int → Option (Bool)
  | 0, _, _, _, _, _, _ => none
  | k + 1, x0, x3, x4, x5, x6, x7 => if x7 = 9 then (some false) else (if 0 ≤ x7 then (if x7 ≤ (x0.size : Int) then ((spec_jOffset.f k (x0.extract (x7 : Int).toNat x0.size)).bind fun bt115 => (if x5 = true then (if bt115.2 = true then (if x6 > 60 then (some false) else (if x6 < 60 then (some true) else (some ((Int.tmod (wrap64 ((wrap64 ((wrap64 ((wrap64 (60 * x3)) + x4)) - bt115.1)) + 2880)) 1440) == 1439)))) else (some false)) else (some false))) else (none)) else (none))
def spec_JTime.l0 : Nat → ByteArray → Int → Int → Bool → Int → Int → Option (Bool)
  | 0, _, _, _, _, _, _ => none
  | k + 1, x0, x3, x4, x5, x6, x7 => if x7 < (x0.size : Int) then (if 0 ≤ x7 then ((spec_jDigit.f (bt x0 x7)).bind fun t114 => (if t114 = true then (spec_JTime.l0 k x0 x3 x4 x5 x6 (wrap64 (x7 + 1))) else (spec_JTime.j2 k x0 x3 x4 x5 x6 x7))) else (none)) else (spec_JTime.j2 k x0 x3 x4 x5 x6 x7)
end
def spec_JTime.f (k : Nat) (a0 : ByteArray) : Option (Bool) := if (a0.size : Int) < 9 then (spec_JTime.j0 k a0 true) else (if 5 < (a0.size : Int) then (if (bt a0 5) = 58 then (if 6 ≤ 8 then (if 8 ≤ (a0.size : Int) then ((spec_jDigits.f k (a0.extract 6 8)).bind fun t109 => (spec_JTime.j0 k a0 (!t109))) else (none)) else (none)) else (spec_JTime.j0 k a0 true)) else (none))
theorem spec_JTime.mono_l : ∀ k, (∀ y0 y1, LeO (spec_JTime.j0 k y0 y1) (spec_JTime.j0 (k + 1) y0 y1)) ∧ (∀ y0 y1 y2 y3 y4 y5, LeO (spec_JTime.j2 k y0 y1 y2 y3 y4 y5) (spec_JTime.j2 (k + 1) y0 y1 y2 y3 y4 y5)) ∧ (∀ y0 y1 y2 y3 y4 y5, LeO (spec_JTime.l0 k y0 y1 y2 y3 y4 y5) (spec_JTime.l0 (k + 1) y0 y1 y2 y3 y4 y5))
  | 0 => ⟨fun _ _ r h => by simp [spec_JTime.j0] at h, fun _ _ _ _ _ _ r h => by simp [spec_JTime.j2] at h, fun _ _ _ _ _ _ r h => by simp [spec_JTime.l0] at h⟩
  | k + 1 => by
    obtain ⟨ih0, ih1, ih2⟩ := spec_JTime.mono_l k
    refine ⟨?_, ?_, ?_⟩
    · intro y0 y1
      unfold spec_JTime.j0
      repeat' first
      | (with_reducible exact ih0 _ _)
      | (with_reducible exact ih1 _ _ _ _ _ _)
      | (with_reducible exact ih2 _ _ _ _ _ _)
      | (with_reducible exact spec_jClock.mono _ _)
      | (with_reducible exact spec_jDigits.mono _ _)
      | (with_reducible exact spec_jNumber.mono _ _)
      | (with_reducible exact spec_jOffset.mono _ _)
      | (with_reducible exact LeO.refl _)
      | (with_reducible exact LeO.none _)
      | (with_reducible refine LeO.ite ?_ ?_)
      | (with_reducible refine LeO.bind ?_ (fun _ => ?_))
      | exact ih0 _ _
      | exact ih1 _ _ _ _ _ _
      | exact ih2 _ _ _ _ _ _
      | exact spec_jClock.mono _ _
      | exact spec_jDigits.mono _ _
      | exact spec_jNumber.mono _ _
      | exact spec_jOffset.mono _ _
      | exact LeO.none _
      | refine LeO.ite ?_ ?_
      | refine LeO.bind ?_ (fun _ => ?_)
    · intro y0 y1 y2 y3 y4 y5
      unfold spec_JTime.j2
      repeat' first
      | (with_reducible exact ih0 _ _)
      | (with_reducible exact ih1 _ _ _ _ _ _)
      | (with_reducible exact ih2 _ _ _ _ _ _)
      | (with_reducible exact spec_jClock.mono _ _)
      | (with_reducible exact spec_jDigits.mono _ _)
      | (with_reducible exact spec_jNumber.mono _ _)
      | (with_reducible exact spec_jOffset.mono _ _)
      | (with_reducible exact LeO.refl _)
      | (with_reducible exact LeO.none _)
      | (with_reducible refine LeO.ite ?_ ?_)
      | (with_reducible refine LeO.bind ?_ (fun _ => ?_))
      | exact ih0 _ _
      | exact ih1 _ _ _ _ _ _
      | exact ih2 _ _ _ _ _ _
      | exact spec_jClock.mono _ _
      | exact spec_jDigits.mono _ _
      | exact spec_jNumber.mono _ _
      | exact spec_jOffset.mono _ _
      | exact LeO.none _
      | refine LeO.ite ?_ ?_
      | refine LeO.bind ?_ (fun _ => ?_)
    · intro y0 y1 y2 y3 y4 y5
      unfold spec_JTime.l0
      repeat' first
      | (with_reducible exact ih0 _ _)
      | (with_reducible exact ih1 _ _ _ _ _ _)
      | (with_reducible exact ih2 _ _ _ _ _ _)
      | (with_reducible exact spec_jClock.mono _ _)
      | (with_reducible exact spec_jDigits.mono _ _)
      | (with_reducible exact spec_jNumber.mono _ _)
      | (with_reducible exact spec_jOffset.mono _ _)
      | (with_reducible exact LeO.refl _)
      | (with_reducible exact LeO.none _)
      | (with_reducible refine LeO.ite ?_ ?_)
      | (with_reducible refine LeO.bind ?_ (fun _ => ?_))
      | exact ih0 _ _
      | exact ih1 _ _ _ _ _ _
      | exact ih2 _ _ _ _ _ _
      | exact spec_jClock.mono _ _
      | exact spec_jDigits.mono _ _
      | exact spec_jNumber.mono _ _
      | exact spec_jOffset.mono _ _
      | exact LeO.none _
      | refine LeO.ite ?_ ?_
      | refine LeO.bind ?_ (fun _ => ?_)
theorem spec_JTime.mono : ∀ a0 k, LeO (spec_JTime.f k a0) (spec_JTime.f (k + 1) a0) := by
  intro a0 k
  obtain ⟨ih0, ih1, ih2⟩ := spec_JTime.mono_l k
  unfold spec_JTime.f
  repeat' first
      | (with_reducible exact ih0 _ _)
      | (with_reducible exact ih1 _ _ _ _ _ _)
      | (with_reducible exact ih2 _ _ _ _ _ _)
      | (with_reducible exact spec_jClock.mono _ _)
      | (with_reducible exact spec_jDigits.mono _ _)
      | (with_reducible exact spec_jNumber.mono _ _)
      | (with_reducible exact spec_jOffset.mono _ _)
      | (with_reducible exact LeO.refl _)
      | (with_reducible exact LeO.none _)
      | (with_reducible refine LeO.ite ?_ ?_)
      | (with_reducible refine LeO.bind ?_ (fun _ => ?_))
      | exact ih0 _ _
      | exact ih1 _ _ _ _ _ _
      | exact ih2 _ _ _ _ _ _
      | exact spec_jClock.mono _ _
      | exact spec_jDigits.mono _ _
      | exact spec_jNumber.mono _ _
      | exact spec_jOffset.mono _ _
      | exact LeO.none _
      | refine LeO.ite ?_ ?_
      | refine LeO.bind ?_ (fun _ => ?_)
set_option maxHeartbeats 8000000 in
set_option maxRecDepth 100000 in
theorem spec_JTime.calls (k : Nat) (a0 : ByteArray) (r : Bool) (w : World) (h : spec_JTime.f k a0 = some r) :
    Calls Tryd.prog 19 #[.string a0] w fun e w' => e = .returned (.bool r) ∧ Drawn0 w w' := by
  have H : (if (a0.size : Int) < 9 then (spec_JTime.j0 k a0 true) else (if 5 < (a0.size : Int) then (if (bt a0 5) = 58 then (if 6 ≤ 8 then (if 8 ≤ (a0.size : Int) then ((spec_jDigits.f k (a0.extract 6 8)).bind fun t109 => (spec_JTime.j0 k a0 (!t109))) else (none)) else (none)) else (spec_JTime.j0 k a0 true)) else (none))) = some r := h
  clear h
  have HC2 := Aside0.mk H
  clear H
  go_enter Tryd.func19, Tryd.ntmps19
  go_upto_region 1 with (fail)
  go_cut [24] (fun v24 wc => ∃ (kq : Nat) (x24_1 : Bool), v24 = .bool x24_1 ∧ Aside0 (spec_JTime.j0 kq a0 x24_1 = some r) ∧ Aside0 (kq ≤ k) ∧ Drawn0 w wc)
  case first =>
    have H := HC2.out
    clear HC2
    by_cases c3 : (a0.size : Int) < 9
    · rw [if_pos c3] at H
      have c3b0 : decide ((a0.size : Int) < 9) = true := decide_eq_true c3
      have c3b1 : decide (a0.size < 9) = true := decide_eq_true (by omega)
      clear c3
      (first | rw [c3b0] | (simp only [i64_w, i32_w]; rw [c3b0]) | skip)
      have H' := Aside0.mk H
      clear H
      go_wp2
      go_meet
      case rel => exact ⟨_, (true), (by first | rfl | (simp; done) | (simp [*]; done)), H', ⟨by first | omega | exact Nat.le_refl _⟩, by repeat (first | exact Drawn0.refl _ | apply Drawn0.step)⟩
    · rw [if_neg c3] at H
      have c3b0 : decide ((a0.size : Int) < 9) = false := decide_eq_false c3
      have c3b1 : decide (a0.size < 9) = false := decide_eq_false (by omega)
      clear c3
      (first | rw [c3b0] | (simp only [i64_w, i32_w]; rw [c3b0]) | skip)
      by_cases c4 : 5 < (a0.size : Int)
      · rw [if_pos c4] at H
        have c4b0 : decide (5 < (a0.size : Int)) = true := decide_eq_true c4
        have c4b1 : decide (5 < a0.size) = true := decide_eq_true (by omega)
        clear c4
        by_cases c6 : (bt a0 5) = 58
        · rw [if_pos c6] at H
          have c6b0 : ((bt a0 5) == 58) = true := beq_iff_eq.mpr c6
          have c6b1 : ((bt a0 5) != 58) = false := bne_eq_false_iff_eq.mpr c6
          clear c6
          by_cases c7 : 6 ≤ 8
          · rw [if_pos c7] at H
            have c7b0 := eq_true c7
            have c7b1 : decide (6 ≤ 8) = true := decide_eq_true c7
            clear c7
            by_cases c8 : 8 ≤ (a0.size : Int)
            · rw [if_pos c8] at H
              have c8b0 := eq_true c8
              have c8b1 : decide (8 ≤ (a0.size : Int)) = true := decide_eq_true c8
              clear c8
              replace H := Option.bind_eq_some_iff.mp H
              obtain ⟨t109, A90, H⟩ := H
              replace H : (spec_JTime.j0 k a0 (!t109)) = some r := H
              have A9 := Aside0.mk A90
              clear A90
              have H' := Aside0.mk H
              clear H
              have p5 : 0 ≤ (5 : Int) := (by omega)
              have q5 : 5 < a0.size := (by have : (5 : Int) < (a0.size : Int) := of_decide_eq_true (by first | (with_reducible assumption) | assumption); omega)
              have hx5 : ∀ h : 5 < a0.size, ((a0[5]'h).toNat : Int) = bt a0 5 := bt_at a0 5
              clear p5
              have qi5 : (5 < (a0.size : Int)) = True := eq_true (of_decide_eq_true (by first | (with_reducible assumption) | assumption))
              replace q5 := eq_true q5
              go_wp2_with (first | (go_at_call 30; (with_reducible refine (spec_jDigits.calls k (a0.extract 6 8) t109 _ A9.out).mono ?_); rintro e w' ⟨rfl, ⟨nd, rfl⟩⟩))
              go_meet
              case rel => exact ⟨_, (!t109), (by first | rfl | (simp; done) | (simp [*]; done)), H', ⟨by first | omega | exact Nat.le_refl _⟩, by repeat (first | exact Drawn0.refl _ | apply Drawn0.step)⟩
            · rw [if_neg c8] at H
              exact absurd H (by simp)
          · rw [if_neg c7] at H
            exact absurd H (by simp)
        · rw [if_neg c6] at H
          have c6b0 : ((bt a0 5) == 58) = false := beq_eq_false_iff_ne.mpr c6
          have c6b1 : ((bt a0 5) != 58) = true := bne_iff_ne.mpr c6
          have H' := Aside0.mk H
          clear H
          have p5 : 0 ≤ (5 : Int) := (by omega)
          have q5 : 5 < a0.size := (by have : (5 : Int) < (a0.size : Int) := of_decide_eq_true (by first | (with_reducible assumption) | assumption); omega)
          have hx5 : ∀ h : 5 < a0.size, ((a0[5]'h).toNat : Int) = bt a0 5 := bt_at a0 5
          clear p5
          have qi5 : (5 < (a0.size : Int)) = True := eq_true (of_decide_eq_true (by first | (with_reducible assumption) | assumption))
          replace q5 := eq_true q5
          go_wp2
          go_meet
          case rel => exact ⟨_, (true), (by first | rfl | (simp; done) | (simp [*]; done)), H', ⟨by first | omega | exact Nat.le_refl _⟩, by repeat (first | exact Drawn0.refl _ | apply Drawn0.step)⟩
      · rw [if_neg c4] at H
        exact absurd H (by simp)
  case rest =>
    clear HC2
    try clear c1
    try clear p2
    try clear c3
    try clear c3b0
    try clear c3b1
    try clear c4
    try clear c4b0
    try clear c4b1
    try clear p5
    try clear q5
    try clear hx5
    try clear qi5
    try clear c6
    try clear c6b0
    try clear c6b1
    try clear c7
    try clear c7b0
    try clear c7b1
    try clear c8
    try clear c8b0
    try clear c8b1
    try clear p5
    try clear q5
    obtain ⟨kq, x24_1, rfl, HA, HJ1, ⟨mc1, rfl⟩⟩ := hcut
    cases kq with
    | zero => exact absurd HA.out (by simp [spec_JTime.j0])
    | succ kj1 =>
      have H := HA.out
      clear HA
      simp only [spec_JTime.j0] at H
      by_cases c10 : x24_1 = true
      · subst c10
        have H1 : (some false) = some r := by rw [if_pos rfl] at H; exact H
        clear H
        have H := H1
        clear H1
        obtain rfl := Option.some.inj H
        go_wp2
        go_ret
        exact ⟨by first | rfl | (simp; done) | (simp [*]; done), by repeat (first | exact Drawn0.refl _ | apply Drawn0.step)⟩
      · replace c10 := Bool.eq_false_iff.mpr c10
        subst c10
        have H1 : (if 0 ≤ 5 then (if 5 ≤ (a0.size : Int) then ((spec_jClock.f kj1 (a0.extract 0 5)).bind fun bt110 => (if 6 ≤ 8 then (if 8 ≤ (a0.size : Int) then ((spec_jNumber.f kj1 (a0.extract 6 8)).bind fun t113 => (if 8 < (a0.size : Int) then (if (bt a0 8) = 46 then (spec_JTime.l0 kj1 a0 bt110.1 bt110.2.1 bt110.2.2 t113 (8 + 1)) else ((spec_jOffset.f kj1 (a0.extract 8 a0.size)).bind fun bt117 => (if bt110.2.2 = true then (if bt117.2 = true then (if t113 > 60 then (some false) else (if t113 < 60 then (some true) else (some ((Int.tmod (wrap64 ((wrap64 ((wrap64 ((wrap64 (60 * bt110.1)) + bt110.2.1)) - bt117.1)) + 2880)) 1440) == 1439)))) else (some false)) else (some false)))) else (none))) else (none)) else (none))) else (none)) else (none)) = some r := by rw [if_neg (show ¬ (false = true) by decide)] at H; exact H
        clear H
        have H := H1
        clear H1
        by_cases c11 : 0 ≤ 5
        · rw [if_pos c11] at H
          have c11b0 := eq_true c11
          have c11b1 : decide (0 ≤ 5) = true := decide_eq_true c11
          clear c11
          by_cases c12 : 5 ≤ (a0.size : Int)
          · rw [if_pos c12] at H
            have c12b0 := eq_true c12
            have c12b1 : decide (5 ≤ (a0.size : Int)) = true := decide_eq_true c12
            clear c12
            replace H := Option.bind_eq_some_iff.mp H
            obtain ⟨⟨t110, t111, t112⟩, A130, H⟩ := H
            replace H : (if 6 ≤ 8 then (if 8 ≤ (a0.size : Int) then ((spec_jNumber.f kj1 (a0.extract 6 8)).bind fun t113 => (if 8 < (a0.size : Int) then (if (bt a0 8) = 46 then (spec_JTime.l0 kj1 a0 t110 t111 t112 t113 (8 + 1)) else ((spec_jOffset.f kj1 (a0.extract 8 a0.size)).bind fun bt117 => (if t112 = true then (if bt117.2 = true then (if t113 > 60 then (some false) else (if t113 < 60 then (some true) else (some ((Int.tmod (wrap64 ((wrap64 ((wrap64 ((wrap64 (60 * t110)) + t111)) - bt117.1)) + 2880)) 1440) == 1439)))) else (some false)) else (some false)))) else (none))) else (none)) else (none)) = some r := H
            have A13 := Aside0.mk A130
            clear A130
            by_cases c14 : 6 ≤ 8
            · rw [if_pos c14] at H
              have c14b0 := eq_true c14
              have c14b1 : decide (6 ≤ 8) = true := decide_eq_true c14
              clear c14
              by_cases c15 : 8 ≤ (a0.size : Int)
              · rw [if_pos c15] at H
                have c15b0 := eq_true c15
                have c15b1 : decide (8 ≤ (a0.size : Int)) = true := decide_eq_true c15
                clear c15
                replace H := Option.bind_eq_some_iff.mp H
                obtain ⟨t113, A160, H⟩ := H
                replace H : (if 8 < (a0.size : Int) then (if (bt a0 8) = 46 then (spec_JTime.l0 kj1 a0 t110 t111 t112 t113 (8 + 1)) else ((spec_jOffset.f kj1 (a0.extract 8 a0.size)).bind fun bt117 => (if t112 = true then (if bt117.2 = true then (if t113 > 60 then (some false) else (if t113 < 60 then (some true) else (some ((Int.tmod (wrap64 ((wrap64 ((wrap64 ((wrap64 (60 * t110)) + t111)) - bt117.1)) + 2880)) 1440) == 1439)))) else (some false)) else (some false)))) else (none)) = some r := H
                have A16 := Aside0.mk A160
                clear A160
                by_cases c17 : 8 < (a0.size : Int)
                · rw [if_pos c17] at H
                  have c17b0 : decide (8 < (a0.size : Int)) = true := decide_eq_true c17
                  have c17b1 : decide (8 < a0.size) = true := decide_eq_true (by omega)
                  clear c17
                  by_cases c19 : (bt a0 8) = 46
                  · rw [if_pos c19] at H
                    have c19b0 : ((bt a0 8) == 46) = true := beq_iff_eq.mpr c19
                    have c19b1 : ((bt a0 8) != 46) = false := bne_eq_false_iff_eq.mpr c19
                    clear c19
                    have HC20 := Aside0.mk H
                    clear H
                    go_upto_block 0 with (first | ((with_reducible refine gate_callee (f := 31) rfl ?_); refine goesL_ (some 28) rfl rfl Tryd.func31 (by kernel_rfl) rfl #[.string (a0.extract 0 5)] rfl (by (try simp only [List.map_toArray, List.map_cons, List.map_nil]); first | done | rfl | (simp only [List.length_drop, List.length_take]; rfl)) ?_; (with_reducible refine (spec_jClock.calls kj1 (a0.extract 0 5) t110 t111 t112 _ A13.out).mono ?_); rintro e w' ⟨rfl, ⟨nd, rfl⟩⟩; refine ⟨_, rfl, ?_⟩) | ((with_reducible refine gate_callee (f := 32) rfl ?_); refine goesL_ (some 34) rfl rfl Tryd.func32 (by kernel_rfl) rfl #[.string (a0.extract 6 8)] rfl (by (try simp only [List.map_toArray, List.map_cons, List.map_nil]); first | done | rfl | (simp only [List.length_drop, List.length_take]; rfl)) ?_; (with_reducible refine (spec_jNumber.calls kj1 (a0.extract 6 8) t113 _ A16.out).mono ?_); rintro e w' ⟨rfl, ⟨nd, rfl⟩⟩; refine ⟨_, rfl, ?_⟩; have p18 : 0 ≤ (8 : Int) := (by omega); have q18 : 8 < a0.size := (by have : (8 : Int) < (a0.size : Int) := of_decide_eq_true (by first | (with_reducible assumption) | assumption); omega); have hx18 : ∀ h : 8 < a0.size, ((a0[8]'h).toNat : Int) = bt a0 8 := bt_at a0 8; clear p18; have qi18 : (8 < (a0.size : Int)) = True := eq_true (of_decide_eq_true (by first | (with_reducible assumption) | assumption)); replace q18 := eq_true q18))
                    (try simp only [Act.put, List.setIfInBounds_toArray, List.set_cons_zero, List.set_cons_succ])
                    go_cut [7] (fun v7 wc => ∃ (kq : Nat) (x7_19 : Int), v7 = .int .i64 x7_19 ∧ Aside0 (spec_JTime.j2 kq a0 t110 t111 t112 t113 x7_19 = some r) ∧ Aside0 (kq ≤ kj1) ∧ Drawn0 w wc)
                    case first =>
                      have H := HC20.out
                      clear HC20
                      have H' := Aside0.mk H
                      clear H
                      go_wp2
                      go_loopg [7] kj1 (fun kq v7 w' => ∃ (x7_2 : Int), v7 = .int .i64 x7_2 ∧ Aside0 (spec_JTime.l0 kq a0 t110 t111 t112 t113 x7_2 = some r) ∧ Aside0 (kq ≤ kj1) ∧ Drawn0 w w')
                      case atStart => exact ⟨(8 + 1), (by first | rfl | (simp; done) | (simp [*]; done)), H', ⟨Nat.le_refl _⟩, by repeat (first | exact Drawn0.refl _ | apply Drawn0.step)⟩
                      case round =>
                        clear H'
                        try clear c1
                        try clear p1
                        try clear q1
                        try clear hx1
                        try clear qi1
                        try clear p2
                        try clear c3
                        try clear c3b0
                        try clear c3b1
                        try clear c4
                        try clear c4b0
                        try clear c4b1
                        try clear p5
                        try clear q5
                        try clear hx5
                        try clear qi5
                        try clear c6
                        try clear c6b0
                        try clear c6b1
                        try clear p6
                        try clear c7
                        try clear c7b0
                        try clear c7b1
                        try clear c8
                        try clear c8b0
                        try clear c8b1
                        try clear c10
                        try clear c11
                        try clear c11b0
                        try clear c11b1
                        try clear c12
                        try clear c12b0
                        try clear c12b1
                        try clear c14
                        try clear c14b0
                        try clear c14b1
                        try clear c15
                        try clear c15b0
                        try clear c15b1
                        try clear c17
                        try clear c17b0
                        try clear c17b1
                        try clear p18
                        try clear q18
                        try clear hx18
                        try clear qi18
                        try clear c19
                        try clear c19b0
                        try clear c19b1
                        try clear p18
                        try clear p2
                        try clear p5
                        try clear q18
                        try clear q5
                        obtain ⟨x7_2, rfl, HA, HK2, ⟨m2, rfl⟩⟩ := hrel
                        cases gk with
                        | zero => exact absurd HA.out (by simp [spec_JTime.l0])
                        | succ k2 =>
                          have H := HA.out
                          clear HA
                          simp only [spec_JTime.l0] at H
                          by_cases c21 : x7_2 < (a0.size : Int)
                          · rw [if_pos c21] at H
                            have c21b0 : decide (x7_2 < (a0.size : Int)) = true := decide_eq_true c21
                            clear c21
                            (first | rw [c21b0] | (simp only [i64_w, i32_w]; rw [c21b0]) | skip)
                            by_cases c22 : 0 ≤ x7_2
                            · rw [if_pos c22] at H
                              have c22b0 : decide (0 ≤ x7_2) = true := decide_eq_true c22
                              clear c22
                              replace H := Option.bind_eq_some_iff.mp H
                              obtain ⟨t114, A240, H⟩ := H
                              replace H : (if t114 = true then (spec_JTime.l0 k2 a0 t110 t111 t112 t113 (wrap64 (x7_2 + 1))) else (spec_JTime.j2 k2 a0 t110 t111 t112 t113 x7_2)) = some r := H
                              have A24 := Aside0.mk A240
                              clear A240
                              by_cases c25 : t114 = true
                              · subst c25
                                have H1 : (spec_JTime.l0 k2 a0 t110 t111 t112 t113 (wrap64 (x7_2 + 1))) = some r := by rw [if_pos rfl] at H; exact H
                                clear H
                                have H := H1
                                clear H1
                                have H' := Aside0.mk H
                                clear H
                                have p23 : 0 ≤ (x7_2 : Int) := of_decide_eq_true (by first | (with_reducible assumption) | assumption)
                                have q23 : x7_2 < (a0.size : Int) := of_decide_eq_true (by first | (with_reducible assumption) | assumption)
                                have hx23 := bt_at a0 x7_2
                                replace p23 := eq_true p23
                                replace q23 := eq_true q23
                                go_wp2_with (first | (go_at_call 26; (with_reducible refine (spec_jDigit.calls (bt a0 x7_2) true _ A24.out).mono ?_); rintro e w' ⟨rfl, ⟨nd, rfl⟩⟩))
                                go_roundg k2
                                case measure => have := HJ1.out; have := HK2.out; omega
                                case rel => exact ⟨(wrap64 (x7_2 + 1)), (by first | rfl | (simp; done) | (simp [*]; done)), H', ⟨by have := HJ1.out; have := HK2.out; omega⟩, by repeat (first | exact Drawn0.refl _ | apply Drawn0.step)⟩
                              · replace c25 := Bool.eq_false_iff.mpr c25
                                subst c25
                                have H1 : (spec_JTime.j2 k2 a0 t110 t111 t112 t113 x7_2) = some r := by rw [if_neg (show ¬ (false = true) by decide)] at H; exact H
                                clear H
                                have H := H1
                                clear H1
                                have H' := Aside0.mk H
                                clear H
                                have p23 : 0 ≤ (x7_2 : Int) := of_decide_eq_true (by first | (with_reducible assumption) | assumption)
                                have q23 : x7_2 < (a0.size : Int) := of_decide_eq_true (by first | (with_reducible assumption) | assumption)
                                have hx23 := bt_at a0 x7_2
                                replace p23 := eq_true p23
                                replace q23 := eq_true q23
                                go_wp2_with (first | (go_at_call 26; (with_reducible refine (spec_jDigit.calls (bt a0 x7_2) false _ A24.out).mono ?_); rintro e w' ⟨rfl, ⟨nd, rfl⟩⟩))
                                go_meet
                                case rel => exact ⟨_, (x7_2), (by first | rfl | (simp; done) | (simp [*]; done)), H', ⟨by have := HJ1.out; have := HK2.out; first | omega | exact Nat.le_refl _⟩, by repeat (first | exact Drawn0.refl _ | apply Drawn0.step)⟩
                            · rw [if_neg c22] at H
                              exact absurd H (by simp)
                          · rw [if_neg c21] at H
                            have c21b0 : decide (x7_2 < (a0.size : Int)) = false := decide_eq_false c21
                            clear c21
                            (first | rw [c21b0] | (simp only [i64_w, i32_w]; rw [c21b0]) | skip)
                            have H' := Aside0.mk H
                            clear H
                            go_wp2
                            go_meet
                            case rel => exact ⟨_, (x7_2), (by first | rfl | (simp; done) | (simp [*]; done)), H', ⟨by have := HJ1.out; have := HK2.out; first | omega | exact Nat.le_refl _⟩, by repeat (first | exact Drawn0.refl _ | apply Drawn0.step)⟩
                    case rest =>
                      clear HC20
                      try clear c1
                      try clear p1
                      try clear q1
                      try clear hx1
                      try clear qi1
                      try clear c2
                      try clear p2
                      try clear q2
                      try clear hx2
                      try clear c3
                      try clear c3b0
                      try clear c3b1
                      try clear c4
                      try clear c4b0
                      try clear c4b1
                      try clear p5
                      try clear q5
                      try clear hx5
                      try clear qi5
                      try clear c6
                      try clear c6b0
                      try clear c6b1
                      try clear p6
                      try clear c7
                      try clear c7b0
                      try clear c7b1
                      try clear c8
                      try clear c8b0
                      try clear c8b1
                      try clear c10
                      try clear c11
                      try clear c11b0
                      try clear c11b1
                      try clear c12
                      try clear c12b0
                      try clear c12b1
                      try clear c14
                      try clear c14b0
                      try clear c14b1
                      try clear c15
                      try clear c15b0
                      try clear c15b1
                      try clear c17
                      try clear c17b0
                      try clear c17b1
                      try clear p18
                      try clear q18
                      try clear hx18
                      try clear qi18
                      try clear c19
                      try clear c19b0
                      try clear c19b1
                      try clear c21
                      try clear c21b0
                      try clear c22
                      try clear c22b0
                      try clear p23
                      try clear q23
                      try clear hx23
                      try clear c25
                      try clear p1
                      try clear p18
                      try clear p2
                      try clear p23
                      try clear p5
                      try clear p6
                      try clear q1
                      try clear q18
                      try clear q23
                      try clear q5
                      obtain ⟨kq, x7_19, rfl, HA, HJ19, ⟨mc19, rfl⟩⟩ := hcut
                      cases kq with
                      | zero => exact absurd HA.out (by simp [spec_JTime.j2])
                      | succ kj19 =>
                        have H := HA.out
                        clear HA
                        simp only [spec_JTime.j2] at H
                        by_cases c26 : x7_19 = 9
                        · rw [if_pos c26] at H
                          have c26b0 : (x7_19 == 9) = true := beq_iff_eq.mpr c26
                          have c26b1 : (x7_19 != 9) = false := bne_eq_false_iff_eq.mpr c26
                          clear c26
                          obtain rfl := Option.some.inj H
                          go_wp2
                          go_ret
                          exact ⟨by first | rfl | (simp; done) | (simp [*]; done), by repeat (first | exact Drawn0.refl _ | apply Drawn0.step)⟩
                        · rw [if_neg c26] at H
                          have c26b0 : (x7_19 == 9) = false := beq_eq_false_iff_ne.mpr c26
                          have c26b1 : (x7_19 != 9) = true := bne_iff_ne.mpr c26
                          by_cases c27 : 0 ≤ x7_19
                          · rw [if_pos c27] at H
                            have c27b0 := eq_true c27
                            have c27b1 : decide (0 ≤ x7_19) = true := decide_eq_true c27
                            clear c27
                            by_cases c28 : x7_19 ≤ (a0.size : Int)
                            · rw [if_pos c28] at H
                              have c28b0 := eq_true c28
                              have c28b1 : decide (x7_19 ≤ (a0.size : Int)) = true := decide_eq_true c28
                              clear c28
                              replace H := Option.bind_eq_some_iff.mp H
                              obtain ⟨⟨t115, t116⟩, A290, H⟩ := H
                              replace H : (if t112 = true then (if t116 = true then (if t113 > 60 then (some false) else (if t113 < 60 then (some true) else (some ((Int.tmod (wrap64 ((wrap64 ((wrap64 ((wrap64 (60 * t110)) + t111)) - t115)) + 2880)) 1440) == 1439)))) else (some false)) else (some false)) = some r := H
                              have A29 := Aside0.mk A290
                              clear A290
                              by_cases c30 : t112 = true
                              · subst c30
                                have H1 : (if t116 = true then (if t113 > 60 then (some false) else (if t113 < 60 then (some true) else (some ((Int.tmod (wrap64 ((wrap64 ((wrap64 ((wrap64 (60 * t110)) + t111)) - t115)) + 2880)) 1440) == 1439)))) else (some false)) = some r := by rw [if_pos rfl] at H; exact H
                                clear H
                                have H := H1
                                clear H1
                                by_cases c31 : t116 = true
                                · subst c31
                                  have H1 : (if t113 > 60 then (some false) else (if t113 < 60 then (some true) else (some ((Int.tmod (wrap64 ((wrap64 ((wrap64 ((wrap64 (60 * t110)) + t111)) - t115)) + 2880)) 1440) == 1439)))) = some r := by rw [if_pos rfl] at H; exact H
                                  clear H
                                  have H := H1
                                  clear H1
                                  by_cases c32 : t113 > 60
                                  · rw [if_pos c32] at H
                                    have c32b0 : decide (60 < t113) = true := decide_eq_true c32
                                    clear c32
                                    obtain rfl := Option.some.inj H
                                    go_wp2_with (first | ((with_reducible refine gate_callee (f := 33) rfl ?_); refine goesL_ (some 59) rfl rfl Tryd.func33 (by kernel_rfl) rfl #[.string (a0.extract (x7_19 : Int).toNat a0.size)] rfl (by (try simp only [List.map_toArray, List.map_cons, List.map_nil]); first | done | rfl | (simp only [List.length_drop, List.length_take]; rfl)) ?_; (with_reducible refine (spec_jOffset.calls kj19 (a0.extract (x7_19 : Int).toNat a0.size) t115 true _ A29.out).mono ?_); rintro e w' ⟨rfl, ⟨nd, rfl⟩⟩; refine ⟨_, rfl, ?_⟩))
                                    go_ret
                                    exact ⟨by first | rfl | (simp; done) | (simp [*]; done), by repeat (first | exact Drawn0.refl _ | apply Drawn0.step)⟩
                                  · rw [if_neg c32] at H
                                    have c32b0 : decide (60 < t113) = false := decide_eq_false c32
                                    clear c32
                                    by_cases c33 : t113 < 60
                                    · rw [if_pos c33] at H
                                      have c33b0 : decide (t113 < 60) = true := decide_eq_true c33
                                      clear c33
                                      obtain rfl := Option.some.inj H
                                      go_wp2_with (first | ((with_reducible refine gate_callee (f := 33) rfl ?_); refine goesL_ (some 59) rfl rfl Tryd.func33 (by kernel_rfl) rfl #[.string (a0.extract (x7_19 : Int).toNat a0.size)] rfl (by (try simp only [List.map_toArray, List.map_cons, List.map_nil]); first | done | rfl | (simp only [List.length_drop, List.length_take]; rfl)) ?_; (with_reducible refine (spec_jOffset.calls kj19 (a0.extract (x7_19 : Int).toNat a0.size) t115 true _ A29.out).mono ?_); rintro e w' ⟨rfl, ⟨nd, rfl⟩⟩; refine ⟨_, rfl, ?_⟩))
                                      go_ret
                                      exact ⟨by first | rfl | (simp; done) | (simp [*]; done), by repeat (first | exact Drawn0.refl _ | apply Drawn0.step)⟩
                                    · rw [if_neg c33] at H
                                      have c33b0 : decide (t113 < 60) = false := decide_eq_false c33
                                      clear c33
                                      obtain rfl := Option.some.inj H
                                      go_wp2_with (first | ((with_reducible refine gate_callee (f := 33) rfl ?_); refine goesL_ (some 59) rfl rfl Tryd.func33 (by kernel_rfl) rfl #[.string (a0.extract (x7_19 : Int).toNat a0.size)] rfl (by (try simp only [List.map_toArray, List.map_cons, List.map_nil]); first | done | rfl | (simp only [List.length_drop, List.length_take]; rfl)) ?_; (with_reducible refine (spec_jOffset.calls kj19 (a0.extract (x7_19 : Int).toNat a0.size) t115 true _ A29.out).mono ?_); rintro e w' ⟨rfl, ⟨nd, rfl⟩⟩; refine ⟨_, rfl, ?_⟩))
                                      go_ret
                                      exact ⟨by first | rfl | (simp; done) | (simp [*]; done), by repeat (first | exact Drawn0.refl _ | apply Drawn0.step)⟩
                                · replace c31 := Bool.eq_false_iff.mpr c31
                                  subst c31
                                  have H1 : (some false) = some r := by rw [if_neg (show ¬ (false = true) by decide)] at H; exact H
                                  clear H
                                  have H := H1
                                  clear H1
                                  obtain rfl := Option.some.inj H
                                  go_wp2_with (first | ((with_reducible refine gate_callee (f := 33) rfl ?_); refine goesL_ (some 59) rfl rfl Tryd.func33 (by kernel_rfl) rfl #[.string (a0.extract (x7_19 : Int).toNat a0.size)] rfl (by (try simp only [List.map_toArray, List.map_cons, List.map_nil]); first | done | rfl | (simp only [List.length_drop, List.length_take]; rfl)) ?_; (with_reducible refine (spec_jOffset.calls kj19 (a0.extract (x7_19 : Int).toNat a0.size) t115 false _ A29.out).mono ?_); rintro e w' ⟨rfl, ⟨nd, rfl⟩⟩; refine ⟨_, rfl, ?_⟩))
                                  go_ret
                                  exact ⟨by first | rfl | (simp; done) | (simp [*]; done), by repeat (first | exact Drawn0.refl _ | apply Drawn0.step)⟩
                              · replace c30 := Bool.eq_false_iff.mpr c30
                                subst c30
                                have H1 : (some false) = some r := by rw [if_neg (show ¬ (false = true) by decide)] at H; exact H
                                clear H
                                have H := H1
                                clear H1
                                obtain rfl := Option.some.inj H
                                go_wp2_with (first | ((with_reducible refine gate_callee (f := 33) rfl ?_); refine goesL_ (some 59) rfl rfl Tryd.func33 (by kernel_rfl) rfl #[.string (a0.extract (x7_19 : Int).toNat a0.size)] rfl (by (try simp only [List.map_toArray, List.map_cons, List.map_nil]); first | done | rfl | (simp only [List.length_drop, List.length_take]; rfl)) ?_; (with_reducible refine (spec_jOffset.calls kj19 (a0.extract (x7_19 : Int).toNat a0.size) t115 t116 _ A29.out).mono ?_); rintro e w' ⟨rfl, ⟨nd, rfl⟩⟩; refine ⟨_, rfl, ?_⟩))
                                go_ret
                                exact ⟨by first | rfl | (simp; done) | (simp [*]; done), by repeat (first | exact Drawn0.refl _ | apply Drawn0.step)⟩
                            · rw [if_neg c28] at H
                              exact absurd H (by simp)
                          · rw [if_neg c27] at H
                            exact absurd H (by simp)
                  · rw [if_neg c19] at H
                    have c19b0 : ((bt a0 8) == 46) = false := beq_eq_false_iff_ne.mpr c19
                    have c19b1 : ((bt a0 8) != 46) = true := bne_iff_ne.mpr c19
                    have c34b0 := eq_true (of_decide_eq_true (by first | (with_reducible assumption) | assumption) : 8 ≤ (a0.size : Int))
                    replace H := Option.bind_eq_some_iff.mp H
                    obtain ⟨⟨t117, t118⟩, A350, H⟩ := H
                    replace H : (if t112 = true then (if t118 = true then (if t113 > 60 then (some false) else (if t113 < 60 then (some true) else (some ((Int.tmod (wrap64 ((wrap64 ((wrap64 ((wrap64 (60 * t110)) + t111)) - t117)) + 2880)) 1440) == 1439)))) else (some false)) else (some false)) = some r := H
                    have A35 := Aside0.mk A350
                    clear A350
                    by_cases c36 : t112 = true
                    · subst c36
                      have H1 : (if t118 = true then (if t113 > 60 then (some false) else (if t113 < 60 then (some true) else (some ((Int.tmod (wrap64 ((wrap64 ((wrap64 ((wrap64 (60 * t110)) + t111)) - t117)) + 2880)) 1440) == 1439)))) else (some false)) = some r := by rw [if_pos rfl] at H; exact H
                      clear H
                      have H := H1
                      clear H1
                      by_cases c37 : t118 = true
                      · subst c37
                        have H1 : (if t113 > 60 then (some false) else (if t113 < 60 then (some true) else (some ((Int.tmod (wrap64 ((wrap64 ((wrap64 ((wrap64 (60 * t110)) + t111)) - t117)) + 2880)) 1440) == 1439)))) = some r := by rw [if_pos rfl] at H; exact H
                        clear H
                        have H := H1
                        clear H1
                        by_cases c38 : t113 > 60
                        · rw [if_pos c38] at H
                          have c38b0 : decide (60 < t113) = true := decide_eq_true c38
                          clear c38
                          obtain rfl := Option.some.inj H
                          go_wp2_with (first | ((with_reducible refine gate_callee (f := 31) rfl ?_); refine goesL_ (some 28) rfl rfl Tryd.func31 (by kernel_rfl) rfl #[.string (a0.extract 0 5)] rfl (by (try simp only [List.map_toArray, List.map_cons, List.map_nil]); first | done | rfl | (simp only [List.length_drop, List.length_take]; rfl)) ?_; (with_reducible refine (spec_jClock.calls kj1 (a0.extract 0 5) t110 t111 true _ A13.out).mono ?_); rintro e w' ⟨rfl, ⟨nd, rfl⟩⟩; refine ⟨_, rfl, ?_⟩) | ((with_reducible refine gate_callee (f := 32) rfl ?_); refine goesL_ (some 34) rfl rfl Tryd.func32 (by kernel_rfl) rfl #[.string (a0.extract 6 8)] rfl (by (try simp only [List.map_toArray, List.map_cons, List.map_nil]); first | done | rfl | (simp only [List.length_drop, List.length_take]; rfl)) ?_; (with_reducible refine (spec_jNumber.calls kj1 (a0.extract 6 8) t113 _ A16.out).mono ?_); rintro e w' ⟨rfl, ⟨nd, rfl⟩⟩; refine ⟨_, rfl, ?_⟩; have p18 : 0 ≤ (8 : Int) := (by omega); have q18 : 8 < a0.size := (by have : (8 : Int) < (a0.size : Int) := of_decide_eq_true (by first | (with_reducible assumption) | assumption); omega); have hx18 : ∀ h : 8 < a0.size, ((a0[8]'h).toNat : Int) = bt a0 8 := bt_at a0 8; clear p18; have qi18 : (8 < (a0.size : Int)) = True := eq_true (of_decide_eq_true (by first | (with_reducible assumption) | assumption)); replace q18 := eq_true q18) | ((with_reducible refine gate_callee (f := 33) rfl ?_); refine goesL_ (some 59) rfl rfl Tryd.func33 (by kernel_rfl) rfl #[.string (a0.extract 8 a0.size)] rfl (by (try simp only [List.map_toArray, List.map_cons, List.map_nil]); first | done | rfl | (simp only [List.length_drop, List.length_take]; rfl)) ?_; (with_reducible refine (spec_jOffset.calls kj1 (a0.extract 8 a0.size) t117 true _ A35.out).mono ?_); rintro e w' ⟨rfl, ⟨nd, rfl⟩⟩; refine ⟨_, rfl, ?_⟩))
                          go_ret
                          exact ⟨by first | rfl | (simp; done) | (simp [*]; done), by repeat (first | exact Drawn0.refl _ | apply Drawn0.step)⟩
                        · rw [if_neg c38] at H
                          have c38b0 : decide (60 < t113) = false := decide_eq_false c38
                          clear c38
                          by_cases c39 : t113 < 60
                          · rw [if_pos c39] at H
                            have c39b0 : decide (t113 < 60) = true := decide_eq_true c39
                            clear c39
                            obtain rfl := Option.some.inj H
                            go_wp2_with (first | ((with_reducible refine gate_callee (f := 31) rfl ?_); refine goesL_ (some 28) rfl rfl Tryd.func31 (by kernel_rfl) rfl #[.string (a0.extract 0 5)] rfl (by (try simp only [List.map_toArray, List.map_cons, List.map_nil]); first | done | rfl | (simp only [List.length_drop, List.length_take]; rfl)) ?_; (with_reducible refine (spec_jClock.calls kj1 (a0.extract 0 5) t110 t111 true _ A13.out).mono ?_); rintro e w' ⟨rfl, ⟨nd, rfl⟩⟩; refine ⟨_, rfl, ?_⟩) | ((with_reducible refine gate_callee (f := 32) rfl ?_); refine goesL_ (some 34) rfl rfl Tryd.func32 (by kernel_rfl) rfl #[.string (a0.extract 6 8)] rfl (by (try simp only [List.map_toArray, List.map_cons, List.map_nil]); first | done | rfl | (simp only [List.length_drop, List.length_take]; rfl)) ?_; (with_reducible refine (spec_jNumber.calls kj1 (a0.extract 6 8) t113 _ A16.out).mono ?_); rintro e w' ⟨rfl, ⟨nd, rfl⟩⟩; refine ⟨_, rfl, ?_⟩; have p18 : 0 ≤ (8 : Int) := (by omega); have q18 : 8 < a0.size := (by have : (8 : Int) < (a0.size : Int) := of_decide_eq_true (by first | (with_reducible assumption) | assumption); omega); have hx18 : ∀ h : 8 < a0.size, ((a0[8]'h).toNat : Int) = bt a0 8 := bt_at a0 8; clear p18; have qi18 : (8 < (a0.size : Int)) = True := eq_true (of_decide_eq_true (by first | (with_reducible assumption) | assumption)); replace q18 := eq_true q18) | ((with_reducible refine gate_callee (f := 33) rfl ?_); refine goesL_ (some 59) rfl rfl Tryd.func33 (by kernel_rfl) rfl #[.string (a0.extract 8 a0.size)] rfl (by (try simp only [List.map_toArray, List.map_cons, List.map_nil]); first | done | rfl | (simp only [List.length_drop, List.length_take]; rfl)) ?_; (with_reducible refine (spec_jOffset.calls kj1 (a0.extract 8 a0.size) t117 true _ A35.out).mono ?_); rintro e w' ⟨rfl, ⟨nd, rfl⟩⟩; refine ⟨_, rfl, ?_⟩))
                            go_ret
                            exact ⟨by first | rfl | (simp; done) | (simp [*]; done), by repeat (first | exact Drawn0.refl _ | apply Drawn0.step)⟩
                          · rw [if_neg c39] at H
                            have c39b0 : decide (t113 < 60) = false := decide_eq_false c39
                            clear c39
                            obtain rfl := Option.some.inj H
                            go_wp2_with (first | ((with_reducible refine gate_callee (f := 31) rfl ?_); refine goesL_ (some 28) rfl rfl Tryd.func31 (by kernel_rfl) rfl #[.string (a0.extract 0 5)] rfl (by (try simp only [List.map_toArray, List.map_cons, List.map_nil]); first | done | rfl | (simp only [List.length_drop, List.length_take]; rfl)) ?_; (with_reducible refine (spec_jClock.calls kj1 (a0.extract 0 5) t110 t111 true _ A13.out).mono ?_); rintro e w' ⟨rfl, ⟨nd, rfl⟩⟩; refine ⟨_, rfl, ?_⟩) | ((with_reducible refine gate_callee (f := 32) rfl ?_); refine goesL_ (some 34) rfl rfl Tryd.func32 (by kernel_rfl) rfl #[.string (a0.extract 6 8)] rfl (by (try simp only [List.map_toArray, List.map_cons, List.map_nil]); first | done | rfl | (simp only [List.length_drop, List.length_take]; rfl)) ?_; (with_reducible refine (spec_jNumber.calls kj1 (a0.extract 6 8) t113 _ A16.out).mono ?_); rintro e w' ⟨rfl, ⟨nd, rfl⟩⟩; refine ⟨_, rfl, ?_⟩; have p18 : 0 ≤ (8 : Int) := (by omega); have q18 : 8 < a0.size := (by have : (8 : Int) < (a0.size : Int) := of_decide_eq_true (by first | (with_reducible assumption) | assumption); omega); have hx18 : ∀ h : 8 < a0.size, ((a0[8]'h).toNat : Int) = bt a0 8 := bt_at a0 8; clear p18; have qi18 : (8 < (a0.size : Int)) = True := eq_true (of_decide_eq_true (by first | (with_reducible assumption) | assumption)); replace q18 := eq_true q18) | ((with_reducible refine gate_callee (f := 33) rfl ?_); refine goesL_ (some 59) rfl rfl Tryd.func33 (by kernel_rfl) rfl #[.string (a0.extract 8 a0.size)] rfl (by (try simp only [List.map_toArray, List.map_cons, List.map_nil]); first | done | rfl | (simp only [List.length_drop, List.length_take]; rfl)) ?_; (with_reducible refine (spec_jOffset.calls kj1 (a0.extract 8 a0.size) t117 true _ A35.out).mono ?_); rintro e w' ⟨rfl, ⟨nd, rfl⟩⟩; refine ⟨_, rfl, ?_⟩))
                            go_ret
                            exact ⟨by first | rfl | (simp; done) | (simp [*]; done), by repeat (first | exact Drawn0.refl _ | apply Drawn0.step)⟩
                      · replace c37 := Bool.eq_false_iff.mpr c37
                        subst c37
                        have H1 : (some false) = some r := by rw [if_neg (show ¬ (false = true) by decide)] at H; exact H
                        clear H
                        have H := H1
                        clear H1
                        obtain rfl := Option.some.inj H
                        go_wp2_with (first | ((with_reducible refine gate_callee (f := 31) rfl ?_); refine goesL_ (some 28) rfl rfl Tryd.func31 (by kernel_rfl) rfl #[.string (a0.extract 0 5)] rfl (by (try simp only [List.map_toArray, List.map_cons, List.map_nil]); first | done | rfl | (simp only [List.length_drop, List.length_take]; rfl)) ?_; (with_reducible refine (spec_jClock.calls kj1 (a0.extract 0 5) t110 t111 true _ A13.out).mono ?_); rintro e w' ⟨rfl, ⟨nd, rfl⟩⟩; refine ⟨_, rfl, ?_⟩) | ((with_reducible refine gate_callee (f := 32) rfl ?_); refine goesL_ (some 34) rfl rfl Tryd.func32 (by kernel_rfl) rfl #[.string (a0.extract 6 8)] rfl (by (try simp only [List.map_toArray, List.map_cons, List.map_nil]); first | done | rfl | (simp only [List.length_drop, List.length_take]; rfl)) ?_; (with_reducible refine (spec_jNumber.calls kj1 (a0.extract 6 8) t113 _ A16.out).mono ?_); rintro e w' ⟨rfl, ⟨nd, rfl⟩⟩; refine ⟨_, rfl, ?_⟩; have p18 : 0 ≤ (8 : Int) := (by omega); have q18 : 8 < a0.size := (by have : (8 : Int) < (a0.size : Int) := of_decide_eq_true (by first | (with_reducible assumption) | assumption); omega); have hx18 : ∀ h : 8 < a0.size, ((a0[8]'h).toNat : Int) = bt a0 8 := bt_at a0 8; clear p18; have qi18 : (8 < (a0.size : Int)) = True := eq_true (of_decide_eq_true (by first | (with_reducible assumption) | assumption)); replace q18 := eq_true q18) | ((with_reducible refine gate_callee (f := 33) rfl ?_); refine goesL_ (some 59) rfl rfl Tryd.func33 (by kernel_rfl) rfl #[.string (a0.extract 8 a0.size)] rfl (by (try simp only [List.map_toArray, List.map_cons, List.map_nil]); first | done | rfl | (simp only [List.length_drop, List.length_take]; rfl)) ?_; (with_reducible refine (spec_jOffset.calls kj1 (a0.extract 8 a0.size) t117 false _ A35.out).mono ?_); rintro e w' ⟨rfl, ⟨nd, rfl⟩⟩; refine ⟨_, rfl, ?_⟩))
                        go_ret
                        exact ⟨by first | rfl | (simp; done) | (simp [*]; done), by repeat (first | exact Drawn0.refl _ | apply Drawn0.step)⟩
                    · replace c36 := Bool.eq_false_iff.mpr c36
                      subst c36
                      have H1 : (some false) = some r := by rw [if_neg (show ¬ (false = true) by decide)] at H; exact H
                      clear H
                      have H := H1
                      clear H1
                      obtain rfl := Option.some.inj H
                      go_wp2_with (first | ((with_reducible refine gate_callee (f := 31) rfl ?_); refine goesL_ (some 28) rfl rfl Tryd.func31 (by kernel_rfl) rfl #[.string (a0.extract 0 5)] rfl (by (try simp only [List.map_toArray, List.map_cons, List.map_nil]); first | done | rfl | (simp only [List.length_drop, List.length_take]; rfl)) ?_; (with_reducible refine (spec_jClock.calls kj1 (a0.extract 0 5) t110 t111 false _ A13.out).mono ?_); rintro e w' ⟨rfl, ⟨nd, rfl⟩⟩; refine ⟨_, rfl, ?_⟩) | ((with_reducible refine gate_callee (f := 32) rfl ?_); refine goesL_ (some 34) rfl rfl Tryd.func32 (by kernel_rfl) rfl #[.string (a0.extract 6 8)] rfl (by (try simp only [List.map_toArray, List.map_cons, List.map_nil]); first | done | rfl | (simp only [List.length_drop, List.length_take]; rfl)) ?_; (with_reducible refine (spec_jNumber.calls kj1 (a0.extract 6 8) t113 _ A16.out).mono ?_); rintro e w' ⟨rfl, ⟨nd, rfl⟩⟩; refine ⟨_, rfl, ?_⟩; have p18 : 0 ≤ (8 : Int) := (by omega); have q18 : 8 < a0.size := (by have : (8 : Int) < (a0.size : Int) := of_decide_eq_true (by first | (with_reducible assumption) | assumption); omega); have hx18 : ∀ h : 8 < a0.size, ((a0[8]'h).toNat : Int) = bt a0 8 := bt_at a0 8; clear p18; have qi18 : (8 < (a0.size : Int)) = True := eq_true (of_decide_eq_true (by first | (with_reducible assumption) | assumption)); replace q18 := eq_true q18) | ((with_reducible refine gate_callee (f := 33) rfl ?_); refine goesL_ (some 59) rfl rfl Tryd.func33 (by kernel_rfl) rfl #[.string (a0.extract 8 a0.size)] rfl (by (try simp only [List.map_toArray, List.map_cons, List.map_nil]); first | done | rfl | (simp only [List.length_drop, List.length_take]; rfl)) ?_; (with_reducible refine (spec_jOffset.calls kj1 (a0.extract 8 a0.size) t117 t118 _ A35.out).mono ?_); rintro e w' ⟨rfl, ⟨nd, rfl⟩⟩; refine ⟨_, rfl, ?_⟩))
                      go_ret
                      exact ⟨by first | rfl | (simp; done) | (simp [*]; done), by repeat (first | exact Drawn0.refl _ | apply Drawn0.step)⟩
                · rw [if_neg c17] at H
                  exact absurd H (by simp)
              · rw [if_neg c15] at H
                exact absurd H (by simp)
            · rw [if_neg c14] at H
              exact absurd H (by simp)
          · rw [if_neg c12] at H
            exact absurd H (by simp)
        · rw [if_neg c11] at H
          exact absurd H (by simp)

/-- THE ONE PURE STATEMENT of spec_JTime: yours. -/
def spec_JTime.Pure : Prop := ∀ (a0 : ByteArray), a0.size ≤ 140737488351232 → ∃ k, spec_JTime.f k a0 = some true
theorem spec_JTime.walk (P : spec_JTime.Pure) (a0 : ByteArray) (w : World) (w0 : a0.size ≤ 140737488351232) :
    Calls Tryd.prog 19 #[.string a0] w fun e w' => e = .returned (.bool true) ∧ Below w.heap.size w w' := by
  obtain ⟨k, h⟩ := P a0 w0
  refine (spec_JTime.calls k a0 true w h).mono ?_
  rintro e w' ⟨rfl, hd⟩
  exact ⟨rfl, hd.below⟩

end Go.Proofs.YtfnnahopbghndaaDoor.PJTime
