-- PRINTED BY print.sh 35421559b90ae4d0a3588c463048766b98c2df88dd9212a6774a882060cdf62d: not written by this session
import Derived.Test.YtfnnahopbghndaaDoorPJEmailx0
import Derived.Test.YtfnnahopbghndaaDoorPJEmailx1
namespace Go.Proofs.YtfnnahopbghndaaDoor.PJEmail
open Go.RowKit Go.Proofs.YtfnnahopbghndaaDoorW.PrintWords Go.Proofs.YtfnnahopbghndaaDoorW.PrintLast Go.Proofs.YtfnnahopbghndaaDoorW.PrintMore
attribute [local go_sem] max2_int min2_int max_two min_two max_three min_three max_four min_four   -- for this text's walks alone
set_option linter.unusedVariables false
set_option linter.unusedSimpArgs false

/-! ### spec_jLabel: function 44 -/
mutual
def spec_jLabel.j0 : Nat → ByteArray → Bool → Option (Bool)
  | 0, _, _ => none
  | k + 1, x0, x24 => if x24 = true then (some false) else (spec_jLabel.l0 k x0 0)
def spec_jLabel.l0 : Nat → ByteArray → Int → Option (Bool)
  | 0, _, _ => none
  | k + 1, x0, x3 => if x3 < (x0.size : Int) then (if 0 ≤ x3 then ((spec_jLetter.f (bt x0 x3)).bind fun t104 => (if t104 = true then (spec_jLabel.l0 k x0 (wrap64 (x3 + 1))) else ((spec_jDigit.f (bt x0 x3)).bind fun t105 => (if t105 = true then (spec_jLabel.l0 k x0 (wrap64 (x3 + 1))) else (if (bt x0 x3) = 45 then (spec_jLabel.l0 k x0 (wrap64 (x3 + 1))) else (some false)))))) else (none)) else (some true)
end
def spec_jLabel.f (k : Nat) (a0 : ByteArray) : Option (Bool) := if (a0.size : Int) < 1 then (spec_jLabel.j0 k a0 true) else (if (a0.size : Int) > 63 then (spec_jLabel.j0 k a0 true) else (if 0 < (a0.size : Int) then (if (bt a0 0) = 45 then (spec_jLabel.j0 k a0 true) else (if 0 ≤ (wrap64 ((a0.size : Int) - 1)) then (if (wrap64 ((a0.size : Int) - 1)) < (a0.size : Int) then (spec_jLabel.j0 k a0 ((bt a0 (wrap64 ((a0.size : Int) - 1))) == 45)) else (none)) else (none))) else (none)))
theorem spec_jLabel.mono_l : ∀ k, (∀ y0 y1, LeO (spec_jLabel.j0 k y0 y1) (spec_jLabel.j0 (k + 1) y0 y1)) ∧ (∀ y0 y1, LeO (spec_jLabel.l0 k y0 y1) (spec_jLabel.l0 (k + 1) y0 y1))
  | 0 => ⟨fun _ _ r h => by simp [spec_jLabel.j0] at h, fun _ _ r h => by simp [spec_jLabel.l0] at h⟩
  | k + 1 => by
    obtain ⟨ih0, ih1⟩ := spec_jLabel.mono_l k
    refine ⟨?_, ?_⟩
    · intro y0 y1
      unfold spec_jLabel.j0
      repeat' first
      | (with_reducible exact ih0 _ _)
      | (with_reducible exact ih1 _ _)
      | (with_reducible exact LeO.refl _)
      | (with_reducible exact LeO.none _)
      | (with_reducible refine LeO.ite ?_ ?_)
      | (with_reducible refine LeO.bind ?_ (fun _ => ?_))
      | exact ih0 _ _
      | exact ih1 _ _
      | exact LeO.none _
      | refine LeO.ite ?_ ?_
      | refine LeO.bind ?_ (fun _ => ?_)
    · intro y0 y1
      unfold spec_jLabel.l0
      repeat' first
      | (with_reducible exact ih0 _ _)
      | (with_reducible exact ih1 _ _)
      | (with_reducible exact LeO.refl _)
      | (with_reducible exact LeO.none _)
      | (with_reducible refine LeO.ite ?_ ?_)
      | (with_reducible refine LeO.bind ?_ (fun _ => ?_))
      | exact ih0 _ _
      | exact ih1 _ _
      | exact LeO.none _
      | refine LeO.ite ?_ ?_
      | refine LeO.bind ?_ (fun _ => ?_)
theorem spec_jLabel.mono : ∀ a0 k, LeO (spec_jLabel.f k a0) (spec_jLabel.f (k + 1) a0) := by
  intro a0 k
  obtain ⟨ih0, ih1⟩ := spec_jLabel.mono_l k
  unfold spec_jLabel.f
  repeat' first
      | (with_reducible exact ih0 _ _)
      | (with_reducible exact ih1 _ _)
      | (with_reducible exact LeO.refl _)
      | (with_reducible exact LeO.none _)
      | (with_reducible refine LeO.ite ?_ ?_)
      | (with_reducible refine LeO.bind ?_ (fun _ => ?_))
      | exact ih0 _ _
      | exact ih1 _ _
      | exact LeO.none _
      | refine LeO.ite ?_ ?_
      | refine LeO.bind ?_ (fun _ => ?_)
set_option maxHeartbeats 8000000 in
set_option maxRecDepth 100000 in
theorem spec_jLabel.calls (k : Nat) (a0 : ByteArray) (r : Bool) (w : World) (h : spec_jLabel.f k a0 = some r) :
    Calls Tryd.prog 44 #[.string a0] w fun e w' => e = .returned (.bool r) ∧ Drawn0 w w' := by
  have H : (if (a0.size : Int) < 1 then (spec_jLabel.j0 k a0 true) else (if (a0.size : Int) > 63 then (spec_jLabel.j0 k a0 true) else (if 0 < (a0.size : Int) then (if (bt a0 0) = 45 then (spec_jLabel.j0 k a0 true) else (if 0 ≤ (wrap64 ((a0.size : Int) - 1)) then (if (wrap64 ((a0.size : Int) - 1)) < (a0.size : Int) then (spec_jLabel.j0 k a0 ((bt a0 (wrap64 ((a0.size : Int) - 1))) == 45)) else (none)) else (none))) else (none)))) = some r := h
  clear h
  have HC2 := Aside0.mk H
  clear H
  go_enter Tryd.func44, Tryd.ntmps44
  go_upto_region 1 with (fail)
  go_cut [24] (fun v24 wc => ∃ (kq : Nat) (x24_1 : Bool), v24 = .bool x24_1 ∧ Aside0 (spec_jLabel.j0 kq a0 x24_1 = some r) ∧ Aside0 (kq ≤ k) ∧ Drawn0 w wc)
  case first =>
    have H := HC2.out
    clear HC2
    by_cases c3 : (a0.size : Int) < 1
    · rw [if_pos c3] at H
      have c3b0 : decide ((a0.size : Int) < 1) = true := decide_eq_true c3
      have c3b1 : decide (a0.size < 1) = true := decide_eq_true (by omega)
      clear c3
      (first | rw [c3b0] | (simp only [i64_w, i32_w]; rw [c3b0]) | skip)
      have H' := Aside0.mk H
      clear H
      go_wp2
      go_meet
      case rel => exact ⟨_, (true), (by first | rfl | (simp; done) | (simp [*]; done)), H', ⟨by first | omega | exact Nat.le_refl _⟩, by repeat (first | exact Drawn0.refl _ | apply Drawn0.step)⟩
    · rw [if_neg c3] at H
      have c3b0 : decide ((a0.size : Int) < 1) = false := decide_eq_false c3
      have c3b1 : decide (a0.size < 1) = false := decide_eq_false (by omega)
      clear c3
      (first | rw [c3b0] | (simp only [i64_w, i32_w]; rw [c3b0]) | skip)
      by_cases c4 : (a0.size : Int) > 63
      · rw [if_pos c4] at H
        have c4b0 : decide (63 < (a0.size : Int)) = true := decide_eq_true c4
        have c4b1 : decide (63 < a0.size) = true := decide_eq_true (by omega)
        clear c4
        have H' := Aside0.mk H
        clear H
        go_wp2
        go_meet
        case rel => exact ⟨_, (true), (by first | rfl | (simp; done) | (simp [*]; done)), H', ⟨by first | omega | exact Nat.le_refl _⟩, by repeat (first | exact Drawn0.refl _ | apply Drawn0.step)⟩
      · rw [if_neg c4] at H
        have c4b0 : decide (63 < (a0.size : Int)) = false := decide_eq_false c4
        have c4b1 : decide (63 < a0.size) = false := decide_eq_false (by omega)
        clear c4
        by_cases c5 : 0 < (a0.size : Int)
        · rw [if_pos c5] at H
          have c5b0 : decide (0 < (a0.size : Int)) = true := decide_eq_true c5
          have c5b1 : decide (0 < a0.size) = true := decide_eq_true (by omega)
          clear c5
          by_cases c7 : (bt a0 0) = 45
          · rw [if_pos c7] at H
            have c7b0 : ((bt a0 0) == 45) = true := beq_iff_eq.mpr c7
            have c7b1 : ((bt a0 0) != 45) = false := bne_eq_false_iff_eq.mpr c7
            clear c7
            have H' := Aside0.mk H
            clear H
            have p6 : 0 ≤ (0 : Int) := (by omega)
            have q6 : 0 < a0.size := (by have : (0 : Int) < (a0.size : Int) := of_decide_eq_true (by first | (with_reducible assumption) | assumption); omega)
            have hx6 : ∀ h : 0 < a0.size, ((a0[0]'h).toNat : Int) = bt a0 0 := bt_at a0 0
            clear p6
            have qi6 : (0 < (a0.size : Int)) = True := eq_true (of_decide_eq_true (by first | (with_reducible assumption) | assumption))
            replace q6 := eq_true q6
            go_wp2
            go_meet
            case rel => exact ⟨_, (true), (by first | rfl | (simp; done) | (simp [*]; done)), H', ⟨by first | omega | exact Nat.le_refl _⟩, by repeat (first | exact Drawn0.refl _ | apply Drawn0.step)⟩
          · rw [if_neg c7] at H
            have c7b0 : ((bt a0 0) == 45) = false := beq_eq_false_iff_ne.mpr c7
            have c7b1 : ((bt a0 0) != 45) = true := bne_iff_ne.mpr c7
            obtain ⟨ji8, hji8⟩ : ∃ j_ : Int, (wrap64 ((a0.size : Int) - 1)) = j_ := ⟨_, rfl⟩
            replace H : (if 0 ≤ (ji8) then (if (ji8) < (a0.size : Int) then (spec_jLabel.j0 k a0 ((bt a0 (ji8)) == 45)) else (none)) else (none)) = some r := by first | (rw [hji8] at H; exact H) | (simp only [hji8] at H ⊢; exact H)
            have hji8w : (IntKind.i64.wrap ((a0.size : Int) - 1)) = ji8 := (i64_w _).trans hji8
            by_cases c9 : 0 ≤ (ji8)
            · rw [if_pos c9] at H
              have c9b0 : decide (0 ≤ (ji8)) = true := decide_eq_true c9
              clear c9
              by_cases c10 : (ji8) < (a0.size : Int)
              · rw [if_pos c10] at H
                have c10b0 : decide ((ji8) < (a0.size : Int)) = true := decide_eq_true c10
                clear c10
                have H' := Aside0.mk H
                clear H
                have p6 : 0 ≤ (0 : Int) := (by omega)
                have q6 : 0 < a0.size := (by have : (0 : Int) < (a0.size : Int) := of_decide_eq_true (by first | (with_reducible assumption) | assumption); omega)
                have hx6 : ∀ h : 0 < a0.size, ((a0[0]'h).toNat : Int) = bt a0 0 := bt_at a0 0
                clear p6
                have qi6 : (0 < (a0.size : Int)) = True := eq_true (of_decide_eq_true (by first | (with_reducible assumption) | assumption))
                replace q6 := eq_true q6
                have p11 : 0 ≤ ((ji8) : Int) := of_decide_eq_true (by first | (with_reducible assumption) | assumption)
                have q11 : (ji8) < (a0.size : Int) := of_decide_eq_true (by first | (with_reducible assumption) | assumption)
                have hx11 := bt_at a0 (ji8)
                replace p11 := eq_true p11
                replace q11 := eq_true q11
                go_wp2
                go_meet
                case rel => exact ⟨_, (((bt a0 (ji8)) == 45)), (by first | rfl | (simp; done) | (simp only [← hji8] <;> (first | rfl | simp)) | (simp [*]; done)), H', ⟨by first | omega | exact Nat.le_refl _⟩, by repeat (first | exact Drawn0.refl _ | apply Drawn0.step)⟩
              · rw [if_neg c10] at H
                exact absurd H (by simp)
            · rw [if_neg c9] at H
              exact absurd H (by simp)
        · rw [if_neg c5] at H
          exact absurd H (by simp)
  case rest =>
    clear HC2
    try clear c1
    try clear p1
    try clear q1
    try clear hx1
    try clear p2
    try clear c3
    try clear c3b0
    try clear c3b1
    try clear c4
    try clear c4b0
    try clear c4b1
    try clear c5
    try clear c5b0
    try clear c5b1
    try clear p6
    try clear q6
    try clear hx6
    try clear qi6
    try clear c7
    try clear c7b0
    try clear c7b1
    try clear c9
    try clear c9b0
    try clear c10
    try clear c10b0
    try clear p11
    try clear q11
    try clear hx11
    try clear p11
    try clear p6
    try clear q11
    try clear q6
    obtain ⟨kq, x24_1, rfl, HA, HJ1, ⟨mc1, rfl⟩⟩ := hcut
    cases kq with
    | zero => exact absurd HA.out (by simp [spec_jLabel.j0])
    | succ kj1 =>
      have H := HA.out
      clear HA
      simp only [spec_jLabel.j0] at H
      by_cases c12 : x24_1 = true
      · subst c12
        have H1 : (some false) = some r := by rw [if_pos rfl] at H; exact H
        clear H
        have H := H1
        clear H1
        obtain rfl := Option.some.inj H
        go_wp2
        go_ret
        exact ⟨by first | rfl | (simp; done) | (simp [*]; done), by repeat (first | exact Drawn0.refl _ | apply Drawn0.step)⟩
      · replace c12 := Bool.eq_false_iff.mpr c12
        subst c12
        have H1 : (spec_jLabel.l0 kj1 a0 0) = some r := by rw [if_neg (show ¬ (false = true) by decide)] at H; exact H
        clear H
        have H := H1
        clear H1
        have H' := Aside0.mk H
        clear H
        go_wp2
        go_loopg [3] kj1 (fun kq v3 w' => ∃ (x3_2 : Int), v3 = .int .i64 x3_2 ∧ Aside0 (spec_jLabel.l0 kq a0 x3_2 = some r) ∧ Aside0 (kq ≤ kj1) ∧ Drawn0 w w')
        case atStart => exact ⟨(0), (by first | rfl | (simp; done) | (simp [*]; done)), H', ⟨Nat.le_refl _⟩, by repeat (first | exact Drawn0.refl _ | apply Drawn0.step)⟩
        case round =>
          clear H'
          try clear c1
          try clear p1
          try clear q1
          try clear hx1
          try clear p2
          try clear c3
          try clear c3b0
          try clear c3b1
          try clear c4
          try clear c4b0
          try clear c4b1
          try clear c5
          try clear c5b0
          try clear c5b1
          try clear p6
          try clear q6
          try clear hx6
          try clear qi6
          try clear c7
          try clear c7b0
          try clear c7b1
          try clear c9
          try clear c9b0
          try clear c10
          try clear c10b0
          try clear p11
          try clear q11
          try clear hx11
          try clear c12
          try clear p1
          try clear p11
          try clear p2
          try clear p6
          try clear q1
          try clear q11
          try clear q6
          obtain ⟨x3_2, rfl, HA, HK2, ⟨m2, rfl⟩⟩ := hrel
          cases gk with
          | zero => exact absurd HA.out (by simp [spec_jLabel.l0])
          | succ k2 =>
            have H := HA.out
            clear HA
            simp only [spec_jLabel.l0] at H
            by_cases c13 : x3_2 < (a0.size : Int)
            · rw [if_pos c13] at H
              have c13b0 : decide (x3_2 < (a0.size : Int)) = true := decide_eq_true c13
              clear c13
              by_cases c14 : 0 ≤ x3_2
              · rw [if_pos c14] at H
                have c14b0 : decide (0 ≤ x3_2) = true := decide_eq_true c14
                clear c14
                replace H := Option.bind_eq_some_iff.mp H
                obtain ⟨t104, A160, H⟩ := H
                replace H : (if t104 = true then (spec_jLabel.l0 k2 a0 (wrap64 (x3_2 + 1))) else ((spec_jDigit.f (bt a0 x3_2)).bind fun t105 => (if t105 = true then (spec_jLabel.l0 k2 a0 (wrap64 (x3_2 + 1))) else (if (bt a0 x3_2) = 45 then (spec_jLabel.l0 k2 a0 (wrap64 (x3_2 + 1))) else (some false))))) = some r := H
                have A16 := Aside0.mk A160
                clear A160
                by_cases c17 : t104 = true
                · subst c17
                  have H1 : (spec_jLabel.l0 k2 a0 (wrap64 (x3_2 + 1))) = some r := by rw [if_pos rfl] at H; exact H
                  clear H
                  have H := H1
                  clear H1
                  have H' := Aside0.mk H
                  clear H
                  have p15 : 0 ≤ (x3_2 : Int) := of_decide_eq_true (by first | (with_reducible assumption) | assumption)
                  have q15 : x3_2 < (a0.size : Int) := of_decide_eq_true (by first | (with_reducible assumption) | assumption)
                  have hx15 := bt_at a0 x3_2
                  replace p15 := eq_true p15
                  replace q15 := eq_true q15
                  go_wp2_with (first | ((with_reducible refine gate_callee (f := 42) rfl ?_); refine goesL_ (some 34) rfl rfl Tryd.func42 (by kernel_rfl) rfl #[.int .u8 (bt a0 x3_2)] rfl (by (try simp only [List.map_toArray, List.map_cons, List.map_nil]); first | done | rfl | (simp only [List.length_drop, List.length_take]; rfl)) ?_; (with_reducible refine (spec_jLetter.calls (bt a0 x3_2) true _ A16.out).mono ?_); rintro e w' ⟨rfl, ⟨nd, rfl⟩⟩; refine ⟨_, rfl, ?_⟩))
                  go_roundg k2
                  case measure => have := HJ1.out; have := HK2.out; omega
                  case rel => exact ⟨(wrap64 (x3_2 + 1)), (by first | rfl | (simp; done) | (simp [*]; done)), H', ⟨by have := HJ1.out; have := HK2.out; omega⟩, by repeat (first | exact Drawn0.refl _ | apply Drawn0.step)⟩
                · replace c17 := Bool.eq_false_iff.mpr c17
                  subst c17
                  have H1 : ((spec_jDigit.f (bt a0 x3_2)).bind fun t105 => (if t105 = true then (spec_jLabel.l0 k2 a0 (wrap64 (x3_2 + 1))) else (if (bt a0 x3_2) = 45 then (spec_jLabel.l0 k2 a0 (wrap64 (x3_2 + 1))) else (some false)))) = some r := by rw [if_neg (show ¬ (false = true) by decide)] at H; exact H
                  clear H
                  have H := H1
                  clear H1
                  replace H := Option.bind_eq_some_iff.mp H
                  obtain ⟨t105, A190, H⟩ := H
                  replace H : (if t105 = true then (spec_jLabel.l0 k2 a0 (wrap64 (x3_2 + 1))) else (if (bt a0 x3_2) = 45 then (spec_jLabel.l0 k2 a0 (wrap64 (x3_2 + 1))) else (some false))) = some r := H
                  have A19 := Aside0.mk A190
                  clear A190
                  by_cases c20 : t105 = true
                  · subst c20
                    have H1 : (spec_jLabel.l0 k2 a0 (wrap64 (x3_2 + 1))) = some r := by rw [if_pos rfl] at H; exact H
                    clear H
                    have H := H1
                    clear H1
                    have H' := Aside0.mk H
                    clear H
                    have p15 : 0 ≤ (x3_2 : Int) := of_decide_eq_true (by first | (with_reducible assumption) | assumption)
                    have q15 : x3_2 < (a0.size : Int) := of_decide_eq_true (by first | (with_reducible assumption) | assumption)
                    have hx15 := bt_at a0 x3_2
                    replace p15 := eq_true p15
                    replace q15 := eq_true q15
                    go_wp2_with (first | ((with_reducible refine gate_callee (f := 42) rfl ?_); refine goesL_ (some 34) rfl rfl Tryd.func42 (by kernel_rfl) rfl #[.int .u8 (bt a0 x3_2)] rfl (by (try simp only [List.map_toArray, List.map_cons, List.map_nil]); first | done | rfl | (simp only [List.length_drop, List.length_take]; rfl)) ?_; (with_reducible refine (spec_jLetter.calls (bt a0 x3_2) false _ A16.out).mono ?_); rintro e w' ⟨rfl, ⟨nd, rfl⟩⟩; refine ⟨_, rfl, ?_⟩; have p18 : 0 ≤ (x3_2 : Int) := of_decide_eq_true (by first | (with_reducible assumption) | assumption); have q18 : x3_2 < (a0.size : Int) := of_decide_eq_true (by first | (with_reducible assumption) | assumption); have hx18 := bt_at a0 x3_2; replace p18 := eq_true p18; replace q18 := eq_true q18) | (go_at_call 26; (with_reducible refine (spec_jDigit.calls (bt a0 x3_2) true _ A19.out).mono ?_); rintro e w' ⟨rfl, ⟨nd, rfl⟩⟩))
                    go_roundg k2
                    case measure => have := HJ1.out; have := HK2.out; omega
                    case rel => exact ⟨(wrap64 (x3_2 + 1)), (by first | rfl | (simp; done) | (simp [*]; done)), H', ⟨by have := HJ1.out; have := HK2.out; omega⟩, by repeat (first | exact Drawn0.refl _ | apply Drawn0.step)⟩
                  · replace c20 := Bool.eq_false_iff.mpr c20
                    subst c20
                    have H1 : (if (bt a0 x3_2) = 45 then (spec_jLabel.l0 k2 a0 (wrap64 (x3_2 + 1))) else (some false)) = some r := by rw [if_neg (show ¬ (false = true) by decide)] at H; exact H
                    clear H
                    have H := H1
                    clear H1
                    by_cases c22 : (bt a0 x3_2) = 45
                    · rw [if_pos c22] at H
                      have c22b0 : ((bt a0 x3_2) == 45) = true := beq_iff_eq.mpr c22
                      have c22b1 : ((bt a0 x3_2) != 45) = false := bne_eq_false_iff_eq.mpr c22
                      clear c22
                      have H' := Aside0.mk H
                      clear H
                      have p15 : 0 ≤ (x3_2 : Int) := of_decide_eq_true (by first | (with_reducible assumption) | assumption)
                      have q15 : x3_2 < (a0.size : Int) := of_decide_eq_true (by first | (with_reducible assumption) | assumption)
                      have hx15 := bt_at a0 x3_2
                      replace p15 := eq_true p15
                      replace q15 := eq_true q15
                      go_wp2_with (first | ((with_reducible refine gate_callee (f := 42) rfl ?_); refine goesL_ (some 34) rfl rfl Tryd.func42 (by kernel_rfl) rfl #[.int .u8 (bt a0 x3_2)] rfl (by (try simp only [List.map_toArray, List.map_cons, List.map_nil]); first | done | rfl | (simp only [List.length_drop, List.length_take]; rfl)) ?_; (with_reducible refine (spec_jLetter.calls (bt a0 x3_2) false _ A16.out).mono ?_); rintro e w' ⟨rfl, ⟨nd, rfl⟩⟩; refine ⟨_, rfl, ?_⟩; have p18 : 0 ≤ (x3_2 : Int) := of_decide_eq_true (by first | (with_reducible assumption) | assumption); have q18 : x3_2 < (a0.size : Int) := of_decide_eq_true (by first | (with_reducible assumption) | assumption); have hx18 := bt_at a0 x3_2; replace p18 := eq_true p18; replace q18 := eq_true q18) | (go_at_call 26; (with_reducible refine (spec_jDigit.calls (bt a0 x3_2) false _ A19.out).mono ?_); rintro e w' ⟨rfl, ⟨nd, rfl⟩⟩; have p21 : 0 ≤ (x3_2 : Int) := of_decide_eq_true (by first | (with_reducible assumption) | assumption); have q21 : x3_2 < (a0.size : Int) := of_decide_eq_true (by first | (with_reducible assumption) | assumption); have hx21 := bt_at a0 x3_2; replace p21 := eq_true p21; replace q21 := eq_true q21))
                      go_roundg k2
                      case measure => have := HJ1.out; have := HK2.out; omega
                      case rel => exact ⟨(wrap64 (x3_2 + 1)), (by first | rfl | (simp; done) | (simp [*]; done)), H', ⟨by have := HJ1.out; have := HK2.out; omega⟩, by repeat (first | exact Drawn0.refl _ | apply Drawn0.step)⟩
                    · rw [if_neg c22] at H
                      have c22b0 : ((bt a0 x3_2) == 45) = false := beq_eq_false_iff_ne.mpr c22
                      have c22b1 : ((bt a0 x3_2) != 45) = true := bne_iff_ne.mpr c22
                      obtain rfl := Option.some.inj H
                      have p15 : 0 ≤ (x3_2 : Int) := of_decide_eq_true (by first | (with_reducible assumption) | assumption)
                      have q15 : x3_2 < (a0.size : Int) := of_decide_eq_true (by first | (with_reducible assumption) | assumption)
                      have hx15 := bt_at a0 x3_2
                      replace p15 := eq_true p15
                      replace q15 := eq_true q15
                      go_wp2_with (first | ((with_reducible refine gate_callee (f := 42) rfl ?_); refine goesL_ (some 34) rfl rfl Tryd.func42 (by kernel_rfl) rfl #[.int .u8 (bt a0 x3_2)] rfl (by (try simp only [List.map_toArray, List.map_cons, List.map_nil]); first | done | rfl | (simp only [List.length_drop, List.length_take]; rfl)) ?_; (with_reducible refine (spec_jLetter.calls (bt a0 x3_2) false _ A16.out).mono ?_); rintro e w' ⟨rfl, ⟨nd, rfl⟩⟩; refine ⟨_, rfl, ?_⟩; have p18 : 0 ≤ (x3_2 : Int) := of_decide_eq_true (by first | (with_reducible assumption) | assumption); have q18 : x3_2 < (a0.size : Int) := of_decide_eq_true (by first | (with_reducible assumption) | assumption); have hx18 := bt_at a0 x3_2; replace p18 := eq_true p18; replace q18 := eq_true q18) | (go_at_call 26; (with_reducible refine (spec_jDigit.calls (bt a0 x3_2) false _ A19.out).mono ?_); rintro e w' ⟨rfl, ⟨nd, rfl⟩⟩; have p21 : 0 ≤ (x3_2 : Int) := of_decide_eq_true (by first | (with_reducible assumption) | assumption); have q21 : x3_2 < (a0.size : Int) := of_decide_eq_true (by first | (with_reducible assumption) | assumption); have hx21 := bt_at a0 x3_2; replace p21 := eq_true p21; replace q21 := eq_true q21))
                      go_ret
                      exact ⟨by first | rfl | (simp; done) | (simp [*]; done), by repeat (first | exact Drawn0.refl _ | apply Drawn0.step)⟩
              · rw [if_neg c14] at H
                exact absurd H (by simp)
            · rw [if_neg c13] at H
              have c13b0 : decide (x3_2 < (a0.size : Int)) = false := decide_eq_false c13
              clear c13
              obtain rfl := Option.some.inj H
              go_wp2
              go_ret
              exact ⟨by first | rfl | (simp; done) | (simp [*]; done), by repeat (first | exact Drawn0.refl _ | apply Drawn0.step)⟩

/-! ### spec_JHostname: function 37 -/
mutual
def spec_JHostname.l0 : Nat → ByteArray → Int → Int → Option (Bool)
  | 0, _, _, _ => none
  | k + 1, x0, x3, x4 => if x4 ≤ (x0.size : Int) then (if x4 = (x0.size : Int) then (spec_JHostname.j1 k x0 x3 x4 true) else (if 0 ≤ x4 then (if x4 < (x0.size : Int) then (spec_JHostname.j1 k x0 x3 x4 ((bt x0 x4) == 46)) else (none)) else (none))) else (some (decide ((x0.size : Int) ≤ 253)))
def spec_JHostname.j1 : Nat → ByteArray → Int → Int → Bool → Option (Bool)
  | 0, _, _, _, _ => none
  | k + 1, x0, x3, x4, x20 => if x20 = true then (if 0 ≤ x3 then (if x3 ≤ x4 then (if x4 ≤ (x0.size : Int) then ((spec_jLabel.f k (x0.extract (x3 : Int).toNat (x4 : Int).toNat)).bind fun t106 => (if t106 = true then (spec_JHostname.l0 k x0 (wrap64 (x4 + 1)) (wrap64 (x4 + 1))) else (some false))) else (none)) else (none)) else (none)) else (spec_JHostname.l0 k x0 x3 (wrap64 (x4 + 1)))
end
def spec_JHostname.f (k : Nat) (a0 : ByteArray) : Option (Bool) := spec_JHostname.l0 k a0 0 0
theorem spec_JHostname.mono_l : ∀ k, (∀ y0 y1 y2, LeO (spec_JHostname.l0 k y0 y1 y2) (spec_JHostname.l0 (k + 1) y0 y1 y2)) ∧ (∀ y0 y1 y2 y3, LeO (spec_JHostname.j1 k y0 y1 y2 y3) (spec_JHostname.j1 (k + 1) y0 y1 y2 y3))
  | 0 => ⟨fun _ _ _ r h => by simp [spec_JHostname.l0] at h, fun _ _ _ _ r h => by simp [spec_JHostname.j1] at h⟩
  | k + 1 => by
    obtain ⟨ih0, ih1⟩ := spec_JHostname.mono_l k
    refine ⟨?_, ?_⟩
    · intro y0 y1 y2
      unfold spec_JHostname.l0
      repeat' first
      | (with_reducible exact ih0 _ _ _)
      | (with_reducible exact ih1 _ _ _ _)
      | (with_reducible exact spec_jLabel.mono _ _)
      | (with_reducible exact LeO.refl _)
      | (with_reducible exact LeO.none _)
      | (with_reducible refine LeO.ite ?_ ?_)
      | (with_reducible refine LeO.bind ?_ (fun _ => ?_))
      | exact ih0 _ _ _
      | exact ih1 _ _ _ _
      | exact spec_jLabel.mono _ _
      | exact LeO.none _
      | refine LeO.ite ?_ ?_
      | refine LeO.bind ?_ (fun _ => ?_)
    · intro y0 y1 y2 y3
      unfold spec_JHostname.j1
      repeat' first
      | (with_reducible exact ih0 _ _ _)
      | (with_reducible exact ih1 _ _ _ _)
      | (with_reducible exact spec_jLabel.mono _ _)
      | (with_reducible exact LeO.refl _)
      | (with_reducible exact LeO.none _)
      | (with_reducible refine LeO.ite ?_ ?_)
      | (with_reducible refine LeO.bind ?_ (fun _ => ?_))
      | exact ih0 _ _ _
      | exact ih1 _ _ _ _
      | exact spec_jLabel.mono _ _
      | exact LeO.none _
      | refine LeO.ite ?_ ?_
      | refine LeO.bind ?_ (fun _ => ?_)
theorem spec_JHostname.mono : ∀ a0 k, LeO (spec_JHostname.f k a0) (spec_JHostname.f (k + 1) a0) := by
  intro a0 k
  obtain ⟨ih0, ih1⟩ := spec_JHostname.mono_l k
  unfold spec_JHostname.f
  repeat' first
      | (with_reducible exact ih0 _ _ _)
      | (with_reducible exact ih1 _ _ _ _)
      | (with_reducible exact spec_jLabel.mono _ _)
      | (with_reducible exact LeO.refl _)
      | (with_reducible exact LeO.none _)
      | (with_reducible refine LeO.ite ?_ ?_)
      | (with_reducible refine LeO.bind ?_ (fun _ => ?_))
      | exact ih0 _ _ _
      | exact ih1 _ _ _ _
      | exact spec_jLabel.mono _ _
      | exact LeO.none _
      | refine LeO.ite ?_ ?_
      | refine LeO.bind ?_ (fun _ => ?_)
set_option maxHeartbeats 8000000 in
set_option maxRecDepth 100000 in
theorem spec_JHostname.calls (k : Nat) (a0 : ByteArray) (r : Bool) (w : World) (h : spec_JHostname.f k a0 = some r) :
    Calls Tryd.prog 37 #[.string a0] w fun e w' => e = .returned (.bool r) ∧ Drawn0 w w' := by
  have H : (spec_JHostname.l0 k a0 0 0) = some r := h
  clear h
  have H' := Aside0.mk H
  clear H
  go_enter Tryd.func37, Tryd.ntmps37
  go_wp2
  go_loopg [3, 4] k (fun kq v3 v4 w' => ∃ (x3_1 : Int) (x4_1 : Int), v3 = .int .i64 x3_1 ∧ v4 = .int .i64 x4_1 ∧ Aside0 (spec_JHostname.l0 kq a0 x3_1 x4_1 = some r) ∧ Aside0 (kq ≤ k) ∧ Drawn0 w w')
  case atStart => exact ⟨(0), (0), (by first | rfl | (simp; done) | (simp [*]; done)), (by first | rfl | (simp; done) | (simp [*]; done)), H', ⟨Nat.le_refl _⟩, by repeat (first | exact Drawn0.refl _ | apply Drawn0.step)⟩
  case round =>
    clear H'
    obtain ⟨x3_1, x4_1, rfl, rfl, HA, HK1, ⟨m1, rfl⟩⟩ := hrel
    cases gk with
    | zero => exact absurd HA.out (by simp [spec_JHostname.l0])
    | succ k1 =>
      have H := HA.out
      clear HA
      simp only [spec_JHostname.l0] at H
      by_cases c2 : x4_1 ≤ (a0.size : Int)
      · rw [if_pos c2] at H
        have c2b0 : decide (x4_1 ≤ (a0.size : Int)) = true := decide_eq_true c2
        clear c2
        have HC3 := Aside0.mk H
        clear H
        go_upto_region 5 with (fail)
        go_cut [20] (fun v20 wc => ∃ (kq : Nat) (x20_2 : Bool), v20 = .bool x20_2 ∧ Aside0 (spec_JHostname.j1 kq a0 x3_1 x4_1 x20_2 = some r) ∧ Aside0 (kq ≤ k1) ∧ Drawn0 w wc)
        case first =>
          have H := HC3.out
          clear HC3
          by_cases c4 : x4_1 = (a0.size : Int)
          · rw [if_pos c4] at H
            have c4b0 : (x4_1 == (a0.size : Int)) = true := beq_iff_eq.mpr c4
            have c4b1 : (x4_1 != (a0.size : Int)) = false := bne_eq_false_iff_eq.mpr c4
            clear c4
            (first | rw [c4b0] | (simp only [i64_w, i32_w]; rw [c4b0]) | skip)
            have H' := Aside0.mk H
            clear H
            go_wp2
            go_meet
            case rel => exact ⟨_, (true), (by first | rfl | (simp; done) | (simp [*]; done)), H', ⟨by have := HK1.out; first | omega | exact Nat.le_refl _⟩, by repeat (first | exact Drawn0.refl _ | apply Drawn0.step)⟩
          · rw [if_neg c4] at H
            have c4b0 : (x4_1 == (a0.size : Int)) = false := beq_eq_false_iff_ne.mpr c4
            have c4b1 : (x4_1 != (a0.size : Int)) = true := bne_iff_ne.mpr c4
            (first | rw [c4b0] | (simp only [i64_w, i32_w]; rw [c4b0]) | skip)
            by_cases c5 : 0 ≤ x4_1
            · rw [if_pos c5] at H
              have c5b0 : decide (0 ≤ x4_1) = true := decide_eq_true c5
              clear c5
              by_cases c6 : x4_1 < (a0.size : Int)
              · rw [if_pos c6] at H
                have c6b0 : decide (x4_1 < (a0.size : Int)) = true := decide_eq_true c6
                clear c6
                have H' := Aside0.mk H
                clear H
                have p7 : 0 ≤ (x4_1 : Int) := of_decide_eq_true (by first | (with_reducible assumption) | assumption)
                have q7 : x4_1 < (a0.size : Int) := of_decide_eq_true (by first | (with_reducible assumption) | assumption)
                have hx7 := bt_at a0 x4_1
                replace p7 := eq_true p7
                replace q7 := eq_true q7
                go_wp2
                go_meet
                case rel => exact ⟨_, (((bt a0 x4_1) == 46)), (by first | rfl | (simp; done) | (simp [*]; done)), H', ⟨by have := HK1.out; first | omega | exact Nat.le_refl _⟩, by repeat (first | exact Drawn0.refl _ | apply Drawn0.step)⟩
              · rw [if_neg c6] at H
                exact absurd H (by simp)
            · rw [if_neg c5] at H
              exact absurd H (by simp)
        case rest =>
          clear HC3
          try clear c2
          try clear c2b0
          try clear p2
          try clear c3
          try clear c4
          try clear c4b0
          try clear c4b1
          try clear c5
          try clear c5b0
          try clear c6
          try clear c6b0
          try clear p7
          try clear q7
          try clear hx7
          try clear p7
          try clear q7
          obtain ⟨kq, x20_2, rfl, HA, HJ2, ⟨mc2, rfl⟩⟩ := hcut
          cases kq with
          | zero => exact absurd HA.out (by simp [spec_JHostname.j1])
          | succ kj2 =>
            have H := HA.out
            clear HA
            simp only [spec_JHostname.j1] at H
            by_cases c8 : x20_2 = true
            · subst c8
              have H1 : (if 0 ≤ x3_1 then (if x3_1 ≤ x4_1 then (if x4_1 ≤ (a0.size : Int) then ((spec_jLabel.f kj2 (a0.extract (x3_1 : Int).toNat (x4_1 : Int).toNat)).bind fun t106 => (if t106 = true then (spec_JHostname.l0 kj2 a0 (wrap64 (x4_1 + 1)) (wrap64 (x4_1 + 1))) else (some false))) else (none)) else (none)) else (none)) = some r := by rw [if_pos rfl] at H; exact H
              clear H
              have H := H1
              clear H1
              by_cases c9 : 0 ≤ x3_1
              · rw [if_pos c9] at H
                have c9b0 := eq_true c9
                have c9b1 : decide (0 ≤ x3_1) = true := decide_eq_true c9
                clear c9
                by_cases c10 : x3_1 ≤ x4_1
                · rw [if_pos c10] at H
                  have c10b0 := eq_true c10
                  have c10b1 : decide (x3_1 ≤ x4_1) = true := decide_eq_true c10
                  clear c10
                  by_cases c11 : x4_1 ≤ (a0.size : Int)
                  · rw [if_pos c11] at H
                    have c11b0 := eq_true c11
                    have c11b1 : decide (x4_1 ≤ (a0.size : Int)) = true := decide_eq_true c11
                    clear c11
                    replace H := Option.bind_eq_some_iff.mp H
                    obtain ⟨t106, A120, H⟩ := H
                    replace H : (if t106 = true then (spec_JHostname.l0 kj2 a0 (wrap64 (x4_1 + 1)) (wrap64 (x4_1 + 1))) else (some false)) = some r := H
                    have A12 := Aside0.mk A120
                    clear A120
                    by_cases c13 : t106 = true
                    · subst c13
                      have H1 : (spec_JHostname.l0 kj2 a0 (wrap64 (x4_1 + 1)) (wrap64 (x4_1 + 1))) = some r := by rw [if_pos rfl] at H; exact H
                      clear H
                      have H := H1
                      clear H1
                      have H' := Aside0.mk H
                      clear H
                      go_wp2_with (first | ((with_reducible refine gate_callee (f := 44) rfl ?_); refine goesL_ (some 25) rfl rfl Tryd.func44 (by kernel_rfl) rfl #[.string (a0.extract (x3_1 : Int).toNat (x4_1 : Int).toNat)] rfl (by (try simp only [List.map_toArray, List.map_cons, List.map_nil]); first | done | rfl | (simp only [List.length_drop, List.length_take]; rfl)) ?_; (with_reducible refine (spec_jLabel.calls kj2 (a0.extract (x3_1 : Int).toNat (x4_1 : Int).toNat) true _ A12.out).mono ?_); rintro e w' ⟨rfl, ⟨nd, rfl⟩⟩; refine ⟨_, rfl, ?_⟩))
                      go_roundg kj2
                      case measure => have := HK1.out; have := HJ2.out; omega
                      case rel => exact ⟨(wrap64 (x4_1 + 1)), (wrap64 (x4_1 + 1)), (by first | rfl | (simp; done) | (simp [*]; done)), (by first | rfl | (simp; done) | (simp [*]; done)), H', ⟨by have := HK1.out; have := HJ2.out; omega⟩, by repeat (first | exact Drawn0.refl _ | apply Drawn0.step)⟩
                    · replace c13 := Bool.eq_false_iff.mpr c13
                      subst c13
                      have H1 : (some false) = some r := by rw [if_neg (show ¬ (false = true) by decide)] at H; exact H
                      clear H
                      have H := H1
                      clear H1
                      obtain rfl := Option.some.inj H
                      go_wp2_with (first | ((with_reducible refine gate_callee (f := 44) rfl ?_); refine goesL_ (some 25) rfl rfl Tryd.func44 (by kernel_rfl) rfl #[.string (a0.extract (x3_1 : Int).toNat (x4_1 : Int).toNat)] rfl (by (try simp only [List.map_toArray, List.map_cons, List.map_nil]); first | done | rfl | (simp only [List.length_drop, List.length_take]; rfl)) ?_; (with_reducible refine (spec_jLabel.calls kj2 (a0.extract (x3_1 : Int).toNat (x4_1 : Int).toNat) false _ A12.out).mono ?_); rintro e w' ⟨rfl, ⟨nd, rfl⟩⟩; refine ⟨_, rfl, ?_⟩))
                      go_ret
                      exact ⟨by first | rfl | (simp; done) | (simp [*]; done), by repeat (first | exact Drawn0.refl _ | apply Drawn0.step)⟩
                  · rw [if_neg c11] at H
                    exact absurd H (by simp)
                · rw [if_neg c10] at H
                  exact absurd H (by simp)
              · rw [if_neg c9] at H
                exact absurd H (by simp)
            · replace c8 := Bool.eq_false_iff.mpr c8
              subst c8
              have H1 : (spec_JHostname.l0 kj2 a0 x3_1 (wrap64 (x4_1 + 1))) = some r := by rw [if_neg (show ¬ (false = true) by decide)] at H; exact H
              clear H
              have H := H1
              clear H1
              have H' := Aside0.mk H
              clear H
              go_wp2
              go_roundg kj2
              case measure => have := HK1.out; have := HJ2.out; omega
              case rel => exact ⟨(x3_1), (wrap64 (x4_1 + 1)), (by first | rfl | (simp; done) | (simp [*]; done)), (by first | rfl | (simp; done) | (simp [*]; done)), H', ⟨by have := HK1.out; have := HJ2.out; omega⟩, by repeat (first | exact Drawn0.refl _ | apply Drawn0.step)⟩
      · rw [if_neg c2] at H
        have c2b0 : decide (x4_1 ≤ (a0.size : Int)) = false := decide_eq_false c2
        clear c2
        obtain rfl := Option.some.inj H
        go_wp2
        go_ret
        exact ⟨by first | rfl | (simp; done) | (simp [*]; done), by repeat (first | exact Drawn0.refl _ | apply Drawn0.step)⟩

/-! ### spec_JEmail: function 24 -/
def spec_JEmail.l0 : Nat → ByteArray → Int → Option (Bool)
  | 0, _, _ => none
  | k + 1, x0, x3 => if x3 ≥ 0 then (if 0 ≤ x3 then (if x3 < (x0.size : Int) then (if (bt x0 x3) = 64 then (if x3 ≤ 64 then (if (x0.size : Int) ≤ 254 then (if x3 ≤ (x0.size : Int) then ((spec_jDotted.f k (x0.extract 0 (x3 : Int).toNat)).bind fun t107 => (if t107 = true then (if 0 ≤ (wrap64 (x3 + 1)) then (if (wrap64 (x3 + 1)) ≤ (x0.size : Int) then ((spec_JHostname.f k (x0.extract ((wrap64 (x3 + 1)) : Int).toNat x0.size)).bind fun t108 => (some t108)) else (none)) else (none)) else (some false))) else (none)) else (some false)) else (some false)) else (spec_JEmail.l0 k x0 (wrap64 (x3 - 1)))) else (none)) else (none)) else (some false)
def spec_JEmail.f (k : Nat) (a0 : ByteArray) : Option (Bool) := spec_JEmail.l0 k a0 (wrap64 ((a0.size : Int) - 1))
theorem spec_JEmail.mono_l : ∀ k, (∀ y0 y1, LeO (spec_JEmail.l0 k y0 y1) (spec_JEmail.l0 (k + 1) y0 y1))
  | 0 => fun _ _ r h => by simp [spec_JEmail.l0] at h
  | k + 1 => by
    have ih0 := spec_JEmail.mono_l k
    · intro y0 y1
      unfold spec_JEmail.l0
      repeat' first
      | (with_reducible exact ih0 _ _)
      | (with_reducible exact spec_JHostname.mono _ _)
      | (with_reducible exact spec_jDotted.mono _ _)
      | (with_reducible exact LeO.refl _)
      | (with_reducible exact LeO.none _)
      | (with_reducible refine LeO.ite ?_ ?_)
      | (with_reducible refine LeO.bind ?_ (fun _ => ?_))
      | exact ih0 _ _
      | exact spec_JHostname.mono _ _
      | exact spec_jDotted.mono _ _
      | exact LeO.none _
      | refine LeO.ite ?_ ?_
      | refine LeO.bind ?_ (fun _ => ?_)
theorem spec_JEmail.mono : ∀ a0 k, LeO (spec_JEmail.f k a0) (spec_JEmail.f (k + 1) a0) := by
  intro a0 k
  have ih0 := spec_JEmail.mono_l k
  unfold spec_JEmail.f
  repeat' first
      | (with_reducible exact ih0 _ _)
      | (with_reducible exact spec_JHostname.mono _ _)
      | (with_reducible exact spec_jDotted.mono _ _)
      | (with_reducible exact LeO.refl _)
      | (with_reducible exact LeO.none _)
      | (with_reducible refine LeO.ite ?_ ?_)
      | (with_reducible refine LeO.bind ?_ (fun _ => ?_))
      | exact ih0 _ _
      | exact spec_JHostname.mono _ _
      | exact spec_jDotted.mono _ _
      | exact LeO.none _
      | refine LeO.ite ?_ ?_
      | refine LeO.bind ?_ (fun _ => ?_)
set_option maxHeartbeats 8000000 in
set_option maxRecDepth 100000 in
theorem spec_JEmail.calls (k : Nat) (a0 : ByteArray) (r : Bool) (w : World) (h : spec_JEmail.f k a0 = some r) :
    Calls Tryd.prog 24 #[.string a0] w fun e w' => e = .returned (.bool r) ∧ Drawn0 w w' := by
  have H : (spec_JEmail.l0 k a0 (wrap64 ((a0.size : Int) - 1))) = some r := h
  clear h
  have H' := Aside0.mk H
  clear H
  go_enter Tryd.func24, Tryd.ntmps24
  go_wp2
  go_loopg [3] k (fun kq v3 w' => ∃ (x3_1 : Int), v3 = .int .i64 x3_1 ∧ Aside0 (spec_JEmail.l0 kq a0 x3_1 = some r) ∧ Aside0 (kq ≤ k) ∧ Drawn0 w w')
  case atStart => exact ⟨(wrap64 ((a0.size : Int) - 1)), (by first | rfl | (simp; done) | (simp [*]; done)), H', ⟨Nat.le_refl _⟩, by repeat (first | exact Drawn0.refl _ | apply Drawn0.step)⟩
  case round =>
    clear H'
    obtain ⟨x3_1, rfl, HA, HK1, ⟨m1, rfl⟩⟩ := hrel
    cases gk with
    | zero => exact absurd HA.out (by simp [spec_JEmail.l0])
    | succ k1 =>
      have H := HA.out
      clear HA
      simp only [spec_JEmail.l0] at H
      by_cases c2 : x3_1 ≥ 0
      · rw [if_pos c2] at H
        have c2b0 : decide (0 ≤ x3_1) = true := decide_eq_true c2
        clear c2
        by_cases c3 : 0 ≤ x3_1
        · rw [if_pos c3] at H
          have c3b0 : decide (0 ≤ x3_1) = true := decide_eq_true c3
          clear c3
          by_cases c4 : x3_1 < (a0.size : Int)
          · rw [if_pos c4] at H
            have c4b0 : decide (x3_1 < (a0.size : Int)) = true := decide_eq_true c4
            clear c4
            by_cases c6 : (bt a0 x3_1) = 64
            · rw [if_pos c6] at H
              have c6b0 : ((bt a0 x3_1) == 64) = true := beq_iff_eq.mpr c6
              have c6b1 : ((bt a0 x3_1) != 64) = false := bne_eq_false_iff_eq.mpr c6
              clear c6
              by_cases c7 : x3_1 ≤ 64
              · rw [if_pos c7] at H
                have c7b0 : decide (x3_1 ≤ 64) = true := decide_eq_true c7
                clear c7
                by_cases c8 : (a0.size : Int) ≤ 254
                · rw [if_pos c8] at H
                  have c8b0 : decide ((a0.size : Int) ≤ 254) = true := decide_eq_true c8
                  have c8b1 : decide (a0.size ≤ 254) = true := decide_eq_true (by omega)
                  clear c8
                  have c9b0 := eq_true (of_decide_eq_true (by first | (with_reducible assumption) | assumption) : 0 ≤ x3_1)
                  by_cases c10 : x3_1 ≤ (a0.size : Int)
                  · rw [if_pos c10] at H
                    have c10b0 := eq_true c10
                    have c10b1 : decide (x3_1 ≤ (a0.size : Int)) = true := decide_eq_true c10
                    clear c10
                    replace H := Option.bind_eq_some_iff.mp H
                    obtain ⟨t107, A110, H⟩ := H
                    replace H : (if t107 = true then (if 0 ≤ (wrap64 (x3_1 + 1)) then (if (wrap64 (x3_1 + 1)) ≤ (a0.size : Int) then ((spec_JHostname.f k1 (a0.extract ((wrap64 (x3_1 + 1)) : Int).toNat a0.size)).bind fun t108 => (some t108)) else (none)) else (none)) else (some false)) = some r := H
                    have A11 := Aside0.mk A110
                    clear A110
                    by_cases c12 : t107 = true
                    · subst c12
                      have H1 : (if 0 ≤ (wrap64 (x3_1 + 1)) then (if (wrap64 (x3_1 + 1)) ≤ (a0.size : Int) then ((spec_JHostname.f k1 (a0.extract ((wrap64 (x3_1 + 1)) : Int).toNat a0.size)).bind fun t108 => (some t108)) else (none)) else (none)) = some r := by rw [if_pos rfl] at H; exact H
                      clear H
                      have H := H1
                      clear H1
                      obtain ⟨ji13, hji13⟩ : ∃ j_ : Int, (wrap64 (x3_1 + 1)) = j_ := ⟨_, rfl⟩
                      replace H : (if 0 ≤ (ji13) then (if (ji13) ≤ (a0.size : Int) then ((spec_JHostname.f k1 (a0.extract ((ji13) : Int).toNat a0.size)).bind fun t108 => (some t108)) else (none)) else (none)) = some r := by first | (rw [hji13] at H; exact H) | (simp only [hji13] at H ⊢; exact H)
                      (try rw [hji13] at A11)
                      have hji13w : (IntKind.i64.wrap (x3_1 + 1)) = ji13 := (i64_w _).trans hji13
                      by_cases c14 : 0 ≤ (ji13)
                      · rw [if_pos c14] at H
                        have c14b0 := eq_true c14
                        have c14b1 : decide (0 ≤ (ji13)) = true := decide_eq_true c14
                        clear c14
                        by_cases c15 : (ji13) ≤ (a0.size : Int)
                        · rw [if_pos c15] at H
                          have c15b0 := eq_true c15
                          have c15b1 : decide ((ji13) ≤ (a0.size : Int)) = true := decide_eq_true c15
                          clear c15
                          replace H := Option.bind_eq_some_iff.mp H
                          obtain ⟨t108, A160, H⟩ := H
                          replace H : (some t108) = some r := H
                          have A16 := Aside0.mk A160
                          clear A160
                          obtain rfl := Option.some.inj H
                          have p5 : 0 ≤ (x3_1 : Int) := of_decide_eq_true (by first | (with_reducible assumption) | assumption)
                          have q5 : x3_1 < (a0.size : Int) := of_decide_eq_true (by first | (with_reducible assumption) | assumption)
                          have hx5 := bt_at a0 x3_1
                          replace p5 := eq_true p5
                          replace q5 := eq_true q5
                          go_wp2_with (first | (go_at_call 36; (with_reducible refine (spec_jDotted.calls k1 (a0.extract 0 (x3_1 : Int).toNat) true _ A11.out).mono ?_); rintro e w' ⟨rfl, ⟨nd, rfl⟩⟩) | (go_at_call 37; (with_reducible refine (spec_JHostname.calls k1 (a0.extract ((ji13) : Int).toNat a0.size) t108 _ A16.out).mono ?_); rintro e w' ⟨rfl, ⟨nd, rfl⟩⟩))
                          go_ret
                          exact ⟨by first | rfl | (simp; done) | (simp only [← hji13] <;> (first | rfl | simp)) | (simp [*]; done), by repeat (first | exact Drawn0.refl _ | apply Drawn0.step)⟩
                        · rw [if_neg c15] at H
                          exact absurd H (by simp)
                      · rw [if_neg c14] at H
                        exact absurd H (by simp)
                    · replace c12 := Bool.eq_false_iff.mpr c12
                      subst c12
                      have H1 : (some false) = some r := by rw [if_neg (show ¬ (false = true) by decide)] at H; exact H
                      clear H
                      have H := H1
                      clear H1
                      obtain rfl := Option.some.inj H
                      have p5 : 0 ≤ (x3_1 : Int) := of_decide_eq_true (by first | (with_reducible assumption) | assumption)
                      have q5 : x3_1 < (a0.size : Int) := of_decide_eq_true (by first | (with_reducible assumption) | assumption)
                      have hx5 := bt_at a0 x3_1
                      replace p5 := eq_true p5
                      replace q5 := eq_true q5
                      go_wp2_with (first | (go_at_call 36; (with_reducible refine (spec_jDotted.calls k1 (a0.extract 0 (x3_1 : Int).toNat) false _ A11.out).mono ?_); rintro e w' ⟨rfl, ⟨nd, rfl⟩⟩))
                      go_ret
                      exact ⟨by first | rfl | (simp; done) | (simp [*]; done), by repeat (first | exact Drawn0.refl _ | apply Drawn0.step)⟩
                  · rw [if_neg c10] at H
                    exact absurd H (by simp)
                · rw [if_neg c8] at H
                  have c8b0 : decide ((a0.size : Int) ≤ 254) = false := decide_eq_false c8
                  have c8b1 : decide (a0.size ≤ 254) = false := decide_eq_false (by omega)
                  clear c8
                  obtain rfl := Option.some.inj H
                  have p5 : 0 ≤ (x3_1 : Int) := of_decide_eq_true (by first | (with_reducible assumption) | assumption)
                  have q5 : x3_1 < (a0.size : Int) := of_decide_eq_true (by first | (with_reducible assumption) | assumption)
                  have hx5 := bt_at a0 x3_1
                  replace p5 := eq_true p5
                  replace q5 := eq_true q5
                  go_wp2
                  go_ret
                  exact ⟨by first | rfl | (simp; done) | (simp [*]; done), by repeat (first | exact Drawn0.refl _ | apply Drawn0.step)⟩
              · rw [if_neg c7] at H
                have c7b0 : decide (x3_1 ≤ 64) = false := decide_eq_false c7
                clear c7
                obtain rfl := Option.some.inj H
                have p5 : 0 ≤ (x3_1 : Int) := of_decide_eq_true (by first | (with_reducible assumption) | assumption)
                have q5 : x3_1 < (a0.size : Int) := of_decide_eq_true (by first | (with_reducible assumption) | assumption)
                have hx5 := bt_at a0 x3_1
                replace p5 := eq_true p5
                replace q5 := eq_true q5
                go_wp2
                go_ret
                exact ⟨by first | rfl | (simp; done) | (simp [*]; done), by repeat (first | exact Drawn0.refl _ | apply Drawn0.step)⟩
            · rw [if_neg c6] at H
              have c6b0 : ((bt a0 x3_1) == 64) = false := beq_eq_false_iff_ne.mpr c6
              have c6b1 : ((bt a0 x3_1) != 64) = true := bne_iff_ne.mpr c6
              have H' := Aside0.mk H
              clear H
              have p5 : 0 ≤ (x3_1 : Int) := of_decide_eq_true (by first | (with_reducible assumption) | assumption)
              have q5 : x3_1 < (a0.size : Int) := of_decide_eq_true (by first | (with_reducible assumption) | assumption)
              have hx5 := bt_at a0 x3_1
              replace p5 := eq_true p5
              replace q5 := eq_true q5
              go_wp2
              go_roundg k1
              case measure => have := HK1.out; omega
              case rel => exact ⟨(wrap64 (x3_1 - 1)), (by first | rfl | (simp; done) | (simp [*]; done)), H', ⟨by have := HK1.out; omega⟩, by repeat (first | exact Drawn0.refl _ | apply Drawn0.step)⟩
          · rw [if_neg c4] at H
            exact absurd H (by simp)
        · rw [if_neg c3] at H
          exact absurd H (by simp)
      · rw [if_neg c2] at H
        have c2b0 : decide (0 ≤ x3_1) = false := decide_eq_false c2
        clear c2
        obtain rfl := Option.some.inj H
        go_wp2
        go_ret
        exact ⟨by first | rfl | (simp; done) | (simp [*]; done), by repeat (first | exact Drawn0.refl _ | apply Drawn0.step)⟩

/-- THE ONE PURE STATEMENT of spec_JEmail: yours. -/
def spec_JEmail.Pure : Prop := ∀ (a0 : ByteArray), a0.size ≤ 140737488351232 → ∃ k, spec_JEmail.f k a0 = some true
theorem spec_JEmail.walk (P : spec_JEmail.Pure) (a0 : ByteArray) (w : World) (w0 : a0.size ≤ 140737488351232) :
    Calls Tryd.prog 24 #[.string a0] w fun e w' => e = .returned (.bool true) ∧ Below w.heap.size w w' := by
  obtain ⟨k, h⟩ := P a0 w0
  refine (spec_JEmail.calls k a0 true w h).mono ?_
  rintro e w' ⟨rfl, hd⟩
  exact ⟨rfl, hd.below⟩

end Go.Proofs.YtfnnahopbghndaaDoor.PJEmail
