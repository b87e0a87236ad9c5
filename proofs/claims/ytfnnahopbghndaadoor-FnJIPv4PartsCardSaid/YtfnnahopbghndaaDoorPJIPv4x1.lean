-- PRINTED BY print.sh 35421559b90ae4d0a3588c463048766b98c2df88dd9212a6774a882060cdf62d: not written by this session
import Derived.Test.YtfnnahopbghndaaDoorPJIPv4x0
namespace Go.Proofs.YtfnnahopbghndaaDoor.PJIPv4
open Go.RowKit Go.Proofs.YtfnnahopbghndaaDoorW.PrintWords Go.Proofs.YtfnnahopbghndaaDoorW.PrintLast Go.Proofs.YtfnnahopbghndaaDoorW.PrintMore
attribute [local go_sem] max2_int min2_int max_two min_two max_three min_three max_four min_four   -- for this text's walks alone
set_option linter.unusedVariables false
set_option linter.unusedSimpArgs false

/-! ### spec_jDigit: function 26 -/
def spec_jDigit.f (a0 : Int) : Option (Bool) := if a0 ≥ 48 then (some (decide (a0 ≤ 57))) else (some false)
set_option maxHeartbeats 8000000 in
set_option maxRecDepth 100000 in
theorem spec_jDigit.calls (a0 : Int) (r : Bool) (w : World) (h : spec_jDigit.f a0 = some r) :
    Calls Tryd.prog 26 #[.int .u8 a0] w fun e w' => e = .returned (.bool r) ∧ Drawn0 w w' := by
  have H : (if a0 ≥ 48 then (some (decide (a0 ≤ 57))) else (some false)) = some r := h
  clear h
  by_cases c2 : a0 ≥ 48
  · rw [if_pos c2] at H
    have c2b0 : decide (48 ≤ a0) = true := decide_eq_true c2
    clear c2
    obtain rfl := Option.some.inj H
    go_enter Tryd.func26, Tryd.ntmps26
    go_wp2
    go_ret
    exact ⟨by first | rfl | (simp; done) | (simp [*]; done), by repeat (first | exact Drawn0.refl _ | apply Drawn0.step)⟩
  · rw [if_neg c2] at H
    have c2b0 : decide (48 ≤ a0) = false := decide_eq_false c2
    clear c2
    obtain rfl := Option.some.inj H
    go_enter Tryd.func26, Tryd.ntmps26
    go_wp2
    go_ret
    exact ⟨by first | rfl | (simp; done) | (simp [*]; done), by repeat (first | exact Drawn0.refl _ | apply Drawn0.step)⟩

/-! ### spec_jDigits: function 30 -/
def spec_jDigits.l0 : Nat → ByteArray → Int → Option (Bool)
  | 0, _, _ => none
  | k + 1, x0, x3 => if x3 < (x0.size : Int) then (if 0 ≤ x3 then ((spec_jDigit.f (bt x0 x3)).bind fun t101 => (if t101 = true then (spec_jDigits.l0 k x0 (wrap64 (x3 + 1))) else (some false))) else (none)) else (some (decide ((x0.size : Int) > 0)))
def spec_jDigits.f (k : Nat) (a0 : ByteArray) : Option (Bool) := spec_jDigits.l0 k a0 0
theorem spec_jDigits.mono_l : ∀ k, (∀ y0 y1, LeO (spec_jDigits.l0 k y0 y1) (spec_jDigits.l0 (k + 1) y0 y1))
  | 0 => fun _ _ r h => by simp [spec_jDigits.l0] at h
  | k + 1 => by
    have ih0 := spec_jDigits.mono_l k
    · intro y0 y1
      unfold spec_jDigits.l0
      repeat' first
      | (with_reducible exact ih0 _ _)
      | (with_reducible exact LeO.refl _)
      | (with_reducible exact LeO.none _)
      | (with_reducible refine LeO.ite ?_ ?_)
      | (with_reducible refine LeO.bind ?_ (fun _ => ?_))
      | exact ih0 _ _
      | exact LeO.none _
      | refine LeO.ite ?_ ?_
      | refine LeO.bind ?_ (fun _ => ?_)
theorem spec_jDigits.mono : ∀ a0 k, LeO (spec_jDigits.f k a0) (spec_jDigits.f (k + 1) a0) := by
  intro a0 k
  have ih0 := spec_jDigits.mono_l k
  unfold spec_jDigits.f
  repeat' first
      | (with_reducible exact ih0 _ _)
      | (with_reducible exact LeO.refl _)
      | (with_reducible exact LeO.none _)
      | (with_reducible refine LeO.ite ?_ ?_)
      | (with_reducible refine LeO.bind ?_ (fun _ => ?_))
      | exact ih0 _ _
      | exact LeO.none _
      | refine LeO.ite ?_ ?_
      | refine LeO.bind ?_ (fun _ => ?_)
set_option maxHeartbeats 8000000 in
set_option maxRecDepth 100000 in
theorem spec_jDigits.calls (k : Nat) (a0 : ByteArray) (r : Bool) (w : World) (h : spec_jDigits.f k a0 = some r) :
    Calls Tryd.prog 30 #[.string a0] w fun e w' => e = .returned (.bool r) ∧ Drawn0 w w' := by
  have H : (spec_jDigits.l0 k a0 0) = some r := h
  clear h
  have H' := Aside0.mk H
  clear H
  go_enter Tryd.func30, Tryd.ntmps30
  go_wp2
  go_loopg [3] k (fun kq v3 w' => ∃ (x3_1 : Int), v3 = .int .i64 x3_1 ∧ Aside0 (spec_jDigits.l0 kq a0 x3_1 = some r) ∧ Aside0 (kq ≤ k) ∧ Drawn0 w w')
  case atStart => exact ⟨(0), (by first | rfl | (simp; done) | (simp [*]; done)), H', ⟨Nat.le_refl _⟩, by repeat (first | exact Drawn0.refl _ | apply Drawn0.step)⟩
  case round =>
    clear H'
    obtain ⟨x3_1, rfl, HA, HK1, ⟨m1, rfl⟩⟩ := hrel
    cases gk with
    | zero => exact absurd HA.out (by simp [spec_jDigits.l0])
    | succ k1 =>
      have H := HA.out
      clear HA
      simp only [spec_jDigits.l0] at H
      by_cases c2 : x3_1 < (a0.size : Int)
      · rw [if_pos c2] at H
        have c2b0 : decide (x3_1 < (a0.size : Int)) = true := decide_eq_true c2
        clear c2
        by_cases c3 : 0 ≤ x3_1
        · rw [if_pos c3] at H
          have c3b0 : decide (0 ≤ x3_1) = true := decide_eq_true c3
          clear c3
          replace H := Option.bind_eq_some_iff.mp H
          obtain ⟨t101, A50, H⟩ := H
          replace H : (if t101 = true then (spec_jDigits.l0 k1 a0 (wrap64 (x3_1 + 1))) else (some false)) = some r := H
          have A5 := Aside0.mk A50
          clear A50
          by_cases c6 : t101 = true
          · subst c6
            have H1 : (spec_jDigits.l0 k1 a0 (wrap64 (x3_1 + 1))) = some r := by rw [if_pos rfl] at H; exact H
            clear H
            have H := H1
            clear H1
            have H' := Aside0.mk H
            clear H
            have p4 : 0 ≤ (x3_1 : Int) := of_decide_eq_true (by first | (with_reducible assumption) | assumption)
            have q4 : x3_1 < (a0.size : Int) := of_decide_eq_true (by first | (with_reducible assumption) | assumption)
            have hx4 := bt_at a0 x3_1
            replace p4 := eq_true p4
            replace q4 := eq_true q4
            go_wp2_with (first | ((with_reducible refine gate_callee (f := 26) rfl ?_); refine goesL_ (some 13) rfl rfl Tryd.func26 (by kernel_rfl) rfl #[.int .u8 (bt a0 x3_1)] rfl (by (try simp only [List.map_toArray, List.map_cons, List.map_nil]); first | done | rfl | (simp only [List.length_drop, List.length_take]; rfl)) ?_; (with_reducible refine (spec_jDigit.calls (bt a0 x3_1) true _ A5.out).mono ?_); rintro e w' ⟨rfl, ⟨nd, rfl⟩⟩; refine ⟨_, rfl, ?_⟩))
            go_roundg k1
            case measure => have := HK1.out; omega
            case rel => exact ⟨(wrap64 (x3_1 + 1)), (by first | rfl | (simp; done) | (simp [*]; done)), H', ⟨by have := HK1.out; omega⟩, by repeat (first | exact Drawn0.refl _ | apply Drawn0.step)⟩
          · replace c6 := Bool.eq_false_iff.mpr c6
            subst c6
            have H1 : (some false) = some r := by rw [if_neg (show ¬ (false = true) by decide)] at H; exact H
            clear H
            have H := H1
            clear H1
            obtain rfl := Option.some.inj H
            have p4 : 0 ≤ (x3_1 : Int) := of_decide_eq_true (by first | (with_reducible assumption) | assumption)
            have q4 : x3_1 < (a0.size : Int) := of_decide_eq_true (by first | (with_reducible assumption) | assumption)
            have hx4 := bt_at a0 x3_1
            replace p4 := eq_true p4
            replace q4 := eq_true q4
            go_wp2_with (first | ((with_reducible refine gate_callee (f := 26) rfl ?_); refine goesL_ (some 13) rfl rfl Tryd.func26 (by kernel_rfl) rfl #[.int .u8 (bt a0 x3_1)] rfl (by (try simp only [List.map_toArray, List.map_cons, List.map_nil]); first | done | rfl | (simp only [List.length_drop, List.length_take]; rfl)) ?_; (with_reducible refine (spec_jDigit.calls (bt a0 x3_1) false _ A5.out).mono ?_); rintro e w' ⟨rfl, ⟨nd, rfl⟩⟩; refine ⟨_, rfl, ?_⟩))
            go_ret
            exact ⟨by first | rfl | (simp; done) | (simp [*]; done), by repeat (first | exact Drawn0.refl _ | apply Drawn0.step)⟩
        · rw [if_neg c3] at H
          exact absurd H (by simp)
      · rw [if_neg c2] at H
        have c2b0 : decide (x3_1 < (a0.size : Int)) = false := decide_eq_false c2
        clear c2
        obtain rfl := Option.some.inj H
        go_wp2
        go_ret
        exact ⟨by first | rfl | (simp; done) | (simp [*]; done), by repeat (first | exact Drawn0.refl _ | apply Drawn0.step)⟩

/-! ### spec_jNumber: function 32 -/
def spec_jNumber.l0 : Nat → ByteArray → Int → Int → Option (Int)
  | 0, _, _, _ => none
  | k + 1, x0, x3, x4 => if x4 < (x0.size : Int) then (if 0 ≤ x4 then (spec_jNumber.l0 k x0 (wrap64 ((wrap64 (10 * x3)) + (((bt x0 x4) - 48) % 256))) (wrap64 (x4 + 1))) else (none)) else (some x3)
def spec_jNumber.f (k : Nat) (a0 : ByteArray) : Option (Int) := spec_jNumber.l0 k a0 0 0
theorem spec_jNumber.mono_l : ∀ k, (∀ y0 y1 y2, LeO (spec_jNumber.l0 k y0 y1 y2) (spec_jNumber.l0 (k + 1) y0 y1 y2))
  | 0 => fun _ _ _ r h => by simp [spec_jNumber.l0] at h
  | k + 1 => by
    have ih0 := spec_jNumber.mono_l k
    · intro y0 y1 y2
      unfold spec_jNumber.l0
      repeat' first
      | (with_reducible exact ih0 _ _ _)
      | (with_reducible exact LeO.refl _)
      | (with_reducible exact LeO.none _)
      | (with_reducible refine LeO.ite ?_ ?_)
      | (with_reducible refine LeO.bind ?_ (fun _ => ?_))
      | exact ih0 _ _ _
      | exact LeO.none _
      | refine LeO.ite ?_ ?_
      | refine LeO.bind ?_ (fun _ => ?_)
theorem spec_jNumber.mono : ∀ a0 k, LeO (spec_jNumber.f k a0) (spec_jNumber.f (k + 1) a0) := by
  intro a0 k
  have ih0 := spec_jNumber.mono_l k
  unfold spec_jNumber.f
  repeat' first
      | (with_reducible exact ih0 _ _ _)
      | (with_reducible exact LeO.refl _)
      | (with_reducible exact LeO.none _)
      | (with_reducible refine LeO.ite ?_ ?_)
      | (with_reducible refine LeO.bind ?_ (fun _ => ?_))
      | exact ih0 _ _ _
      | exact LeO.none _
      | refine LeO.ite ?_ ?_
      | refine LeO.bind ?_ (fun _ => ?_)
set_option maxHeartbeats 8000000 in
set_option maxRecDepth 100000 in
theorem spec_jNumber.calls (k : Nat) (a0 : ByteArray) (r : Int) (w : World) (h : spec_jNumber.f k a0 = some r) :
    Calls Tryd.prog 32 #[.string a0] w fun e w' => e = .returned (.int .i64 r) ∧ Drawn0 w w' := by
  have H : (spec_jNumber.l0 k a0 0 0) = some r := h
  clear h
  have H' := Aside0.mk H
  clear H
  go_enter Tryd.func32, Tryd.ntmps32
  go_wp2
  go_loopg [3, 4] k (fun kq v3 v4 w' => ∃ (x3_1 : Int) (x4_1 : Int), v3 = .int .i64 x3_1 ∧ v4 = .int .i64 x4_1 ∧ Aside0 (spec_jNumber.l0 kq a0 x3_1 x4_1 = some r) ∧ Aside0 (kq ≤ k) ∧ Drawn0 w w')
  case atStart => exact ⟨(0), (0), (by first | rfl | (simp; done) | (simp [*]; done)), (by first | rfl | (simp; done) | (simp [*]; done)), H', ⟨Nat.le_refl _⟩, by repeat (first | exact Drawn0.refl _ | apply Drawn0.step)⟩
  case round =>
    clear H'
    obtain ⟨x3_1, x4_1, rfl, rfl, HA, HK1, ⟨m1, rfl⟩⟩ := hrel
    cases gk with
    | zero => exact absurd HA.out (by simp [spec_jNumber.l0])
    | succ k1 =>
      have H := HA.out
      clear HA
      simp only [spec_jNumber.l0] at H
      by_cases c2 : x4_1 < (a0.size : Int)
      · rw [if_pos c2] at H
        have c2b0 : decide (x4_1 < (a0.size : Int)) = true := decide_eq_true c2
        clear c2
        by_cases c3 : 0 ≤ x4_1
        · rw [if_pos c3] at H
          have c3b0 : decide (0 ≤ x4_1) = true := decide_eq_true c3
          clear c3
          have H' := Aside0.mk H
          clear H
          have p4 : 0 ≤ (x4_1 : Int) := of_decide_eq_true (by first | (with_reducible assumption) | assumption)
          have q4 : x4_1 < (a0.size : Int) := of_decide_eq_true (by first | (with_reducible assumption) | assumption)
          have hx4 := bt_at a0 x4_1
          replace p4 := eq_true p4
          replace q4 := eq_true q4
          go_wp2
          go_roundg k1
          case measure => have := HK1.out; omega
          case rel => exact ⟨(wrap64 ((wrap64 (10 * x3_1)) + (((bt a0 x4_1) - 48) % 256))), (wrap64 (x4_1 + 1)), (by first | rfl | (simp; done) | (simp [*]; done)), (by first | rfl | (simp; done) | (simp [*]; done)), H', ⟨by have := HK1.out; omega⟩, by repeat (first | exact Drawn0.refl _ | apply Drawn0.step)⟩
        · rw [if_neg c3] at H
          exact absurd H (by simp)
      · rw [if_neg c2] at H
        have c2b0 : decide (x4_1 < (a0.size : Int)) = false := decide_eq_false c2
        clear c2
        obtain rfl := Option.some.inj H
        go_wp2
        go_ret
        exact ⟨by first | rfl | (simp; done) | (simp [*]; done), by repeat (first | exact Drawn0.refl _ | apply Drawn0.step)⟩

/-! ### spec_jOctet: function 28 -/
def spec_jOctet.f (k : Nat) (a0 : ByteArray) : Option (Bool) := if (a0.size : Int) ≤ 3 then ((spec_jDigits.f k a0).bind fun t102 => (if t102 = true then ((spec_jNumber.f k a0).bind fun t103 => (if t103 ≤ 255 then (if (a0.size : Int) = 1 then (some true) else (if 0 < (a0.size : Int) then (some ((bt a0 0) != 48)) else (none))) else (some false))) else (some false))) else (some false)
theorem spec_jOctet.mono : ∀ a0 k, LeO (spec_jOctet.f k a0) (spec_jOctet.f (k + 1) a0) := by
  intro a0 k
  unfold spec_jOctet.f
  repeat' first
      | (with_reducible exact spec_jDigits.mono _ _)
      | (with_reducible exact spec_jNumber.mono _ _)
      | (with_reducible exact LeO.refl _)
      | (with_reducible exact LeO.none _)
      | (with_reducible refine LeO.ite ?_ ?_)
      | (with_reducible refine LeO.bind ?_ (fun _ => ?_))
      | exact spec_jDigits.mono _ _
      | exact spec_jNumber.mono _ _
      | exact LeO.none _
      | refine LeO.ite ?_ ?_
      | refine LeO.bind ?_ (fun _ => ?_)
set_option maxHeartbeats 8000000 in
set_option maxRecDepth 100000 in
theorem spec_jOctet.calls (k : Nat) (a0 : ByteArray) (r : Bool) (w : World) (h : spec_jOctet.f k a0 = some r) :
    Calls Tryd.prog 28 #[.string a0] w fun e w' => e = .returned (.bool r) ∧ Drawn0 w w' := by
  have H : (if (a0.size : Int) ≤ 3 then ((spec_jDigits.f k a0).bind fun t102 => (if t102 = true then ((spec_jNumber.f k a0).bind fun t103 => (if t103 ≤ 255 then (if (a0.size : Int) = 1 then (some true) else (if 0 < (a0.size : Int) then (some ((bt a0 0) != 48)) else (none))) else (some false))) else (some false))) else (some false)) = some r := h
  clear h
  by_cases c2 : (a0.size : Int) ≤ 3
  · rw [if_pos c2] at H
    have c2b0 : decide ((a0.size : Int) ≤ 3) = true := decide_eq_true c2
    have c2b1 : decide (a0.size ≤ 3) = true := decide_eq_true (by omega)
    clear c2
    replace H := Option.bind_eq_some_iff.mp H
    obtain ⟨t102, A30, H⟩ := H
    replace H : (if t102 = true then ((spec_jNumber.f k a0).bind fun t103 => (if t103 ≤ 255 then (if (a0.size : Int) = 1 then (some true) else (if 0 < (a0.size : Int) then (some ((bt a0 0) != 48)) else (none))) else (some false))) else (some false)) = some r := H
    have A3 := Aside0.mk A30
    clear A30
    by_cases c4 : t102 = true
    · subst c4
      have H1 : ((spec_jNumber.f k a0).bind fun t103 => (if t103 ≤ 255 then (if (a0.size : Int) = 1 then (some true) else (if 0 < (a0.size : Int) then (some ((bt a0 0) != 48)) else (none))) else (some false))) = some r := by rw [if_pos rfl] at H; exact H
      clear H
      have H := H1
      clear H1
      replace H := Option.bind_eq_some_iff.mp H
      obtain ⟨t103, A50, H⟩ := H
      replace H : (if t103 ≤ 255 then (if (a0.size : Int) = 1 then (some true) else (if 0 < (a0.size : Int) then (some ((bt a0 0) != 48)) else (none))) else (some false)) = some r := H
      have A5 := Aside0.mk A50
      clear A50
      by_cases c6 : t103 ≤ 255
      · rw [if_pos c6] at H
        have c6b0 : decide (t103 ≤ 255) = true := decide_eq_true c6
        clear c6
        by_cases c7 : (a0.size : Int) = 1
        · rw [if_pos c7] at H
          have c7b0 : ((a0.size : Int) == 1) = true := beq_iff_eq.mpr c7
          have c7b1 : ((a0.size : Int) != 1) = false := bne_eq_false_iff_eq.mpr c7
          clear c7
          obtain rfl := Option.some.inj H
          go_enter Tryd.func28, Tryd.ntmps28
          go_wp2_with (first | (go_at_call 30; (with_reducible refine (spec_jDigits.calls k a0 true _ A3.out).mono ?_); rintro e w' ⟨rfl, ⟨nd, rfl⟩⟩) | (go_at_call 32; (with_reducible refine (spec_jNumber.calls k a0 t103 _ A5.out).mono ?_); rintro e w' ⟨rfl, ⟨nd, rfl⟩⟩))
          go_ret
          exact ⟨by first | rfl | (simp; done) | (simp [*]; done), by repeat (first | exact Drawn0.refl _ | apply Drawn0.step)⟩
        · rw [if_neg c7] at H
          have c7b0 : ((a0.size : Int) == 1) = false := beq_eq_false_iff_ne.mpr c7
          have c7b1 : ((a0.size : Int) != 1) = true := bne_iff_ne.mpr c7
          by_cases c8 : 0 < (a0.size : Int)
          · rw [if_pos c8] at H
            have c8b0 : decide (0 < (a0.size : Int)) = true := decide_eq_true c8
            have c8b1 : decide (0 < a0.size) = true := decide_eq_true (by omega)
            clear c8
            obtain rfl := Option.some.inj H
            go_enter Tryd.func28, Tryd.ntmps28
            go_wp2_with (first | (go_at_call 30; (with_reducible refine (spec_jDigits.calls k a0 true _ A3.out).mono ?_); rintro e w' ⟨rfl, ⟨nd, rfl⟩⟩) | (go_at_call 32; (with_reducible refine (spec_jNumber.calls k a0 t103 _ A5.out).mono ?_); rintro e w' ⟨rfl, ⟨nd, rfl⟩⟩; have p9 : 0 ≤ (0 : Int) := (by omega); have q9 : 0 < a0.size := (by have : (0 : Int) < (a0.size : Int) := of_decide_eq_true (by first | (with_reducible assumption) | assumption); omega); have hx9 : ∀ h : 0 < a0.size, ((a0[0]'h).toNat : Int) = bt a0 0 := bt_at a0 0; clear p9; have qi9 : (0 < (a0.size : Int)) = True := eq_true (of_decide_eq_true (by first | (with_reducible assumption) | assumption)); replace q9 := eq_true q9))
            go_ret
            exact ⟨by first | rfl | (simp; done) | (simp [*]; done), by repeat (first | exact Drawn0.refl _ | apply Drawn0.step)⟩
          · rw [if_neg c8] at H
            exact absurd H (by simp)
      · rw [if_neg c6] at H
        have c6b0 : decide (t103 ≤ 255) = false := decide_eq_false c6
        clear c6
        obtain rfl := Option.some.inj H
        go_enter Tryd.func28, Tryd.ntmps28
        go_wp2_with (first | (go_at_call 30; (with_reducible refine (spec_jDigits.calls k a0 true _ A3.out).mono ?_); rintro e w' ⟨rfl, ⟨nd, rfl⟩⟩) | (go_at_call 32; (with_reducible refine (spec_jNumber.calls k a0 t103 _ A5.out).mono ?_); rintro e w' ⟨rfl, ⟨nd, rfl⟩⟩))
        go_ret
        exact ⟨by first | rfl | (simp; done) | (simp [*]; done), by repeat (first | exact Drawn0.refl _ | apply Drawn0.step)⟩
    · replace c4 := Bool.eq_false_iff.mpr c4
      subst c4
      have H1 : (some false) = some r := by rw [if_neg (show ¬ (false = true) by decide)] at H; exact H
      clear H
      have H := H1
      clear H1
      obtain rfl := Option.some.inj H
      go_enter Tryd.func28, Tryd.ntmps28
      go_wp2_with (first | (go_at_call 30; (with_reducible refine (spec_jDigits.calls k a0 false _ A3.out).mono ?_); rintro e w' ⟨rfl, ⟨nd, rfl⟩⟩))
      go_ret
      exact ⟨by first | rfl | (simp; done) | (simp [*]; done), by repeat (first | exact Drawn0.refl _ | apply Drawn0.step)⟩
  · rw [if_neg c2] at H
    have c2b0 : decide ((a0.size : Int) ≤ 3) = false := decide_eq_false c2
    have c2b1 : decide (a0.size ≤ 3) = false := decide_eq_false (by omega)
    clear c2
    obtain rfl := Option.some.inj H
    go_enter Tryd.func28, Tryd.ntmps28
    go_wp2
    go_ret
    exact ⟨by first | rfl | (simp; done) | (simp [*]; done), by repeat (first | exact Drawn0.refl _ | apply Drawn0.step)⟩

/-! ### spec_JIPv4: function 13 -/
mutual
def spec_JIPv4.l0 : Nat → ByteArray → Int → Int → Int → Option (Bool)
  | 0, _, _, _, _ => none
  | k + 1, x0, x3, x4, x5 => if x5 ≤ (x0.size : Int) then (if x5 = (x0.size : Int) then (spec_JIPv4.j1 k x0 x3 x4 x5 true) else (if 0 ≤ x5 then (if x5 < (x0.size : Int) then (spec_JIPv4.j1 k x0 x3 x4 x5 ((bt x0 x5) == 46)) else (none)) else (none))) else (some (x4 == 4))
def spec_JIPv4.j1 : Nat → ByteArray → Int → Int → Int → Bool → Option (Bool)
  | 0, _, _, _, _, _ => none
  | k + 1, x0, x3, x4, x5, x21 => if x21 = true then (if 0 ≤ x3 then (if x3 ≤ x5 then (if x5 ≤ (x0.size : Int) then ((spec_jOctet.f k (x0.extract (x3 : Int).toNat (x5 : Int).toNat)).bind fun t104 => (if t104 = true then (spec_JIPv4.l0 k x0 (wrap64 (x5 + 1)) (wrap64 (x4 + 1)) (wrap64 (x5 + 1))) else (some false))) else (none)) else (none)) else (none)) else (spec_JIPv4.l0 k x0 x3 x4 (wrap64 (x5 + 1)))
end
def spec_JIPv4.f (k : Nat) (a0 : ByteArray) : Option (Bool) := spec_JIPv4.l0 k a0 0 0 0
theorem spec_JIPv4.mono_l : ∀ k, (∀ y0 y1 y2 y3, LeO (spec_JIPv4.l0 k y0 y1 y2 y3) (spec_JIPv4.l0 (k + 1) y0 y1 y2 y3)) ∧ (∀ y0 y1 y2 y3 y4, LeO (spec_JIPv4.j1 k y0 y1 y2 y3 y4) (spec_JIPv4.j1 (k + 1) y0 y1 y2 y3 y4))
  | 0 => ⟨fun _ _ _ _ r h => by simp [spec_JIPv4.l0] at h, fun _ _ _ _ _ r h => by simp [spec_JIPv4.j1] at h⟩
  | k + 1 => by
    obtain ⟨ih0, ih1⟩ := spec_JIPv4.mono_l k
    refine ⟨?_, ?_⟩
    · intro y0 y1 y2 y3
      unfold spec_JIPv4.l0
      repeat' first
      | (with_reducible exact ih0 _ _ _ _)
      | (with_reducible exact ih1 _ _ _ _ _)
      | (with_reducible exact spec_jOctet.mono _ _)
      | (with_reducible exact LeO.refl _)
      | (with_reducible exact LeO.none _)
      | (with_reducible refine LeO.ite ?_ ?_)
      | (with_reducible refine LeO.bind ?_ (fun _ => ?_))
      | exact ih0 _ _ _ _
      | exact ih1 _ _ _ _ _
      | exact spec_jOctet.mono _ _
      | exact LeO.none _
      | refine LeO.ite ?_ ?_
      | refine LeO.bind ?_ (fun _ => ?_)
    · intro y0 y1 y2 y3 y4
      unfold spec_JIPv4.j1
      repeat' first
      | (with_reducible exact ih0 _ _ _ _)
      | (with_reducible exact ih1 _ _ _ _ _)
      | (with_reducible exact spec_jOctet.mono _ _)
      | (with_reducible exact LeO.refl _)
      | (with_reducible exact LeO.none _)
      | (with_reducible refine LeO.ite ?_ ?_)
      | (with_reducible refine LeO.bind ?_ (fun _ => ?_))
      | exact ih0 _ _ _ _
      | exact ih1 _ _ _ _ _
      | exact spec_jOctet.mono _ _
      | exact LeO.none _
      | refine LeO.ite ?_ ?_
      | refine LeO.bind ?_ (fun _ => ?_)
theorem spec_JIPv4.mono : ∀ a0 k, LeO (spec_JIPv4.f k a0) (spec_JIPv4.f (k + 1) a0) := by
  intro a0 k
  obtain ⟨ih0, ih1⟩ := spec_JIPv4.mono_l k
  unfold spec_JIPv4.f
  repeat' first
      | (with_reducible exact ih0 _ _ _ _)
      | (with_reducible exact ih1 _ _ _ _ _)
      | (with_reducible exact spec_jOctet.mono _ _)
      | (with_reducible exact LeO.refl _)
      | (with_reducible exact LeO.none _)
      | (with_reducible refine LeO.ite ?_ ?_)
      | (with_reducible refine LeO.bind ?_ (fun _ => ?_))
      | exact ih0 _ _ _ _
      | exact ih1 _ _ _ _ _
      | exact spec_jOctet.mono _ _
      | exact LeO.none _
      | refine LeO.ite ?_ ?_
      | refine LeO.bind ?_ (fun _ => ?_)
set_option maxHeartbeats 8000000 in
set_option maxRecDepth 100000 in
theorem spec_JIPv4.calls (k : Nat) (a0 : ByteArray) (r : Bool) (w : World) (h : spec_JIPv4.f k a0 = some r) :
    Calls Tryd.prog 13 #[.string a0] w fun e w' => e = .returned (.bool r) ∧ Drawn0 w w' := by
  have H : (spec_JIPv4.l0 k a0 0 0 0) = some r := h
  clear h
  have H' := Aside0.mk H
  clear H
  go_enter Tryd.func13, Tryd.ntmps13
  go_wp2
  go_loopg [3, 4, 5] k (fun kq v3 v4 v5 w' => ∃ (x3_1 : Int) (x4_1 : Int) (x5_1 : Int), v3 = .int .i64 x3_1 ∧ v4 = .int .i64 x4_1 ∧ v5 = .int .i64 x5_1 ∧ Aside0 (spec_JIPv4.l0 kq a0 x3_1 x4_1 x5_1 = some r) ∧ Aside0 (kq ≤ k) ∧ Drawn0 w w')
  case atStart => exact ⟨(0), (0), (0), (by first | rfl | (simp; done) | (simp [*]; done)), (by first | rfl | (simp; done) | (simp [*]; done)), (by first | rfl | (simp; done) | (simp [*]; done)), H', ⟨Nat.le_refl _⟩, by repeat (first | exact Drawn0.refl _ | apply Drawn0.step)⟩
  case round =>
    clear H'
    try clear c1
    obtain ⟨x3_1, x4_1, x5_1, rfl, rfl, rfl, HA, HK1, ⟨m1, rfl⟩⟩ := hrel
    cases gk with
    | zero => exact absurd HA.out (by simp [spec_JIPv4.l0])
    | succ k1 =>
      have H := HA.out
      clear HA
      simp only [spec_JIPv4.l0] at H
      by_cases c2 : x5_1 ≤ (a0.size : Int)
      · rw [if_pos c2] at H
        have c2b0 : decide (x5_1 ≤ (a0.size : Int)) = true := decide_eq_true c2
        clear c2
        have HC3 := Aside0.mk H
        clear H
        go_upto_region 5 with (fail)
        go_cut [21] (fun v21 wc => ∃ (kq : Nat) (x21_2 : Bool), v21 = .bool x21_2 ∧ Aside0 (spec_JIPv4.j1 kq a0 x3_1 x4_1 x5_1 x21_2 = some r) ∧ Aside0 (kq ≤ k1) ∧ Drawn0 w wc)
        case first =>
          have H := HC3.out
          clear HC3
          by_cases c4 : x5_1 = (a0.size : Int)
          · rw [if_pos c4] at H
            have c4b0 : (x5_1 == (a0.size : Int)) = true := beq_iff_eq.mpr c4
            have c4b1 : (x5_1 != (a0.size : Int)) = false := bne_eq_false_iff_eq.mpr c4
            clear c4
            (first | rw [c4b0] | (simp only [i64_w, i32_w]; rw [c4b0]) | skip)
            have H' := Aside0.mk H
            clear H
            go_wp2
            go_meet
            case rel => exact ⟨_, (true), (by first | rfl | (simp; done) | (simp [*]; done)), H', ⟨by have := HK1.out; first | omega | exact Nat.le_refl _⟩, by repeat (first | exact Drawn0.refl _ | apply Drawn0.step)⟩
          · rw [if_neg c4] at H
            have c4b0 : (x5_1 == (a0.size : Int)) = false := beq_eq_false_iff_ne.mpr c4
            have c4b1 : (x5_1 != (a0.size : Int)) = true := bne_iff_ne.mpr c4
            (first | rw [c4b0] | (simp only [i64_w, i32_w]; rw [c4b0]) | skip)
            by_cases c5 : 0 ≤ x5_1
            · rw [if_pos c5] at H
              have c5b0 : decide (0 ≤ x5_1) = true := decide_eq_true c5
              clear c5
              by_cases c6 : x5_1 < (a0.size : Int)
              · rw [if_pos c6] at H
                have c6b0 : decide (x5_1 < (a0.size : Int)) = true := decide_eq_true c6
                clear c6
                have H' := Aside0.mk H
                clear H
                have p7 : 0 ≤ (x5_1 : Int) := of_decide_eq_true (by first | (with_reducible assumption) | assumption)
                have q7 : x5_1 < (a0.size : Int) := of_decide_eq_true (by first | (with_reducible assumption) | assumption)
                have hx7 := bt_at a0 x5_1
                replace p7 := eq_true p7
                replace q7 := eq_true q7
                go_wp2
                go_meet
                case rel => exact ⟨_, (((bt a0 x5_1) == 46)), (by first | rfl | (simp; done) | (simp [*]; done)), H', ⟨by have := HK1.out; first | omega | exact Nat.le_refl _⟩, by repeat (first | exact Drawn0.refl _ | apply Drawn0.step)⟩
              · rw [if_neg c6] at H
                exact absurd H (by simp)
            · rw [if_neg c5] at H
              exact absurd H (by simp)
        case rest =>
          clear HC3
          try clear c1
          try clear c2
          try clear c2b0
          try clear p2
          try clear c4
          try clear c4b0
          try clear c4b1
          try clear c5
          try clear c5b0
          try clear c6
          try clear c6b0
          try clear p7
          try clear q7
          try clear hx7
          try clear p7
          try clear q7
          obtain ⟨kq, x21_2, rfl, HA, HJ2, ⟨mc2, rfl⟩⟩ := hcut
          cases kq with
          | zero => exact absurd HA.out (by simp [spec_JIPv4.j1])
          | succ kj2 =>
            have H := HA.out
            clear HA
            simp only [spec_JIPv4.j1] at H
            by_cases c8 : x21_2 = true
            · subst c8
              have H1 : (if 0 ≤ x3_1 then (if x3_1 ≤ x5_1 then (if x5_1 ≤ (a0.size : Int) then ((spec_jOctet.f kj2 (a0.extract (x3_1 : Int).toNat (x5_1 : Int).toNat)).bind fun t104 => (if t104 = true then (spec_JIPv4.l0 kj2 a0 (wrap64 (x5_1 + 1)) (wrap64 (x4_1 + 1)) (wrap64 (x5_1 + 1))) else (some false))) else (none)) else (none)) else (none)) = some r := by rw [if_pos rfl] at H; exact H
              clear H
              have H := H1
              clear H1
              by_cases c9 : 0 ≤ x3_1
              · rw [if_pos c9] at H
                have c9b0 := eq_true c9
                have c9b1 : decide (0 ≤ x3_1) = true := decide_eq_true c9
                clear c9
                by_cases c10 : x3_1 ≤ x5_1
                · rw [if_pos c10] at H
                  have c10b0 := eq_true c10
                  have c10b1 : decide (x3_1 ≤ x5_1) = true := decide_eq_true c10
                  clear c10
                  by_cases c11 : x5_1 ≤ (a0.size : Int)
                  · rw [if_pos c11] at H
                    have c11b0 := eq_true c11
                    have c11b1 : decide (x5_1 ≤ (a0.size : Int)) = true := decide_eq_true c11
                    clear c11
                    replace H := Option.bind_eq_some_iff.mp H
                    obtain ⟨t104, A120, H⟩ := H
                    replace H : (if t104 = true then (spec_JIPv4.l0 kj2 a0 (wrap64 (x5_1 + 1)) (wrap64 (x4_1 + 1)) (wrap64 (x5_1 + 1))) else (some false)) = some r := H
                    have A12 := Aside0.mk A120
                    clear A120
                    by_cases c13 : t104 = true
                    · subst c13
                      have H1 : (spec_JIPv4.l0 kj2 a0 (wrap64 (x5_1 + 1)) (wrap64 (x4_1 + 1)) (wrap64 (x5_1 + 1))) = some r := by rw [if_pos rfl] at H; exact H
                      clear H
                      have H := H1
                      clear H1
                      have H' := Aside0.mk H
                      clear H
                      go_wp2_with (first | ((with_reducible refine gate_callee (f := 28) rfl ?_); refine goesL_ (some 26) rfl rfl Tryd.func28 (by kernel_rfl) rfl #[.string (a0.extract (x3_1 : Int).toNat (x5_1 : Int).toNat)] rfl (by (try simp only [List.map_toArray, List.map_cons, List.map_nil]); first | done | rfl | (simp only [List.length_drop, List.length_take]; rfl)) ?_; (with_reducible refine (spec_jOctet.calls kj2 (a0.extract (x3_1 : Int).toNat (x5_1 : Int).toNat) true _ A12.out).mono ?_); rintro e w' ⟨rfl, ⟨nd, rfl⟩⟩; refine ⟨_, rfl, ?_⟩))
                      go_roundg kj2
                      case measure => have := HK1.out; have := HJ2.out; omega
                      case rel => exact ⟨(wrap64 (x5_1 + 1)), (wrap64 (x4_1 + 1)), (wrap64 (x5_1 + 1)), (by first | rfl | (simp; done) | (simp [*]; done)), (by first | rfl | (simp; done) | (simp [*]; done)), (by first | rfl | (simp; done) | (simp [*]; done)), H', ⟨by have := HK1.out; have := HJ2.out; omega⟩, by repeat (first | exact Drawn0.refl _ | apply Drawn0.step)⟩
                    · replace c13 := Bool.eq_false_iff.mpr c13
                      subst c13
                      have H1 : (some false) = some r := by rw [if_neg (show ¬ (false = true) by decide)] at H; exact H
                      clear H
                      have H := H1
                      clear H1
                      obtain rfl := Option.some.inj H
                      go_wp2_with (first | ((with_reducible refine gate_callee (f := 28) rfl ?_); refine goesL_ (some 26) rfl rfl Tryd.func28 (by kernel_rfl) rfl #[.string (a0.extract (x3_1 : Int).toNat (x5_1 : Int).toNat)] rfl (by (try simp only [List.map_toArray, List.map_cons, List.map_nil]); first | done | rfl | (simp only [List.length_drop, List.length_take]; rfl)) ?_; (with_reducible refine (spec_jOctet.calls kj2 (a0.extract (x3_1 : Int).toNat (x5_1 : Int).toNat) false _ A12.out).mono ?_); rintro e w' ⟨rfl, ⟨nd, rfl⟩⟩; refine ⟨_, rfl, ?_⟩))
                      go_ret
                      exact ⟨by first | rfl | (simp; done) | (simp [*]; done), by repeat (first | exact Drawn0.refl _ | apply Drawn0.step)⟩
                  · rw [if_neg c11] at H
                    exact absurd H (by simp)
                · rw [if_neg c10] at H
                  exact absurd H (by simp)
              · rw [if_neg c9] at H
                exact absurd H (by simp)
            · replace c8 := Bool.eq_false_iff.mpr c8
              subst c8
              have H1 : (spec_JIPv4.l0 kj2 a0 x3_1 x4_1 (wrap64 (x5_1 + 1))) = some r := by rw [if_neg (show ¬ (false = true) by decide)] at H; exact H
              clear H
              have H := H1
              clear H1
              have H' := Aside0.mk H
              clear H
              go_wp2
              go_roundg kj2
              case measure => have := HK1.out; have := HJ2.out; omega
              case rel => exact ⟨(x3_1), (x4_1), (wrap64 (x5_1 + 1)), (by first | rfl | (simp; done) | (simp [*]; done)), (by first | rfl | (simp; done) | (simp [*]; done)), (by first | rfl | (simp; done) | (simp [*]; done)), H', ⟨by have := HK1.out; have := HJ2.out; omega⟩, by repeat (first | exact Drawn0.refl _ | apply Drawn0.step)⟩
      · rw [if_neg c2] at H
        have c2b0 : decide (x5_1 ≤ (a0.size : Int)) = false := decide_eq_false c2
        clear c2
        obtain rfl := Option.some.inj H
        go_wp2
        go_ret
        exact ⟨by first | rfl | (simp; done) | (simp [*]; done), by repeat (first | exact Drawn0.refl _ | apply Drawn0.step)⟩

/-- THE ONE PURE STATEMENT of spec_JIPv4: yours. -/
def spec_JIPv4.Pure : Prop := ∀ (a0 : ByteArray), a0.size ≤ 140737488351232 → ∃ k, spec_JIPv4.f k a0 = some true
theorem spec_JIPv4.walk (P : spec_JIPv4.Pure) (a0 : ByteArray) (w : World) (w0 : a0.size ≤ 140737488351232) :
    Calls Tryd.prog 13 #[.string a0] w fun e w' => e = .returned (.bool true) ∧ Below w.heap.size w w' := by
  obtain ⟨k, h⟩ := P a0 w0
  refine (spec_JIPv4.calls k a0 true w h).mono ?_
  rintro e w' ⟨rfl, hd⟩
  exact ⟨rfl, hd.below⟩

end Go.Proofs.YtfnnahopbghndaaDoor.PJIPv4
