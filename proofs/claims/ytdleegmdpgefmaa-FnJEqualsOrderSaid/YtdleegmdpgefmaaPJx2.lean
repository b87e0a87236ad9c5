-- PRINTED by print.py (a twelfth state) out of the translation. Not trusted: Lean checks it.
import Derived.Test.YtdleegmdpgefmaaPJx0
import Derived.Test.YtdleegmdpgefmaaPJx1
namespace Go.Proofs.Ytdleegmdpgefmaa.PJ
open Go.RowKit Go.Proofs.YtdleegmdpgefmaaW.PrintWords Go.Proofs.YtdleegmdpgefmaaW.PrintLast Go.Proofs.YtdleegmdpgefmaaW.PrintMore
attribute [local go_sem] max2_int min2_int max_two min_two max_three min_three max_four min_four   -- for this text's walks alone
set_option linter.unusedVariables false
set_option linter.unusedSimpArgs false

/-! ### spec_JUtf8: function 26 -/
def spec_JUtf8.l0 : Nat → ByteArray → Int → Option (Bool)
  | 0, _, _ => none
  | k + 1, x0, x3 => if x3 < (x0.size : Int) then ((spec_jWidth.f k x0 x3).bind fun t101 => (if t101 = 0 then (some false) else (spec_JUtf8.l0 k x0 (wrap64 (x3 + t101))))) else (some true)
def spec_JUtf8.f (k : Nat) (a0 : ByteArray) : Option (Bool) := spec_JUtf8.l0 k a0 0
theorem spec_JUtf8.mono_l : ∀ k, (∀ y0 y1, LeO (spec_JUtf8.l0 k y0 y1) (spec_JUtf8.l0 (k + 1) y0 y1))
  | 0 => fun _ _ r h => by simp [spec_JUtf8.l0] at h
  | k + 1 => by
    have ih0 := spec_JUtf8.mono_l k
    · intro y0 y1
      unfold spec_JUtf8.l0
      repeat' first
      | (with_reducible exact ih0 _ _)
      | (with_reducible exact spec_jWidth.mono _ _ _)
      | (with_reducible exact LeO.refl _)
      | (with_reducible exact LeO.none _)
      | (with_reducible refine LeO.ite ?_ ?_)
      | (with_reducible refine LeO.bind ?_ (fun _ => ?_))
      | exact ih0 _ _
      | exact spec_jWidth.mono _ _ _
      | exact LeO.none _
      | refine LeO.ite ?_ ?_
      | refine LeO.bind ?_ (fun _ => ?_)
theorem spec_JUtf8.mono : ∀ a0 k, LeO (spec_JUtf8.f k a0) (spec_JUtf8.f (k + 1) a0) := by
  intro a0 k
  have ih0 := spec_JUtf8.mono_l k
  unfold spec_JUtf8.f
  repeat' first
      | (with_reducible exact ih0 _ _)
      | (with_reducible exact spec_jWidth.mono _ _ _)
      | (with_reducible exact LeO.refl _)
      | (with_reducible exact LeO.none _)
      | (with_reducible refine LeO.ite ?_ ?_)
      | (with_reducible refine LeO.bind ?_ (fun _ => ?_))
      | exact ih0 _ _
      | exact spec_jWidth.mono _ _ _
      | exact LeO.none _
      | refine LeO.ite ?_ ?_
      | refine LeO.bind ?_ (fun _ => ?_)
set_option maxHeartbeats 8000000 in
set_option maxRecDepth 100000 in
theorem spec_JUtf8.calls (k : Nat) (a0 : ByteArray) (r : Bool) (w : World) (h : spec_JUtf8.f k a0 = some r) :
    Calls Try.prog 26 #[.string a0] w fun e w' => e = .returned (.bool r) ∧ Drawn0 w w' := by
  have H : (spec_JUtf8.l0 k a0 0) = some r := h
  clear h
  have H' := Aside0.mk H
  clear H
  go_enter Try.func26, Try.ntmps26
  go_wp2
  go_loopg [3] k (fun kq v3 w' => ∃ (x3_1 : Int), v3 = .int .i64 x3_1 ∧ Aside0 (spec_JUtf8.l0 kq a0 x3_1 = some r) ∧ Aside0 (kq ≤ k) ∧ Drawn0 w w')
  case atStart => exact ⟨(0), (by first | rfl | (simp; done) | (simp [*]; done)), H', ⟨Nat.le_refl _⟩, by repeat (first | exact Drawn0.refl _ | apply Drawn0.step)⟩
  case round =>
    clear H'
    obtain ⟨x3_1, rfl, HA, HK1, ⟨m1, rfl⟩⟩ := hrel
    cases gk with
    | zero => exact absurd HA.out (by simp [spec_JUtf8.l0])
    | succ k1 =>
      have H := HA.out
      clear HA
      simp only [spec_JUtf8.l0] at H
      by_cases c2 : x3_1 < (a0.size : Int)
      · rw [if_pos c2] at H
        have c2b0 : decide (x3_1 < (a0.size : Int)) = true := decide_eq_true c2
        clear c2
        replace H := Option.bind_eq_some_iff.mp H
        obtain ⟨t101, A30, H⟩ := H
        replace H : (if t101 = 0 then (some false) else (spec_JUtf8.l0 k1 a0 (wrap64 (x3_1 + t101)))) = some r := H
        have A3 := Aside0.mk A30
        clear A30
        by_cases c4 : t101 = 0
        · rw [if_pos c4] at H
          have c4b0 : (t101 == 0) = true := beq_iff_eq.mpr c4
          have c4b1 : (t101 != 0) = false := bne_eq_false_iff_eq.mpr c4
          clear c4
          obtain rfl := Option.some.inj H
          go_wp2_with (first | ((with_reducible refine gate_callee (f := 30) rfl ?_); refine goesL_ (some 11) rfl rfl Try.func30 (by kernel_rfl) rfl #[.string a0, .int .i64 x3_1] rfl (by (try simp only [List.map_toArray, List.map_cons, List.map_nil]); first | done | rfl | (simp only [List.length_drop, List.length_take]; rfl)) ?_; (with_reducible refine (spec_jWidth.calls k1 a0 x3_1 t101 _ A3.out).mono ?_); rintro e w' ⟨rfl, ⟨nd, rfl⟩⟩; refine ⟨_, rfl, ?_⟩))
          go_ret
          exact ⟨by first | rfl | (simp; done) | (simp [*]; done), by repeat (first | exact Drawn0.refl _ | apply Drawn0.step)⟩
        · rw [if_neg c4] at H
          have c4b0 : (t101 == 0) = false := beq_eq_false_iff_ne.mpr c4
          have c4b1 : (t101 != 0) = true := bne_iff_ne.mpr c4
          have H' := Aside0.mk H
          clear H
          go_wp2_with (first | ((with_reducible refine gate_callee (f := 30) rfl ?_); refine goesL_ (some 11) rfl rfl Try.func30 (by kernel_rfl) rfl #[.string a0, .int .i64 x3_1] rfl (by (try simp only [List.map_toArray, List.map_cons, List.map_nil]); first | done | rfl | (simp only [List.length_drop, List.length_take]; rfl)) ?_; (with_reducible refine (spec_jWidth.calls k1 a0 x3_1 t101 _ A3.out).mono ?_); rintro e w' ⟨rfl, ⟨nd, rfl⟩⟩; refine ⟨_, rfl, ?_⟩))
          go_roundg k1
          case measure => have := HK1.out; omega
          case rel => exact ⟨(wrap64 (x3_1 + t101)), (by first | rfl | (simp; done) | (simp [*]; done)), H', ⟨by have := HK1.out; omega⟩, by repeat (first | exact Drawn0.refl _ | apply Drawn0.step)⟩
      · rw [if_neg c2] at H
        have c2b0 : decide (x3_1 < (a0.size : Int)) = false := decide_eq_false c2
        clear c2
        obtain rfl := Option.some.inj H
        go_wp2
        go_ret
        exact ⟨by first | rfl | (simp; done) | (simp [*]; done), by repeat (first | exact Drawn0.refl _ | apply Drawn0.step)⟩

/-- THE ONE PURE STATEMENT of spec_JUtf8: yours. -/
def spec_JUtf8.Pure : Prop := ∀ (a0 : ByteArray), a0.size ≤ 140737488351232 → ∃ k, spec_JUtf8.f k a0 = some true
theorem spec_JUtf8.walk (P : spec_JUtf8.Pure) (a0 : ByteArray) (w : World) (w0 : a0.size ≤ 140737488351232) :
    Calls Try.prog 26 #[.string a0] w fun e w' => e = .returned (.bool true) ∧ Below w.heap.size w w' := by
  obtain ⟨k, h⟩ := P a0 w0
  refine (spec_JUtf8.calls k a0 true w h).mono ?_
  rintro e w' ⟨rfl, hd⟩
  exact ⟨rfl, hd.below⟩

/-! ### spec_jDigit: function 39 -/
def spec_jDigit.f (a0 : Int) : Option (Bool) := if a0 ≥ 48 then (some (decide (a0 ≤ 57))) else (some false)
set_option maxHeartbeats 8000000 in
set_option maxRecDepth 100000 in
theorem spec_jDigit.calls (a0 : Int) (r : Bool) (w : World) (h : spec_jDigit.f a0 = some r) :
    Calls Try.prog 39 #[.int .u8 a0] w fun e w' => e = .returned (.bool r) ∧ Drawn0 w w' := by
  have H : (if a0 ≥ 48 then (some (decide (a0 ≤ 57))) else (some false)) = some r := h
  clear h
  by_cases c2 : a0 ≥ 48
  · rw [if_pos c2] at H
    have c2b0 : decide (48 ≤ a0) = true := decide_eq_true c2
    clear c2
    obtain rfl := Option.some.inj H
    go_enter Try.func39, Try.ntmps39
    go_wp2
    go_ret
    exact ⟨by first | rfl | (simp; done) | (simp [*]; done), by repeat (first | exact Drawn0.refl _ | apply Drawn0.step)⟩
  · rw [if_neg c2] at H
    have c2b0 : decide (48 ≤ a0) = false := decide_eq_false c2
    clear c2
    obtain rfl := Option.some.inj H
    go_enter Try.func39, Try.ntmps39
    go_wp2
    go_ret
    exact ⟨by first | rfl | (simp; done) | (simp [*]; done), by repeat (first | exact Drawn0.refl _ | apply Drawn0.step)⟩

/-! ### spec_jDigits: function 40 -/
def spec_jDigits.l0 : Nat → ByteArray → Int → Option (Bool)
  | 0, _, _ => none
  | k + 1, x0, x3 => if x3 < (x0.size : Int) then (if 0 ≤ x3 then ((spec_jDigit.f (bt x0 x3)).bind fun t102 => (if t102 = true then (spec_jDigits.l0 k x0 (wrap64 (x3 + 1))) else (some false))) else (none)) else (some (decide ((x0.size : Int) > 0)))
def spec_jDigits.f (k : Nat) (a0 : ByteArray) : Option (Bool) := spec_jDigits.l0 k a0 0
theorem spec_jDigits.mono_l : ∀ k, (∀ y0 y1, LeO (spec_jDigits.l0 k y0 y1) (spec_jDigits.l0 (k + 1) y0 y1))
  | 0 => fun _ _ r h => by simp [spec_jDigits.l0] at h
  | k + 1 => by
    have ih0 := spec_jDigits.mono_l k
    · intro y0 y1
      unfold spec_jDigits.l0
      repeat' first
      | (with_reducible exact ih0 _ _)
      | (with_reducible exact LeO.refl _)
      | (with_reducible exact LeO.none _)
      | (with_reducible refine LeO.ite ?_ ?_)
      | (with_reducible refine LeO.bind ?_ (fun _ => ?_))
      | exact ih0 _ _
      | exact LeO.none _
      | refine LeO.ite ?_ ?_
      | refine LeO.bind ?_ (fun _ => ?_)
theorem spec_jDigits.mono : ∀ a0 k, LeO (spec_jDigits.f k a0) (spec_jDigits.f (k + 1) a0) := by
  intro a0 k
  have ih0 := spec_jDigits.mono_l k
  unfold spec_jDigits.f
  repeat' first
      | (with_reducible exact ih0 _ _)
      | (with_reducible exact LeO.refl _)
      | (with_reducible exact LeO.none _)
      | (with_reducible refine LeO.ite ?_ ?_)
      | (with_reducible refine LeO.bind ?_ (fun _ => ?_))
      | exact ih0 _ _
      | exact LeO.none _
      | refine LeO.ite ?_ ?_
      | refine LeO.bind ?_ (fun _ => ?_)
set_option maxHeartbeats 8000000 in
set_option maxRecDepth 100000 in
theorem spec_jDigits.calls (k : Nat) (a0 : ByteArray) (r : Bool) (w : World) (h : spec_jDigits.f k a0 = some r) :
    Calls Try.prog 40 #[.string a0] w fun e w' => e = .returned (.bool r) ∧ Drawn0 w w' := by
  have H : (spec_jDigits.l0 k a0 0) = some r := h
  clear h
  have H' := Aside0.mk H
  clear H
  go_enter Try.func40, Try.ntmps40
  go_wp2
  go_loopg [3] k (fun kq v3 w' => ∃ (x3_1 : Int), v3 = .int .i64 x3_1 ∧ Aside0 (spec_jDigits.l0 kq a0 x3_1 = some r) ∧ Aside0 (kq ≤ k) ∧ Drawn0 w w')
  case atStart => exact ⟨(0), (by first | rfl | (simp; done) | (simp [*]; done)), H', ⟨Nat.le_refl _⟩, by repeat (first | exact Drawn0.refl _ | apply Drawn0.step)⟩
  case round =>
    clear H'
    obtain ⟨x3_1, rfl, HA, HK1, ⟨m1, rfl⟩⟩ := hrel
    cases gk with
    | zero => exact absurd HA.out (by simp [spec_jDigits.l0])
    | succ k1 =>
      have H := HA.out
      clear HA
      simp only [spec_jDigits.l0] at H
      by_cases c2 : x3_1 < (a0.size : Int)
      · rw [if_pos c2] at H
        have c2b0 : decide (x3_1 < (a0.size : Int)) = true := decide_eq_true c2
        clear c2
        by_cases c3 : 0 ≤ x3_1
        · rw [if_pos c3] at H
          have c3b0 : decide (0 ≤ x3_1) = true := decide_eq_true c3
          clear c3
          replace H := Option.bind_eq_some_iff.mp H
          obtain ⟨t102, A50, H⟩ := H
          replace H : (if t102 = true then (spec_jDigits.l0 k1 a0 (wrap64 (x3_1 + 1))) else (some false)) = some r := H
          have A5 := Aside0.mk A50
          clear A50
          by_cases c6 : t102 = true
          · subst c6
            have H1 : (spec_jDigits.l0 k1 a0 (wrap64 (x3_1 + 1))) = some r := by rw [if_pos rfl] at H; exact H
            clear H
            have H := H1
            clear H1
            have H' := Aside0.mk H
            clear H
            have p4 : 0 ≤ (x3_1 : Int) := of_decide_eq_true (by first | (with_reducible assumption) | assumption)
            have q4 : x3_1 < (a0.size : Int) := of_decide_eq_true (by first | (with_reducible assumption) | assumption)
            have hx4 := bt_at a0 x3_1
            replace p4 := eq_true p4
            replace q4 := eq_true q4
            go_wp2_with (first | ((with_reducible refine gate_callee (f := 39) rfl ?_); refine goesL_ (some 13) rfl rfl Try.func39 (by kernel_rfl) rfl #[.int .u8 (bt a0 x3_1)] rfl (by (try simp only [List.map_toArray, List.map_cons, List.map_nil]); first | done | rfl | (simp only [List.length_drop, List.length_take]; rfl)) ?_; (with_reducible refine (spec_jDigit.calls (bt a0 x3_1) true _ A5.out).mono ?_); rintro e w' ⟨rfl, ⟨nd, rfl⟩⟩; refine ⟨_, rfl, ?_⟩))
            go_roundg k1
            case measure => have := HK1.out; omega
            case rel => exact ⟨(wrap64 (x3_1 + 1)), (by first | rfl | (simp; done) | (simp [*]; done)), H', ⟨by have := HK1.out; omega⟩, by repeat (first | exact Drawn0.refl _ | apply Drawn0.step)⟩
          · replace c6 := Bool.eq_false_iff.mpr c6
            subst c6
            have H1 : (some false) = some r := by rw [if_neg (show ¬ (false = true) by decide)] at H; exact H
            clear H
            have H := H1
            clear H1
            obtain rfl := Option.some.inj H
            have p4 : 0 ≤ (x3_1 : Int) := of_decide_eq_true (by first | (with_reducible assumption) | assumption)
            have q4 : x3_1 < (a0.size : Int) := of_decide_eq_true (by first | (with_reducible assumption) | assumption)
            have hx4 := bt_at a0 x3_1
            replace p4 := eq_true p4
            replace q4 := eq_true q4
            go_wp2_with (first | ((with_reducible refine gate_callee (f := 39) rfl ?_); refine goesL_ (some 13) rfl rfl Try.func39 (by kernel_rfl) rfl #[.int .u8 (bt a0 x3_1)] rfl (by (try simp only [List.map_toArray, List.map_cons, List.map_nil]); first | done | rfl | (simp only [List.length_drop, List.length_take]; rfl)) ?_; (with_reducible refine (spec_jDigit.calls (bt a0 x3_1) false _ A5.out).mono ?_); rintro e w' ⟨rfl, ⟨nd, rfl⟩⟩; refine ⟨_, rfl, ?_⟩))
            go_ret
            exact ⟨by first | rfl | (simp; done) | (simp [*]; done), by repeat (first | exact Drawn0.refl _ | apply Drawn0.step)⟩
        · rw [if_neg c3] at H
          exact absurd H (by simp)
      · rw [if_neg c2] at H
        have c2b0 : decide (x3_1 < (a0.size : Int)) = false := decide_eq_false c2
        clear c2
        obtain rfl := Option.some.inj H
        go_wp2
        go_ret
        exact ⟨by first | rfl | (simp; done) | (simp [*]; done), by repeat (first | exact Drawn0.refl _ | apply Drawn0.step)⟩

/-! ### spec_jPlain: function 34 -/
def spec_jPlain.f (k : Nat) (a0 : ByteArray) : Option (Bool) := (spec_jDigits.f k a0).bind fun t103 => (if t103 = true then (if (a0.size : Int) = 1 then (some true) else (if 0 < (a0.size : Int) then (some ((bt a0 0) != 48)) else (none))) else (some false))
theorem spec_jPlain.mono : ∀ a0 k, LeO (spec_jPlain.f k a0) (spec_jPlain.f (k + 1) a0) := by
  intro a0 k
  unfold spec_jPlain.f
  repeat' first
      | (with_reducible exact spec_jDigits.mono _ _)
      | (with_reducible exact LeO.refl _)
      | (with_reducible exact LeO.none _)
      | (with_reducible refine LeO.ite ?_ ?_)
      | (with_reducible refine LeO.bind ?_ (fun _ => ?_))
      | exact spec_jDigits.mono _ _
      | exact LeO.none _
      | refine LeO.ite ?_ ?_
      | refine LeO.bind ?_ (fun _ => ?_)
set_option maxHeartbeats 8000000 in
set_option maxRecDepth 100000 in
theorem spec_jPlain.calls (k : Nat) (a0 : ByteArray) (r : Bool) (w : World) (h : spec_jPlain.f k a0 = some r) :
    Calls Try.prog 34 #[.string a0] w fun e w' => e = .returned (.bool r) ∧ Drawn0 w w' := by
  have H : ((spec_jDigits.f k a0).bind fun t103 => (if t103 = true then (if (a0.size : Int) = 1 then (some true) else (if 0 < (a0.size : Int) then (some ((bt a0 0) != 48)) else (none))) else (some false))) = some r := h
  clear h
  replace H := Option.bind_eq_some_iff.mp H
  obtain ⟨t103, A20, H⟩ := H
  replace H : (if t103 = true then (if (a0.size : Int) = 1 then (some true) else (if 0 < (a0.size : Int) then (some ((bt a0 0) != 48)) else (none))) else (some false)) = some r := H
  have A2 := Aside0.mk A20
  clear A20
  by_cases c3 : t103 = true
  · subst c3
    have H1 : (if (a0.size : Int) = 1 then (some true) else (if 0 < (a0.size : Int) then (some ((bt a0 0) != 48)) else (none))) = some r := by rw [if_pos rfl] at H; exact H
    clear H
    have H := H1
    clear H1
    by_cases c4 : (a0.size : Int) = 1
    · rw [if_pos c4] at H
      have c4b0 : ((a0.size : Int) == 1) = true := beq_iff_eq.mpr c4
      have c4b1 : ((a0.size : Int) != 1) = false := bne_eq_false_iff_eq.mpr c4
      clear c4
      obtain rfl := Option.some.inj H
      go_enter Try.func34, Try.ntmps34
      go_wp2_with (first | ((with_reducible refine gate_callee (f := 40) rfl ?_); refine goesL_ (some 4) rfl rfl Try.func40 (by kernel_rfl) rfl #[.string a0] rfl (by (try simp only [List.map_toArray, List.map_cons, List.map_nil]); first | done | rfl | (simp only [List.length_drop, List.length_take]; rfl)) ?_; (with_reducible refine (spec_jDigits.calls k a0 true _ A2.out).mono ?_); rintro e w' ⟨rfl, ⟨nd, rfl⟩⟩; refine ⟨_, rfl, ?_⟩))
      go_ret
      exact ⟨by first | rfl | (simp; done) | (simp [*]; done), by repeat (first | exact Drawn0.refl _ | apply Drawn0.step)⟩
    · rw [if_neg c4] at H
      have c4b0 : ((a0.size : Int) == 1) = false := beq_eq_false_iff_ne.mpr c4
      have c4b1 : ((a0.size : Int) != 1) = true := bne_iff_ne.mpr c4
      by_cases c5 : 0 < (a0.size : Int)
      · rw [if_pos c5] at H
        have c5b0 : decide (0 < (a0.size : Int)) = true := decide_eq_true c5
        have c5b1 : decide (0 < a0.size) = true := decide_eq_true (by omega)
        clear c5
        obtain rfl := Option.some.inj H
        go_enter Try.func34, Try.ntmps34
        go_wp2_with (first | ((with_reducible refine gate_callee (f := 40) rfl ?_); refine goesL_ (some 4) rfl rfl Try.func40 (by kernel_rfl) rfl #[.string a0] rfl (by (try simp only [List.map_toArray, List.map_cons, List.map_nil]); first | done | rfl | (simp only [List.length_drop, List.length_take]; rfl)) ?_; (with_reducible refine (spec_jDigits.calls k a0 true _ A2.out).mono ?_); rintro e w' ⟨rfl, ⟨nd, rfl⟩⟩; refine ⟨_, rfl, ?_⟩; have p6 : 0 ≤ (0 : Int) := (by omega); have q6 : 0 < a0.size := (by have : (0 : Int) < (a0.size : Int) := of_decide_eq_true (by first | (with_reducible assumption) | assumption); omega); have hx6 : ∀ h : 0 < a0.size, ((a0[0]'h).toNat : Int) = bt a0 0 := bt_at a0 0; clear p6; have qi6 : (0 < (a0.size : Int)) = True := eq_true (of_decide_eq_true (by first | (with_reducible assumption) | assumption)); replace q6 := eq_true q6))
        go_ret
        exact ⟨by first | rfl | (simp; done) | (simp [*]; done), by repeat (first | exact Drawn0.refl _ | apply Drawn0.step)⟩
      · rw [if_neg c5] at H
        exact absurd H (by simp)
  · replace c3 := Bool.eq_false_iff.mpr c3
    subst c3
    have H1 : (some false) = some r := by rw [if_neg (show ¬ (false = true) by decide)] at H; exact H
    clear H
    have H := H1
    clear H1
    obtain rfl := Option.some.inj H
    go_enter Try.func34, Try.ntmps34
    go_wp2_with (first | ((with_reducible refine gate_callee (f := 40) rfl ?_); refine goesL_ (some 4) rfl rfl Try.func40 (by kernel_rfl) rfl #[.string a0] rfl (by (try simp only [List.map_toArray, List.map_cons, List.map_nil]); first | done | rfl | (simp only [List.length_drop, List.length_take]; rfl)) ?_; (with_reducible refine (spec_jDigits.calls k a0 false _ A2.out).mono ?_); rintro e w' ⟨rfl, ⟨nd, rfl⟩⟩; refine ⟨_, rfl, ?_⟩))
    go_ret
    exact ⟨by first | rfl | (simp; done) | (simp [*]; done), by repeat (first | exact Drawn0.refl _ | apply Drawn0.step)⟩

/-- THE ONE PURE STATEMENT of spec_jPlain: yours. -/
def spec_jPlain.Pure : Prop := ∀ (a0 : ByteArray), a0.size ≤ 140737488351232 → ∃ k, spec_jPlain.f k a0 = some true
theorem spec_jPlain.walk (P : spec_jPlain.Pure) (a0 : ByteArray) (w : World) (w0 : a0.size ≤ 140737488351232) :
    Calls Try.prog 34 #[.string a0] w fun e w' => e = .returned (.bool true) ∧ Below w.heap.size w w' := by
  obtain ⟨k, h⟩ := P a0 w0
  refine (spec_jPlain.calls k a0 true w h).mono ?_
  rintro e w' ⟨rfl, hd⟩
  exact ⟨rfl, hd.below⟩

/-! ### spec_jNumber: function 41 -/
def spec_jNumber.l0 : Nat → ByteArray → Int → Int → Option (Int)
  | 0, _, _, _ => none
  | k + 1, x0, x3, x4 => if x4 < (x0.size : Int) then (if 0 ≤ x4 then (spec_jNumber.l0 k x0 (wrap64 ((wrap64 (10 * x3)) + (((bt x0 x4) - 48) % 256))) (wrap64 (x4 + 1))) else (none)) else (some x3)
def spec_jNumber.f (k : Nat) (a0 : ByteArray) : Option (Int) := spec_jNumber.l0 k a0 0 0
theorem spec_jNumber.mono_l : ∀ k, (∀ y0 y1 y2, LeO (spec_jNumber.l0 k y0 y1 y2) (spec_jNumber.l0 (k + 1) y0 y1 y2))
  | 0 => fun _ _ _ r h => by simp [spec_jNumber.l0] at h
  | k + 1 => by
    have ih0 := spec_jNumber.mono_l k
    · intro y0 y1 y2
      unfold spec_jNumber.l0
      repeat' first
      | (with_reducible exact ih0 _ _ _)
      | (with_reducible exact LeO.refl _)
      | (with_reducible exact LeO.none _)
      | (with_reducible refine LeO.ite ?_ ?_)
      | (with_reducible refine LeO.bind ?_ (fun _ => ?_))
      | exact ih0 _ _ _
      | exact LeO.none _
      | refine LeO.ite ?_ ?_
      | refine LeO.bind ?_ (fun _ => ?_)
theorem spec_jNumber.mono : ∀ a0 k, LeO (spec_jNumber.f k a0) (spec_jNumber.f (k + 1) a0) := by
  intro a0 k
  have ih0 := spec_jNumber.mono_l k
  unfold spec_jNumber.f
  repeat' first
      | (with_reducible exact ih0 _ _ _)
      | (with_reducible exact LeO.refl _)
      | (with_reducible exact LeO.none _)
      | (with_reducible refine LeO.ite ?_ ?_)
      | (with_reducible refine LeO.bind ?_ (fun _ => ?_))
      | exact ih0 _ _ _
      | exact LeO.none _
      | refine LeO.ite ?_ ?_
      | refine LeO.bind ?_ (fun _ => ?_)
set_option maxHeartbeats 8000000 in
set_option maxRecDepth 100000 in
theorem spec_jNumber.calls (k : Nat) (a0 : ByteArray) (r : Int) (w : World) (h : spec_jNumber.f k a0 = some r) :
    Calls Try.prog 41 #[.string a0] w fun e w' => e = .returned (.int .i64 r) ∧ Drawn0 w w' := by
  have H : (spec_jNumber.l0 k a0 0 0) = some r := h
  clear h
  have H' := Aside0.mk H
  clear H
  go_enter Try.func41, Try.ntmps41
  go_wp2
  go_loopg [3, 4] k (fun kq v3 v4 w' => ∃ (x3_1 : Int) (x4_1 : Int), v3 = .int .i64 x3_1 ∧ v4 = .int .i64 x4_1 ∧ Aside0 (spec_jNumber.l0 kq a0 x3_1 x4_1 = some r) ∧ Aside0 (kq ≤ k) ∧ Drawn0 w w')
  case atStart => exact ⟨(0), (0), (by first | rfl | (simp; done) | (simp [*]; done)), (by first | rfl | (simp; done) | (simp [*]; done)), H', ⟨Nat.le_refl _⟩, by repeat (first | exact Drawn0.refl _ | apply Drawn0.step)⟩
  case round =>
    clear H'
    obtain ⟨x3_1, x4_1, rfl, rfl, HA, HK1, ⟨m1, rfl⟩⟩ := hrel
    cases gk with
    | zero => exact absurd HA.out (by simp [spec_jNumber.l0])
    | succ k1 =>
      have H := HA.out
      clear HA
      simp only [spec_jNumber.l0] at H
      by_cases c2 : x4_1 < (a0.size : Int)
      · rw [if_pos c2] at H
        have c2b0 : decide (x4_1 < (a0.size : Int)) = true := decide_eq_true c2
        clear c2
        by_cases c3 : 0 ≤ x4_1
        · rw [if_pos c3] at H
          have c3b0 : decide (0 ≤ x4_1) = true := decide_eq_true c3
          clear c3
          have H' := Aside0.mk H
          clear H
          have p4 : 0 ≤ (x4_1 : Int) := of_decide_eq_true (by first | (with_reducible assumption) | assumption)
          have q4 : x4_1 < (a0.size : Int) := of_decide_eq_true (by first | (with_reducible assumption) | assumption)
          have hx4 := bt_at a0 x4_1
          replace p4 := eq_true p4
          replace q4 := eq_true q4
          go_wp2
          go_roundg k1
          case measure => have := HK1.out; omega
          case rel => exact ⟨(wrap64 ((wrap64 (10 * x3_1)) + (((bt a0 x4_1) - 48) % 256))), (wrap64 (x4_1 + 1)), (by first | rfl | (simp; done) | (simp [*]; done)), (by first | rfl | (simp; done) | (simp [*]; done)), H', ⟨by have := HK1.out; omega⟩, by repeat (first | exact Drawn0.refl _ | apply Drawn0.step)⟩
        · rw [if_neg c3] at H
          exact absurd H (by simp)
      · rw [if_neg c2] at H
        have c2b0 : decide (x4_1 < (a0.size : Int)) = false := decide_eq_false c2
        clear c2
        obtain rfl := Option.some.inj H
        go_wp2
        go_ret
        exact ⟨by first | rfl | (simp; done) | (simp [*]; done), by repeat (first | exact Drawn0.refl _ | apply Drawn0.step)⟩

/-! ### spec_jRun: function 33 -/
def spec_jRun.l0 : Nat → ByteArray → Int → Option (Int)
  | 0, _, _ => none
  | k + 1, x0, x1 => if x1 < (x0.size : Int) then (if 0 ≤ x1 then ((spec_jDigit.f (bt x0 x1)).bind fun t104 => (if t104 = true then (spec_jRun.l0 k x0 (wrap64 (x1 + 1))) else (some x1))) else (none)) else (some x1)
def spec_jRun.f (k : Nat) (a0 : ByteArray) (a1 : Int) : Option (Int) := spec_jRun.l0 k a0 a1
theorem spec_jRun.mono_l : ∀ k, (∀ y0 y1, LeO (spec_jRun.l0 k y0 y1) (spec_jRun.l0 (k + 1) y0 y1))
  | 0 => fun _ _ r h => by simp [spec_jRun.l0] at h
  | k + 1 => by
    have ih0 := spec_jRun.mono_l k
    · intro y0 y1
      unfold spec_jRun.l0
      repeat' first
      | (with_reducible exact ih0 _ _)
      | (with_reducible exact LeO.refl _)
      | (with_reducible exact LeO.none _)
      | (with_reducible refine LeO.ite ?_ ?_)
      | (with_reducible refine LeO.bind ?_ (fun _ => ?_))
      | exact ih0 _ _
      | exact LeO.none _
      | refine LeO.ite ?_ ?_
      | refine LeO.bind ?_ (fun _ => ?_)
theorem spec_jRun.mono : ∀ a0 a1 k, LeO (spec_jRun.f k a0 a1) (spec_jRun.f (k + 1) a0 a1) := by
  intro a0 a1 k
  have ih0 := spec_jRun.mono_l k
  unfold spec_jRun.f
  repeat' first
      | (with_reducible exact ih0 _ _)
      | (with_reducible exact LeO.refl _)
      | (with_reducible exact LeO.none _)
      | (with_reducible refine LeO.ite ?_ ?_)
      | (with_reducible refine LeO.bind ?_ (fun _ => ?_))
      | exact ih0 _ _
      | exact LeO.none _
      | refine LeO.ite ?_ ?_
      | refine LeO.bind ?_ (fun _ => ?_)
set_option maxHeartbeats 8000000 in
set_option maxRecDepth 100000 in
theorem spec_jRun.calls (k : Nat) (a0 : ByteArray) (a1 : Int) (r : Int) (w : World) (h : spec_jRun.f k a0 a1 = some r) :
    Calls Try.prog 33 #[.string a0, .int .i64 a1] w fun e w' => e = .returned (.int .i64 r) ∧ Drawn0 w w' := by
  have H : (spec_jRun.l0 k a0 a1) = some r := h
  clear h
  have H' := Aside0.mk H
  clear H
  go_enter Try.func33, Try.ntmps33
  go_wp2
  go_loopg [1] k (fun kq v1 w' => ∃ (x1_1 : Int), v1 = .int .i64 x1_1 ∧ Aside0 (spec_jRun.l0 kq a0 x1_1 = some r) ∧ Aside0 (kq ≤ k) ∧ Drawn0 w w')
  case atStart => exact ⟨(a1), (by first | rfl | (simp; done) | (simp [*]; done)), H', ⟨Nat.le_refl _⟩, by repeat (first | exact Drawn0.refl _ | apply Drawn0.step)⟩
  case round =>
    clear H'
    try clear p2
    obtain ⟨x1_1, rfl, HA, HK1, ⟨m1, rfl⟩⟩ := hrel
    cases gk with
    | zero => exact absurd HA.out (by simp [spec_jRun.l0])
    | succ k1 =>
      have H := HA.out
      clear HA
      simp only [spec_jRun.l0] at H
      by_cases c3 : x1_1 < (a0.size : Int)
      · rw [if_pos c3] at H
        have c3b0 : decide (x1_1 < (a0.size : Int)) = true := decide_eq_true c3
        clear c3
        by_cases c4 : 0 ≤ x1_1
        · rw [if_pos c4] at H
          have c4b0 : decide (0 ≤ x1_1) = true := decide_eq_true c4
          clear c4
          replace H := Option.bind_eq_some_iff.mp H
          obtain ⟨t104, A60, H⟩ := H
          replace H : (if t104 = true then (spec_jRun.l0 k1 a0 (wrap64 (x1_1 + 1))) else (some x1_1)) = some r := H
          have A6 := Aside0.mk A60
          clear A60
          by_cases c7 : t104 = true
          · subst c7
            have H1 : (spec_jRun.l0 k1 a0 (wrap64 (x1_1 + 1))) = some r := by rw [if_pos rfl] at H; exact H
            clear H
            have H := H1
            clear H1
            have H' := Aside0.mk H
            clear H
            have p5 : 0 ≤ (x1_1 : Int) := of_decide_eq_true (by first | (with_reducible assumption) | assumption)
            have q5 : x1_1 < (a0.size : Int) := of_decide_eq_true (by first | (with_reducible assumption) | assumption)
            have hx5 := bt_at a0 x1_1
            replace p5 := eq_true p5
            replace q5 := eq_true q5
            go_wp2_with (first | (go_at_call 39; (with_reducible refine (spec_jDigit.calls (bt a0 x1_1) true _ A6.out).mono ?_); rintro e w' ⟨rfl, ⟨nd, rfl⟩⟩))
            go_roundg k1
            case measure => have := HK1.out; omega
            case rel => exact ⟨(wrap64 (x1_1 + 1)), (by first | rfl | (simp; done) | (simp [*]; done)), H', ⟨by have := HK1.out; omega⟩, by repeat (first | exact Drawn0.refl _ | apply Drawn0.step)⟩
          · replace c7 := Bool.eq_false_iff.mpr c7
            subst c7
            have H1 : (some x1_1) = some r := by rw [if_neg (show ¬ (false = true) by decide)] at H; exact H
            clear H
            have H := H1
            clear H1
            obtain rfl := Option.some.inj H
            have p5 : 0 ≤ (x1_1 : Int) := of_decide_eq_true (by first | (with_reducible assumption) | assumption)
            have q5 : x1_1 < (a0.size : Int) := of_decide_eq_true (by first | (with_reducible assumption) | assumption)
            have hx5 := bt_at a0 x1_1
            replace p5 := eq_true p5
            replace q5 := eq_true q5
            go_wp2_with (first | (go_at_call 39; (with_reducible refine (spec_jDigit.calls (bt a0 x1_1) false _ A6.out).mono ?_); rintro e w' ⟨rfl, ⟨nd, rfl⟩⟩))
            go_ret
            exact ⟨by first | rfl | (simp; done) | (simp [*]; done), by repeat (first | exact Drawn0.refl _ | apply Drawn0.step)⟩
        · rw [if_neg c4] at H
          exact absurd H (by simp)
      · rw [if_neg c3] at H
        have c3b0 : decide (x1_1 < (a0.size : Int)) = false := decide_eq_false c3
        clear c3
        obtain rfl := Option.some.inj H
        go_wp2
        go_ret
        exact ⟨by first | rfl | (simp; done) | (simp [*]; done), by repeat (first | exact Drawn0.refl _ | apply Drawn0.step)⟩

/-! ### spec_JCounts: function 15 -/
mutual
def spec_JCounts.l0 : Nat → Int → Int → Bool → Int → ByteArray → List ByteArray → List (S25) → Option (Bool)
  | 0, _, _, _, _, _, _, _ => none
  | k + 1, x3, x106000, x106001, x106002, x106003, x106004, x106005 => if x3 < (x106005.length : Int) then (if 0 ≤ x3 then ((spec_JCounts.f k ((rd_T25 x106005 x3).f0) ((rd_T25 x106005 x3).f1) ((rd_T25 x106005 x3).f2) ((rd_T25 x106005 x3).f3) ((rd_T25 x106005 x3).f4) ((rd_T25 x106005 x3).f5)).bind fun t107 => (if t107 = true then (spec_JCounts.l0 k (wrap64 (x3 + 1)) x106000 x106001 x106002 x106003 x106004 x106005) else (some false))) else (none)) else (some true)
def spec_JCounts.f : Nat → Int → Bool → Int → ByteArray → List ByteArray → List (S25) → Option (Bool)
  | 0, _, _, _, _, _, _ => none
  | k + 1, a0_0, a0_1, a0_2, a0_3, l0_4, l0_5 => if a0_0 = 2 then (some false) else (spec_JCounts.l0 k 0 a0_0 a0_1 a0_2 a0_3 l0_4 l0_5)
end
theorem spec_JCounts.mono_l : ∀ k, (∀ y0 y1 y2 y3 y4 y5, LeO (spec_JCounts.f k y0 y1 y2 y3 y4 y5) (spec_JCounts.f (k + 1) y0 y1 y2 y3 y4 y5)) ∧ (∀ y0 y1 y2 y3 y4 y5 y6, LeO (spec_JCounts.l0 k y0 y1 y2 y3 y4 y5 y6) (spec_JCounts.l0 (k + 1) y0 y1 y2 y3 y4 y5 y6))
  | 0 => ⟨fun _ _ _ _ _ _ r h => by simp [spec_JCounts.f] at h, fun _ _ _ _ _ _ _ r h => by simp [spec_JCounts.l0] at h⟩
  | k + 1 => by
    obtain ⟨ih0, ih1⟩ := spec_JCounts.mono_l k
    refine ⟨?_, ?_⟩
    · intro y0 y1 y2 y3 y4 y5
      unfold spec_JCounts.f
      repeat' first
      | (with_reducible exact ih0 _ _ _ _ _ _)
      | (with_reducible exact ih1 _ _ _ _ _ _ _)
      | (with_reducible exact LeO.refl _)
      | (with_reducible exact LeO.none _)
      | (with_reducible refine LeO.ite ?_ ?_)
      | (with_reducible refine LeO.bind ?_ (fun _ => ?_))
      | exact ih0 _ _ _ _ _ _
      | exact ih1 _ _ _ _ _ _ _
      | exact LeO.none _
      | refine LeO.ite ?_ ?_
      | refine LeO.bind ?_ (fun _ => ?_)
    · intro y0 y1 y2 y3 y4 y5 y6
      unfold spec_JCounts.l0
      repeat' first
      | (with_reducible exact ih0 _ _ _ _ _ _)
      | (with_reducible exact ih1 _ _ _ _ _ _ _)
      | (with_reducible exact LeO.refl _)
      | (with_reducible exact LeO.none _)
      | (with_reducible refine LeO.ite ?_ ?_)
      | (with_reducible refine LeO.bind ?_ (fun _ => ?_))
      | exact ih0 _ _ _ _ _ _
      | exact ih1 _ _ _ _ _ _ _
      | exact LeO.none _
      | refine LeO.ite ?_ ?_
      | refine LeO.bind ?_ (fun _ => ?_)
theorem spec_JCounts.mono : ∀ a0 a1 a2 a3 a4 a5 k, LeO (spec_JCounts.f k a0 a1 a2 a3 a4 a5) (spec_JCounts.f (k + 1) a0 a1 a2 a3 a4 a5) := by
  intro a0 a1 a2 a3 a4 a5 k
  obtain ⟨ih0, ih1⟩ := spec_JCounts.mono_l k
  exact ih0 a0 a1 a2 a3 a4 a5
set_option maxHeartbeats 8000000 in
set_option maxRecDepth 100000 in
theorem spec_JCounts.calls (k : Nat) : ∀ (a0_0 : Int) (a0_1 : Bool) (a0_2 : Int) (a0_3 : ByteArray) (A0_4 : Option Addr) (c0_4 : Nat) (l0_4 : List ByteArray) (A0_5 : Option Addr) (c0_5 : Nat) (l0_5 : List (S25)) (r : Bool) (w : World) (hr0_4 : Kd.C Kd.string w A0_4 l0_4.length l0_4) (hc0_4 : l0_4.length ≤ c0_4) (hr0_5 : Kd.C k25 w A0_5 l0_5.length l0_5) (hc0_5 : l0_5.length ≤ c0_5) (h : spec_JCounts.f k a0_0 a0_1 a0_2 a0_3 l0_4 l0_5 = some r),
    Calls Try.prog 15 #[.agg #[.int .i64 a0_0, .bool a0_1, .int .i64 a0_2, .string a0_3, .slice A0_4 l0_4.length c0_4, .slice A0_5 l0_5.length c0_5]] w fun e w' => e = .returned (.bool r) ∧ Below w.heap.size w w' := by
  induction k using Nat.strongRecOn with
  | _ k ih =>
  intro a0_0 a0_1 a0_2 a0_3 A0_4 c0_4 l0_4 A0_5 c0_5 l0_5 r w hr0_4 hc0_4 hr0_5 hc0_5 h
  cases k with
  | zero => exact absurd h (by simp [spec_JCounts.f])
  | succ k =>
  simp only [spec_JCounts.f] at h
  have hu25 := Try.underlying25
  have HR0_4 := Aside0.mk hr0_4
  have HC0_4 := Aside0.mk hc0_4
  clear hr0_4 hc0_4
  have HR0_5 := Aside0.mk hr0_5
  have HC0_5 := Aside0.mk hc0_5
  clear hr0_5 hc0_5
  have HB := Aside0.mk (Below.refl w.heap.size w)
  have H : (if a0_0 = 2 then (some false) else (spec_JCounts.l0 k 0 a0_0 a0_1 a0_2 a0_3 l0_4 l0_5)) = some r := h
  clear h
  by_cases c2 : a0_0 = 2
  · rw [if_pos c2] at H
    have c2b0 : (a0_0 == 2) = true := beq_iff_eq.mpr c2
    have c2b1 : (a0_0 != 2) = false := bne_eq_false_iff_eq.mpr c2
    clear c2
    obtain rfl := Option.some.inj H
    go_enter Try.func15, Try.ntmps15
    go_wp2_with (first | ((with_reducible refine gate_dst (N := 1) rfl ?_); refine box_event ?hg (N := 1) ?hd (cs := #[.int .i64 a0_0, .bool a0_1, .int .i64 a0_2, .string a0_3, .slice A0_4 l0_4.length c0_4, .slice A0_5 l0_5.length c0_5]) (t := 25) ?hr ?_; (case hd => rfl); (case hg => rfl); (case hr => first | (go_simp; done) | (go_simp; rfl)); intro gb105 hg w3 hbox hb; have n0_ := Aside0.mk (below_step (by repeat (first | (with_reducible first | exact HB.out | apply below_alloc | apply pw_below_drewN | apply below_drew1) | exact HB.out)) hb); have n1_ := Aside0.mk (hbox); have n2_ := Aside0.mk ((by rw [hg]; exact (below_size (by repeat (first | (with_reducible first | exact HB.out | apply below_alloc | apply pw_below_drewN | apply below_drew1) | exact HB.out))) : w.heap.size ≤ gb105)); have n3_ := Aside0.mk ((by rw [hg]; exact (below_size (by repeat (first | (with_reducible first | exact HB.out | apply below_alloc | apply pw_below_drewN | apply below_drew1) | exact HB.out))) : w.heap.size ≤ gb105)); clear HB; have HB := n0_; have BK105 := n1_; have GW105 := n2_; have GE105 := n3_; clear n0_ n1_ n2_ n3_; clear hb hbox hg; have hcz4_0 : w3.cell? ⟨gb105, 0, none⟩ = some (.int .i64 a0_0) := (blk_cell BK105.out 0).trans rfl; have hcz4_1 : w3.cell? ⟨gb105, 1, none⟩ = some (.bool a0_1) := (blk_cell BK105.out 1).trans rfl; have hcz4_2 : w3.cell? ⟨gb105, 2, none⟩ = some (.int .i64 a0_2) := (blk_cell BK105.out 2).trans rfl; have hcz4_3 : w3.cell? ⟨gb105, 3, none⟩ = some (.string a0_3) := (blk_cell BK105.out 3).trans rfl; have hcz4_4 : w3.cell? ⟨gb105, 4, none⟩ = some (.slice A0_4 l0_4.length c0_4) := (blk_cell BK105.out 4).trans rfl; have hcz4_5 : w3.cell? ⟨gb105, 5, none⟩ = some (.slice A0_5 l0_5.length c0_5) := (blk_cell BK105.out 5).trans rfl; have hfz4_0 := blk_frozen BK105.out 0; have hfz4_1 := blk_frozen BK105.out 1; have hfz4_2 := blk_frozen BK105.out 2; have hfz4_3 := blk_frozen BK105.out 3; have hfz4_4 := blk_frozen BK105.out 4; have hfz4_5 := blk_frozen BK105.out 5))
    go_ret
    exact ⟨by first | rfl | (simp [errW_none, errW_some] <;> rfl) | (simp [*, errW_none, errW_some] <;> rfl), by repeat (first | (with_reducible first | exact HB.out | apply below_alloc | apply pw_below_drewN | apply below_drew1 | refine below_set ?_ GE105.out) | exact HB.out)⟩
  · rw [if_neg c2] at H
    have c2b0 : (a0_0 == 2) = false := beq_eq_false_iff_ne.mpr c2
    have c2b1 : (a0_0 != 2) = true := bne_iff_ne.mpr c2
    have H' := Aside0.mk H
    clear H
    go_enter Try.func15, Try.ntmps15
    go_wp2_with (first | ((with_reducible refine gate_dst (N := 1) rfl ?_); refine box_event ?hg (N := 1) ?hd (cs := #[.int .i64 a0_0, .bool a0_1, .int .i64 a0_2, .string a0_3, .slice A0_4 l0_4.length c0_4, .slice A0_5 l0_5.length c0_5]) (t := 25) ?hr ?_; (case hd => rfl); (case hg => rfl); (case hr => first | (go_simp; done) | (go_simp; rfl)); intro gb105 hg w5 hbox hb; have n0_ := Aside0.mk (below_step (by repeat (first | (with_reducible first | exact HB.out | apply below_alloc | apply pw_below_drewN | apply below_drew1) | exact HB.out)) hb); have n1_ := Aside0.mk (hbox); have n2_ := Aside0.mk ((by rw [hg]; exact (below_size (by repeat (first | (with_reducible first | exact HB.out | apply below_alloc | apply pw_below_drewN | apply below_drew1) | exact HB.out))) : w.heap.size ≤ gb105)); have n3_ := Aside0.mk ((by rw [hg]; exact (below_size (by repeat (first | (with_reducible first | exact HB.out | apply below_alloc | apply pw_below_drewN | apply below_drew1) | exact HB.out))) : w.heap.size ≤ gb105)); clear HB; have HB := n0_; have BK105 := n1_; have GW105 := n2_; have GE105 := n3_; clear n0_ n1_ n2_ n3_; clear hb hbox hg; have hcz6_0 : w5.cell? ⟨gb105, 0, none⟩ = some (.int .i64 a0_0) := (blk_cell BK105.out 0).trans rfl; have hcz6_1 : w5.cell? ⟨gb105, 1, none⟩ = some (.bool a0_1) := (blk_cell BK105.out 1).trans rfl; have hcz6_2 : w5.cell? ⟨gb105, 2, none⟩ = some (.int .i64 a0_2) := (blk_cell BK105.out 2).trans rfl; have hcz6_3 : w5.cell? ⟨gb105, 3, none⟩ = some (.string a0_3) := (blk_cell BK105.out 3).trans rfl; have hcz6_4 : w5.cell? ⟨gb105, 4, none⟩ = some (.slice A0_4 l0_4.length c0_4) := (blk_cell BK105.out 4).trans rfl; have hcz6_5 : w5.cell? ⟨gb105, 5, none⟩ = some (.slice A0_5 l0_5.length c0_5) := (blk_cell BK105.out 5).trans rfl; have hfz6_0 := blk_frozen BK105.out 0; have hfz6_1 := blk_frozen BK105.out 1; have hfz6_2 := blk_frozen BK105.out 2; have hfz6_3 := blk_frozen BK105.out 3; have hfz6_4 := blk_frozen BK105.out 4; have hfz6_5 := blk_frozen BK105.out 5))
    go_loopg [3] k (fun kq v3 w' => ∃ (x3_1 : Int), v3 = .int .i64 x3_1 ∧ Aside0 (spec_JCounts.l0 kq x3_1 a0_0 a0_1 a0_2 a0_3 l0_4 l0_5 = some r) ∧ Aside0 (kq ≤ k) ∧ Aside0 (w'.heap[gb105]? = some (.cells #[.int .i64 a0_0, .bool a0_1, .int .i64 a0_2, .string a0_3, (.slice A0_4 l0_4.length c0_4), (.slice A0_5 l0_5.length c0_5)] 25 (0, 0))) ∧ Aside0 (Below w.heap.size w w'))
    case atStart => exact ⟨(0), (by first | rfl | (simp; done) | (simp [*]; done)), H', ⟨Nat.le_refl _⟩, ⟨by (with_reducible repeat (first | refine blk_drewN ?_ _ | refine blk_drew ?_ | refine blk_alloc ?_ _)); exact BK105.out⟩, ⟨by repeat (first | (with_reducible first | exact HB.out | apply below_alloc | apply pw_below_drewN | apply below_drew1 | refine below_set ?_ GE105.out) | exact HB.out)⟩⟩
    case round =>
      clear H'
      try clear c1
      try clear c2
      try clear c2b0
      try clear c2b1
      try clear p2
      try clear hcz4_0
      try clear hcz4_1
      try clear hcz4_2
      try clear hcz4_3
      try clear hcz4_4
      try clear hcz4_5
      try clear hcz6_0
      try clear hcz6_1
      try clear hcz6_2
      try clear hcz6_3
      try clear hcz6_4
      try clear hcz6_5
      try clear hfz4_0
      try clear hfz4_1
      try clear hfz4_2
      try clear hfz4_3
      try clear hfz4_4
      try clear hfz4_5
      try clear hfz6_0
      try clear hfz6_1
      try clear hfz6_2
      try clear hfz6_3
      try clear hfz6_4
      try clear hfz6_5
      obtain ⟨x3_1, rfl, HA, HK1, BK105, HB⟩ := hrel
      cases gk with
      | zero => exact absurd HA.out (by simp [spec_JCounts.l0])
      | succ k1 =>
        have H := HA.out
        clear HA
        simp only [spec_JCounts.l0] at H
        by_cases c7 : x3_1 < (l0_5.length : Int)
        · rw [if_pos c7] at H
          have c7b0 : decide (x3_1 < (l0_5.length : Int)) = true := decide_eq_true c7
          clear c7
          by_cases c8 : 0 ≤ x3_1
          · rw [if_pos c8] at H
            have c8b0 : decide (0 ≤ x3_1) = true := decide_eq_true c8
            clear c8
            replace H := Option.bind_eq_some_iff.mp H
            obtain ⟨t107, A90, H⟩ := H
            replace H : (if t107 = true then (spec_JCounts.l0 k1 (wrap64 (x3_1 + 1)) a0_0 a0_1 a0_2 a0_3 l0_4 l0_5) else (some false)) = some r := H
            have A9 := Aside0.mk A90
            clear A90
            by_cases c10 : t107 = true
            · subst c10
              have H1 : (spec_JCounts.l0 k1 (wrap64 (x3_1 + 1)) a0_0 a0_1 a0_2 a0_3 l0_4 l0_5) = some r := by rw [if_pos rfl] at H; exact H
              clear H
              have H := H1
              clear H1
              have H' := Aside0.mk H
              clear H
              have hcz11_0 : wr.cell? ⟨gb105, 0, none⟩ = some (.int .i64 a0_0) := (blk_cell BK105.out 0).trans rfl
              have hcz11_1 : wr.cell? ⟨gb105, 1, none⟩ = some (.bool a0_1) := (blk_cell BK105.out 1).trans rfl
              have hcz11_2 : wr.cell? ⟨gb105, 2, none⟩ = some (.int .i64 a0_2) := (blk_cell BK105.out 2).trans rfl
              have hcz11_3 : wr.cell? ⟨gb105, 3, none⟩ = some (.string a0_3) := (blk_cell BK105.out 3).trans rfl
              have hcz11_4 : wr.cell? ⟨gb105, 4, none⟩ = some (.slice A0_4 l0_4.length c0_4) := (blk_cell BK105.out 4).trans rfl
              have hcz11_5 : wr.cell? ⟨gb105, 5, none⟩ = some (.slice A0_5 l0_5.length c0_5) := (blk_cell BK105.out 5).trans rfl
              have hfz11_0 := blk_frozen BK105.out 0
              have hfz11_1 := blk_frozen BK105.out 1
              have hfz11_2 := blk_frozen BK105.out 2
              have hfz11_3 := blk_frozen BK105.out 3
              have hfz11_4 := blk_frozen BK105.out 4
              have hfz11_5 := blk_frozen BK105.out 5
              have p106 : 0 ≤ (x3_1 : Int) := of_decide_eq_true (by first | (with_reducible assumption) | assumption)
              have q106 : x3_1 < (l0_5.length : Int) := of_decide_eq_true (by first | (with_reducible assumption) | assumption)
              obtain ⟨ad106, A106_4, c106_4, A106_5, c106_5, e106, hx106_0, hx106_1, hx106_2, hx106_3, hx106_4, hx106_5, hl106_4, hi106_4, hl106_5, hi106_5⟩ := at_T25 HR0_5.out x3_1 p106 q106
              cases e106
              replace hx106_0 := (HB.out.cell (World.block_lt_of_cell? w _ hx106_0)).trans hx106_0
              replace hx106_1 := (HB.out.cell (World.block_lt_of_cell? w _ hx106_1)).trans hx106_1
              replace hx106_2 := (HB.out.cell (World.block_lt_of_cell? w _ hx106_2)).trans hx106_2
              replace hx106_3 := (HB.out.cell (World.block_lt_of_cell? w _ hx106_3)).trans hx106_3
              replace hx106_4 := (HB.out.cell (World.block_lt_of_cell? w _ hx106_4)).trans hx106_4
              replace hx106_5 := (HB.out.cell (World.block_lt_of_cell? w _ hx106_5)).trans hx106_5
              have HR106_4 := Aside0.mk hi106_4
              have HC106_4 := Aside0.mk hl106_4
              clear hi106_4 hl106_4
              have HR106_5 := Aside0.mk hi106_5
              have HC106_5 := Aside0.mk hl106_5
              clear hi106_5 hl106_5
              replace p106 := eq_true p106
              replace q106 := eq_true q106
              go_wp2_with (first | ((with_reducible refine gate_callee (f := 15) rfl ?_); refine goesL_ (some 19) rfl rfl Try.func15 (by kernel_rfl) rfl #[.agg #[.int .i64 ((rd_T25 l0_5 x3_1).f0), .bool ((rd_T25 l0_5 x3_1).f1), .int .i64 ((rd_T25 l0_5 x3_1).f2), .string ((rd_T25 l0_5 x3_1).f3), .slice A106_4 ((rd_T25 l0_5 x3_1).f4).length c106_4, .slice A106_5 ((rd_T25 l0_5 x3_1).f5).length c106_5]] rfl (by (try simp only [List.map_toArray, List.map_cons, List.map_nil]); first | done | rfl | (simp only [List.length_drop, List.length_take]; rfl)) ?_; (with_reducible refine (ih k1 (by have := HK1.out; omega) ((rd_T25 l0_5 x3_1).f0) ((rd_T25 l0_5 x3_1).f1) ((rd_T25 l0_5 x3_1).f2) ((rd_T25 l0_5 x3_1).f3) _ _ ((rd_T25 l0_5 x3_1).f4) _ _ ((rd_T25 l0_5 x3_1).f5) true _ ?side1 ?side2 ?side3 ?side4 A9.out).mono ?_); (case side1 => repeat (first | exact (Kd.C_below HR106_4.out HB.out) | (with_reducible refine Kd.C_alloc ?_ _) | (with_reducible refine Kd.C_drewN ?_ _) | (with_reducible refine Kd.C_drew ?_))); (case side2 => exact HC106_4.out); (case side3 => repeat (first | exact (Kd.C_below HR106_5.out HB.out) | (with_reducible refine Kd.C_alloc ?_ _) | (with_reducible refine Kd.C_drewN ?_ _) | (with_reducible refine Kd.C_drew ?_))); (case side4 => exact HC106_5.out); rintro e w12 ⟨rfl, hb⟩; refine ⟨_, rfl, ?_⟩; have n0_ := Aside0.mk (blk_below (g := gb105) (o := .cells #[.int .i64 a0_0, .bool a0_1, .int .i64 a0_2, .string a0_3, .slice A0_4 l0_4.length c0_4, .slice (some ad106) l0_5.length c0_5] 25 (0, 0)) (by (with_reducible repeat (first | refine blk_drewN ?_ _ | refine blk_drew ?_ | refine blk_alloc ?_ _)); exact BK105.out) hb); have n1_ := Aside0.mk (below_step (by repeat (first | (with_reducible first | exact HB.out | apply below_alloc | apply pw_below_drewN | apply below_drew1 | refine below_set ?_ GE105.out) | exact HB.out)) hb); clear BK105; clear HB; have BK105 := n0_; have HB := n1_; clear n0_ n1_; (try clear hb); (try clear hb2); (try clear hk); (try clear hi)))
              go_roundg k1
              case measure => have := HK1.out; omega
              case rel => exact ⟨(wrap64 (x3_1 + 1)), (by first | rfl | (simp; done) | (simp [*]; done)), H', ⟨by have := HK1.out; omega⟩, ⟨by (with_reducible repeat (first | refine blk_drewN ?_ _ | refine blk_drew ?_ | refine blk_alloc ?_ _)); exact BK105.out⟩, ⟨by repeat (first | (with_reducible first | exact HB.out | apply below_alloc | apply pw_below_drewN | apply below_drew1 | refine below_set ?_ GE105.out) | exact HB.out)⟩⟩
            · replace c10 := Bool.eq_false_iff.mpr c10
              subst c10
              have H1 : (some false) = some r := by rw [if_neg (show ¬ (false = true) by decide)] at H; exact H
              clear H
              have H := H1
              clear H1
              obtain rfl := Option.some.inj H
              have hcz13_0 : wr.cell? ⟨gb105, 0, none⟩ = some (.int .i64 a0_0) := (blk_cell BK105.out 0).trans rfl
              have hcz13_1 : wr.cell? ⟨gb105, 1, none⟩ = some (.bool a0_1) := (blk_cell BK105.out 1).trans rfl
              have hcz13_2 : wr.cell? ⟨gb105, 2, none⟩ = some (.int .i64 a0_2) := (blk_cell BK105.out 2).trans rfl
              have hcz13_3 : wr.cell? ⟨gb105, 3, none⟩ = some (.string a0_3) := (blk_cell BK105.out 3).trans rfl
              have hcz13_4 : wr.cell? ⟨gb105, 4, none⟩ = some (.slice A0_4 l0_4.length c0_4) := (blk_cell BK105.out 4).trans rfl
              have hcz13_5 : wr.cell? ⟨gb105, 5, none⟩ = some (.slice A0_5 l0_5.length c0_5) := (blk_cell BK105.out 5).trans rfl
              have hfz13_0 := blk_frozen BK105.out 0
              have hfz13_1 := blk_frozen BK105.out 1
              have hfz13_2 := blk_frozen BK105.out 2
              have hfz13_3 := blk_frozen BK105.out 3
              have hfz13_4 := blk_frozen BK105.out 4
              have hfz13_5 := blk_frozen BK105.out 5
              have p106 : 0 ≤ (x3_1 : Int) := of_decide_eq_true (by first | (with_reducible assumption) | assumption)
              have q106 : x3_1 < (l0_5.length : Int) := of_decide_eq_true (by first | (with_reducible assumption) | assumption)
              obtain ⟨ad106, A106_4, c106_4, A106_5, c106_5, e106, hx106_0, hx106_1, hx106_2, hx106_3, hx106_4, hx106_5, hl106_4, hi106_4, hl106_5, hi106_5⟩ := at_T25 HR0_5.out x3_1 p106 q106
              cases e106
              replace hx106_0 := (HB.out.cell (World.block_lt_of_cell? w _ hx106_0)).trans hx106_0
              replace hx106_1 := (HB.out.cell (World.block_lt_of_cell? w _ hx106_1)).trans hx106_1
              replace hx106_2 := (HB.out.cell (World.block_lt_of_cell? w _ hx106_2)).trans hx106_2
              replace hx106_3 := (HB.out.cell (World.block_lt_of_cell? w _ hx106_3)).trans hx106_3
              replace hx106_4 := (HB.out.cell (World.block_lt_of_cell? w _ hx106_4)).trans hx106_4
              replace hx106_5 := (HB.out.cell (World.block_lt_of_cell? w _ hx106_5)).trans hx106_5
              have HR106_4 := Aside0.mk hi106_4
              have HC106_4 := Aside0.mk hl106_4
              clear hi106_4 hl106_4
              have HR106_5 := Aside0.mk hi106_5
              have HC106_5 := Aside0.mk hl106_5
              clear hi106_5 hl106_5
              replace p106 := eq_true p106
              replace q106 := eq_true q106
              go_wp2_with (first | ((with_reducible refine gate_callee (f := 15) rfl ?_); refine goesL_ (some 19) rfl rfl Try.func15 (by kernel_rfl) rfl #[.agg #[.int .i64 ((rd_T25 l0_5 x3_1).f0), .bool ((rd_T25 l0_5 x3_1).f1), .int .i64 ((rd_T25 l0_5 x3_1).f2), .string ((rd_T25 l0_5 x3_1).f3), .slice A106_4 ((rd_T25 l0_5 x3_1).f4).length c106_4, .slice A106_5 ((rd_T25 l0_5 x3_1).f5).length c106_5]] rfl (by (try simp only [List.map_toArray, List.map_cons, List.map_nil]); first | done | rfl | (simp only [List.length_drop, List.length_take]; rfl)) ?_; (with_reducible refine (ih k1 (by have := HK1.out; omega) ((rd_T25 l0_5 x3_1).f0) ((rd_T25 l0_5 x3_1).f1) ((rd_T25 l0_5 x3_1).f2) ((rd_T25 l0_5 x3_1).f3) _ _ ((rd_T25 l0_5 x3_1).f4) _ _ ((rd_T25 l0_5 x3_1).f5) false _ ?side1 ?side2 ?side3 ?side4 A9.out).mono ?_); (case side1 => repeat (first | exact (Kd.C_below HR106_4.out HB.out) | (with_reducible refine Kd.C_alloc ?_ _) | (with_reducible refine Kd.C_drewN ?_ _) | (with_reducible refine Kd.C_drew ?_))); (case side2 => exact HC106_4.out); (case side3 => repeat (first | exact (Kd.C_below HR106_5.out HB.out) | (with_reducible refine Kd.C_alloc ?_ _) | (with_reducible refine Kd.C_drewN ?_ _) | (with_reducible refine Kd.C_drew ?_))); (case side4 => exact HC106_5.out); rintro e w14 ⟨rfl, hb⟩; refine ⟨_, rfl, ?_⟩; have n0_ := Aside0.mk (blk_below (g := gb105) (o := .cells #[.int .i64 a0_0, .bool a0_1, .int .i64 a0_2, .string a0_3, .slice A0_4 l0_4.length c0_4, .slice (some ad106) l0_5.length c0_5] 25 (0, 0)) (by (with_reducible repeat (first | refine blk_drewN ?_ _ | refine blk_drew ?_ | refine blk_alloc ?_ _)); exact BK105.out) hb); have n1_ := Aside0.mk (below_step (by repeat (first | (with_reducible first | exact HB.out | apply below_alloc | apply pw_below_drewN | apply below_drew1 | refine below_set ?_ GE105.out) | exact HB.out)) hb); clear BK105; clear HB; have BK105 := n0_; have HB := n1_; clear n0_ n1_; (try clear hb); (try clear hb2); (try clear hk); (try clear hi)))
              go_ret
              exact ⟨by first | rfl | (simp [errW_none, errW_some] <;> rfl) | (simp [*, errW_none, errW_some] <;> rfl), by repeat (first | (with_reducible first | exact HB.out | apply below_alloc | apply pw_below_drewN | apply below_drew1 | refine below_set ?_ GE105.out) | exact HB.out)⟩
          · rw [if_neg c8] at H
            exact absurd H (by simp)
        · rw [if_neg c7] at H
          have c7b0 : decide (x3_1 < (l0_5.length : Int)) = false := decide_eq_false c7
          clear c7
          obtain rfl := Option.some.inj H
          have hcz15_0 : wr.cell? ⟨gb105, 0, none⟩ = some (.int .i64 a0_0) := (blk_cell BK105.out 0).trans rfl
          have hcz15_1 : wr.cell? ⟨gb105, 1, none⟩ = some (.bool a0_1) := (blk_cell BK105.out 1).trans rfl
          have hcz15_2 : wr.cell? ⟨gb105, 2, none⟩ = some (.int .i64 a0_2) := (blk_cell BK105.out 2).trans rfl
          have hcz15_3 : wr.cell? ⟨gb105, 3, none⟩ = some (.string a0_3) := (blk_cell BK105.out 3).trans rfl
          have hcz15_4 : wr.cell? ⟨gb105, 4, none⟩ = some (.slice A0_4 l0_4.length c0_4) := (blk_cell BK105.out 4).trans rfl
          have hcz15_5 : wr.cell? ⟨gb105, 5, none⟩ = some (.slice A0_5 l0_5.length c0_5) := (blk_cell BK105.out 5).trans rfl
          have hfz15_0 := blk_frozen BK105.out 0
          have hfz15_1 := blk_frozen BK105.out 1
          have hfz15_2 := blk_frozen BK105.out 2
          have hfz15_3 := blk_frozen BK105.out 3
          have hfz15_4 := blk_frozen BK105.out 4
          have hfz15_5 := blk_frozen BK105.out 5
          go_wp2
          go_ret
          exact ⟨by first | rfl | (simp [errW_none, errW_some] <;> rfl) | (simp [*, errW_none, errW_some] <;> rfl), by repeat (first | (with_reducible first | exact HB.out | apply below_alloc | apply pw_below_drewN | apply below_drew1 | refine below_set ?_ GE105.out) | exact HB.out)⟩

end Go.Proofs.Ytdleegmdpgefmaa.PJ
