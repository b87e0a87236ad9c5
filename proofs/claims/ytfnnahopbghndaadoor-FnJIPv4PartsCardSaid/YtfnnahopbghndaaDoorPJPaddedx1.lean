-- PRINTED BY print.sh 35421559b90ae4d0a3588c463048766b98c2df88dd9212a6774a882060cdf62d: not written by this session
import Derived.Test.YtfnnahopbghndaaDoorPJPaddedx0
namespace Go.Proofs.YtfnnahopbghndaaDoor.PJPadded
open Go.RowKit Go.Proofs.YtfnnahopbghndaaDoorW.PrintWords Go.Proofs.YtfnnahopbghndaaDoorW.PrintLast Go.Proofs.YtfnnahopbghndaaDoorW.PrintMore
attribute [local go_sem] max2_int min2_int max_two min_two max_three min_three max_four min_four   -- for this text's walks alone
set_option linter.unusedVariables false
set_option linter.unusedSimpArgs false

/-! ### spec_jDigit: function 26 -/
def spec_jDigit.f (a0 : Int) : Option (Bool) := if a0 ≥ 48 then (some (decide (a0 ≤ 57))) else (some false)
set_option maxHeartbeats 8000000 in
set_option maxRecDepth 100000 in
theorem spec_jDigit.calls (a0 : Int) (r : Bool) (w : World) (h : spec_jDigit.f a0 = some r) :
    Calls Tryd.prog 26 #[.int .u8 a0] w fun e w' => e = .returned (.bool r) ∧ Drawn0 w w' := by
  have H : (if a0 ≥ 48 then (some (decide (a0 ≤ 57))) else (some false)) = some r := h
  clear h
  by_cases c2 : a0 ≥ 48
  · rw [if_pos c2] at H
    have c2b0 : decide (48 ≤ a0) = true := decide_eq_true c2
    clear c2
    obtain rfl := Option.some.inj H
    go_enter Tryd.func26, Tryd.ntmps26
    go_wp2
    go_ret
    exact ⟨by first | rfl | (simp; done) | (simp [*]; done), by repeat (first | exact Drawn0.refl _ | apply Drawn0.step)⟩
  · rw [if_neg c2] at H
    have c2b0 : decide (48 ≤ a0) = false := decide_eq_false c2
    clear c2
    obtain rfl := Option.some.inj H
    go_enter Tryd.func26, Tryd.ntmps26
    go_wp2
    go_ret
    exact ⟨by first | rfl | (simp; done) | (simp [*]; done), by repeat (first | exact Drawn0.refl _ | apply Drawn0.step)⟩

/-! ### spec_JPadded: function 10 -/
def spec_JPadded.l0 : Nat → ByteArray → Int → Option (Bool)
  | 0, _, _ => none
  | k + 1, x0, x3 => if (wrap64 (x3 + 1)) < (x0.size : Int) then (if 0 ≤ x3 then (if x3 < (x0.size : Int) then (if (bt x0 x3) = 48 then (if 0 ≤ (wrap64 (x3 + 1)) then ((spec_jDigit.f (bt x0 (wrap64 (x3 + 1)))).bind fun t101 => (if t101 = true then (if x3 = 0 then (some true) else (if 0 ≤ (wrap64 (x3 - 1)) then (if (wrap64 (x3 - 1)) < (x0.size : Int) then (if (bt x0 (wrap64 (x3 - 1))) = 46 then (some true) else (spec_JPadded.l0 k x0 (wrap64 (x3 + 1)))) else (none)) else (none))) else (spec_JPadded.l0 k x0 (wrap64 (x3 + 1))))) else (none)) else (spec_JPadded.l0 k x0 (wrap64 (x3 + 1)))) else (none)) else (none)) else (some false)
def spec_JPadded.f (k : Nat) (a0 : ByteArray) : Option (Bool) := spec_JPadded.l0 k a0 0
theorem spec_JPadded.mono_l : ∀ k, (∀ y0 y1, LeO (spec_JPadded.l0 k y0 y1) (spec_JPadded.l0 (k + 1) y0 y1))
  | 0 => fun _ _ r h => by simp [spec_JPadded.l0] at h
  | k + 1 => by
    have ih0 := spec_JPadded.mono_l k
    · intro y0 y1
      unfold spec_JPadded.l0
      repeat' first
      | (with_reducible exact ih0 _ _)
      | (with_reducible exact LeO.refl _)
      | (with_reducible exact LeO.none _)
      | (with_reducible refine LeO.ite ?_ ?_)
      | (with_reducible refine LeO.bind ?_ (fun _ => ?_))
      | exact ih0 _ _
      | exact LeO.none _
      | refine LeO.ite ?_ ?_
      | refine LeO.bind ?_ (fun _ => ?_)
theorem spec_JPadded.mono : ∀ a0 k, LeO (spec_JPadded.f k a0) (spec_JPadded.f (k + 1) a0) := by
  intro a0 k
  have ih0 := spec_JPadded.mono_l k
  unfold spec_JPadded.f
  repeat' first
      | (with_reducible exact ih0 _ _)
      | (with_reducible exact LeO.refl _)
      | (with_reducible exact LeO.none _)
      | (with_reducible refine LeO.ite ?_ ?_)
      | (with_reducible refine LeO.bind ?_ (fun _ => ?_))
      | exact ih0 _ _
      | exact LeO.none _
      | refine LeO.ite ?_ ?_
      | refine LeO.bind ?_ (fun _ => ?_)
set_option maxHeartbeats 8000000 in
set_option maxRecDepth 100000 in
theorem spec_JPadded.calls (k : Nat) (a0 : ByteArray) (r : Bool) (w : World) (h : spec_JPadded.f k a0 = some r) :
    Calls Tryd.prog 10 #[.string a0] w fun e w' => e = .returned (.bool r) ∧ Drawn0 w w' := by
  have H : (spec_JPadded.l0 k a0 0) = some r := h
  clear h
  have H' := Aside0.mk H
  clear H
  go_enter Tryd.func10, Tryd.ntmps10
  go_wp2
  go_loopg [3] k (fun kq v3 w' => ∃ (x3_1 : Int), v3 = .int .i64 x3_1 ∧ Aside0 (spec_JPadded.l0 kq a0 x3_1 = some r) ∧ Aside0 (kq ≤ k) ∧ Drawn0 w w')
  case atStart => exact ⟨(0), (by first | rfl | (simp; done) | (simp [*]; done)), H', ⟨Nat.le_refl _⟩, by repeat (first | exact Drawn0.refl _ | apply Drawn0.step)⟩
  case round =>
    clear H'
    try clear c1
    obtain ⟨x3_1, rfl, HA, HK1, ⟨m1, rfl⟩⟩ := hrel
    cases gk with
    | zero => exact absurd HA.out (by simp [spec_JPadded.l0])
    | succ k1 =>
      have H := HA.out
      clear HA
      simp only [spec_JPadded.l0] at H
      by_cases c2 : (wrap64 (x3_1 + 1)) < (a0.size : Int)
      · rw [if_pos c2] at H
        have c2b0 : decide ((wrap64 (x3_1 + 1)) < (a0.size : Int)) = true := decide_eq_true c2
        clear c2
        by_cases c3 : 0 ≤ x3_1
        · rw [if_pos c3] at H
          have c3b0 : decide (0 ≤ x3_1) = true := decide_eq_true c3
          clear c3
          by_cases c4 : x3_1 < (a0.size : Int)
          · rw [if_pos c4] at H
            have c4b0 : decide (x3_1 < (a0.size : Int)) = true := decide_eq_true c4
            clear c4
            by_cases c6 : (bt a0 x3_1) = 48
            · rw [if_pos c6] at H
              have c6b0 : ((bt a0 x3_1) == 48) = true := beq_iff_eq.mpr c6
              have c6b1 : ((bt a0 x3_1) != 48) = false := bne_eq_false_iff_eq.mpr c6
              clear c6
              obtain ⟨ji7, hji7⟩ : ∃ j_ : Int, (wrap64 (x3_1 + 1)) = j_ := ⟨_, rfl⟩
              replace H : (if 0 ≤ (ji7) then ((spec_jDigit.f (bt a0 (ji7))).bind fun t101 => (if t101 = true then (if x3_1 = 0 then (some true) else (if 0 ≤ (wrap64 (x3_1 - 1)) then (if (wrap64 (x3_1 - 1)) < (a0.size : Int) then (if (bt a0 (wrap64 (x3_1 - 1))) = 46 then (some true) else (spec_JPadded.l0 k1 a0 ji7)) else (none)) else (none))) else (spec_JPadded.l0 k1 a0 ji7))) else (none)) = some r := by first | (rw [hji7] at H; exact H) | (simp only [hji7] at H ⊢; exact H)
              (try rw [hji7] at c2b0)
              have hji7w : (IntKind.i64.wrap (x3_1 + 1)) = ji7 := (i64_w _).trans hji7
              by_cases c8 : 0 ≤ (ji7)
              · rw [if_pos c8] at H
                have c8b0 : decide (0 ≤ (ji7)) = true := decide_eq_true c8
                clear c8
                replace H := Option.bind_eq_some_iff.mp H
                obtain ⟨t101, A100, H⟩ := H
                replace H : (if t101 = true then (if x3_1 = 0 then (some true) else (if 0 ≤ (wrap64 (x3_1 - 1)) then (if (wrap64 (x3_1 - 1)) < (a0.size : Int) then (if (bt a0 (wrap64 (x3_1 - 1))) = 46 then (some true) else (spec_JPadded.l0 k1 a0 ji7)) else (none)) else (none))) else (spec_JPadded.l0 k1 a0 ji7)) = some r := H
                have A10 := Aside0.mk A100
                clear A100
                by_cases c11 : t101 = true
                · subst c11
                  have H1 : (if x3_1 = 0 then (some true) else (if 0 ≤ (wrap64 (x3_1 - 1)) then (if (wrap64 (x3_1 - 1)) < (a0.size : Int) then (if (bt a0 (wrap64 (x3_1 - 1))) = 46 then (some true) else (spec_JPadded.l0 k1 a0 ji7)) else (none)) else (none))) = some r := by rw [if_pos rfl] at H; exact H
                  clear H
                  have H := H1
                  clear H1
                  by_cases c12 : x3_1 = 0
                  · rw [if_pos c12] at H
                    have c12b0 : (x3_1 == 0) = true := beq_iff_eq.mpr c12
                    have c12b1 : (x3_1 != 0) = false := bne_eq_false_iff_eq.mpr c12
                    clear c12
                    obtain rfl := Option.some.inj H
                    have p5 : 0 ≤ (x3_1 : Int) := of_decide_eq_true (by first | (with_reducible assumption) | assumption)
                    have q5 : x3_1 < (a0.size : Int) := of_decide_eq_true (by first | (with_reducible assumption) | assumption)
                    have hx5 := bt_at a0 x3_1
                    replace p5 := eq_true p5
                    replace q5 := eq_true q5
                    have p9 : 0 ≤ ((ji7) : Int) := of_decide_eq_true (by first | (with_reducible assumption) | assumption)
                    have q9 : (ji7) < (a0.size : Int) := of_decide_eq_true (by first | (with_reducible assumption) | assumption)
                    have hx9 := bt_at a0 (ji7)
                    replace p9 := eq_true p9
                    replace q9 := eq_true q9
                    go_wp2_with (first | (go_at_call 26; (with_reducible refine (spec_jDigit.calls (bt a0 (ji7)) true _ A10.out).mono ?_); rintro e w' ⟨rfl, ⟨nd, rfl⟩⟩))
                    go_ret
                    exact ⟨by first | rfl | (simp; done) | (simp only [← hji7] <;> (first | rfl | simp)) | (simp [*]; done), by repeat (first | exact Drawn0.refl _ | apply Drawn0.step)⟩
                  · rw [if_neg c12] at H
                    have c12b0 : (x3_1 == 0) = false := beq_eq_false_iff_ne.mpr c12
                    have c12b1 : (x3_1 != 0) = true := bne_iff_ne.mpr c12
                    obtain ⟨ji13, hji13⟩ : ∃ j_ : Int, (wrap64 (x3_1 - 1)) = j_ := ⟨_, rfl⟩
                    replace H : (if 0 ≤ (ji13) then (if (ji13) < (a0.size : Int) then (if (bt a0 (ji13)) = 46 then (some true) else (spec_JPadded.l0 k1 a0 ji7)) else (none)) else (none)) = some r := by first | (rw [hji13] at H; exact H) | (simp only [hji13] at H ⊢; exact H)
                    (try rw [hji13] at A10)
                    have hji13w : (IntKind.i64.wrap (x3_1 - 1)) = ji13 := (i64_w _).trans hji13
                    by_cases c14 : 0 ≤ (ji13)
                    · rw [if_pos c14] at H
                      have c14b0 : decide (0 ≤ (ji13)) = true := decide_eq_true c14
                      clear c14
                      by_cases c15 : (ji13) < (a0.size : Int)
                      · rw [if_pos c15] at H
                        have c15b0 : decide ((ji13) < (a0.size : Int)) = true := decide_eq_true c15
                        clear c15
                        by_cases c17 : (bt a0 (ji13)) = 46
                        · rw [if_pos c17] at H
                          have c17b0 : ((bt a0 (ji13)) == 46) = true := beq_iff_eq.mpr c17
                          have c17b1 : ((bt a0 (ji13)) != 46) = false := bne_eq_false_iff_eq.mpr c17
                          clear c17
                          obtain rfl := Option.some.inj H
                          have p5 : 0 ≤ (x3_1 : Int) := of_decide_eq_true (by first | (with_reducible assumption) | assumption)
                          have q5 : x3_1 < (a0.size : Int) := of_decide_eq_true (by first | (with_reducible assumption) | assumption)
                          have hx5 := bt_at a0 x3_1
                          replace p5 := eq_true p5
                          replace q5 := eq_true q5
                          have p9 : 0 ≤ ((ji7) : Int) := of_decide_eq_true (by first | (with_reducible assumption) | assumption)
                          have q9 : (ji7) < (a0.size : Int) := of_decide_eq_true (by first | (with_reducible assumption) | assumption)
                          have hx9 := bt_at a0 (ji7)
                          replace p9 := eq_true p9
                          replace q9 := eq_true q9
                          go_wp2_with (first | (go_at_call 26; (with_reducible refine (spec_jDigit.calls (bt a0 (ji7)) true _ A10.out).mono ?_); rintro e w' ⟨rfl, ⟨nd, rfl⟩⟩; have p16 : 0 ≤ ((ji13) : Int) := of_decide_eq_true (by first | (with_reducible assumption) | assumption); have q16 : (ji13) < (a0.size : Int) := of_decide_eq_true (by first | (with_reducible assumption) | assumption); have hx16 := bt_at a0 (ji13); replace p16 := eq_true p16; replace q16 := eq_true q16))
                          go_ret
                          exact ⟨by first | rfl | (simp; done) | (simp only [← hji7, ← hji13] <;> (first | rfl | simp)) | (simp [*]; done), by repeat (first | exact Drawn0.refl _ | apply Drawn0.step)⟩
                        · rw [if_neg c17] at H
                          have c17b0 : ((bt a0 (ji13)) == 46) = false := beq_eq_false_iff_ne.mpr c17
                          have c17b1 : ((bt a0 (ji13)) != 46) = true := bne_iff_ne.mpr c17
                          have H' := Aside0.mk H
                          clear H
                          have p5 : 0 ≤ (x3_1 : Int) := of_decide_eq_true (by first | (with_reducible assumption) | assumption)
                          have q5 : x3_1 < (a0.size : Int) := of_decide_eq_true (by first | (with_reducible assumption) | assumption)
                          have hx5 := bt_at a0 x3_1
                          replace p5 := eq_true p5
                          replace q5 := eq_true q5
                          have p9 : 0 ≤ ((ji7) : Int) := of_decide_eq_true (by first | (with_reducible assumption) | assumption)
                          have q9 : (ji7) < (a0.size : Int) := of_decide_eq_true (by first | (with_reducible assumption) | assumption)
                          have hx9 := bt_at a0 (ji7)
                          replace p9 := eq_true p9
                          replace q9 := eq_true q9
                          go_wp2_with (first | (go_at_call 26; (with_reducible refine (spec_jDigit.calls (bt a0 (ji7)) true _ A10.out).mono ?_); rintro e w' ⟨rfl, ⟨nd, rfl⟩⟩; have p16 : 0 ≤ ((ji13) : Int) := of_decide_eq_true (by first | (with_reducible assumption) | assumption); have q16 : (ji13) < (a0.size : Int) := of_decide_eq_true (by first | (with_reducible assumption) | assumption); have hx16 := bt_at a0 (ji13); replace p16 := eq_true p16; replace q16 := eq_true q16))
                          go_roundg k1
                          case measure => have := HK1.out; omega
                          case rel => exact ⟨(ji7), (by first | rfl | (simp; done) | (simp only [← hji7] <;> (first | rfl | simp)) | (simp [*]; done)), H', ⟨by have := HK1.out; omega⟩, by repeat (first | exact Drawn0.refl _ | apply Drawn0.step)⟩
                      · rw [if_neg c15] at H
                        exact absurd H (by simp)
                    · rw [if_neg c14] at H
                      exact absurd H (by simp)
                · replace c11 := Bool.eq_false_iff.mpr c11
                  subst c11
                  have H1 : (spec_JPadded.l0 k1 a0 ji7) = some r := by rw [if_neg (show ¬ (false = true) by decide)] at H; exact H
                  clear H
                  have H := H1
                  clear H1
                  have H' := Aside0.mk H
                  clear H
                  have p5 : 0 ≤ (x3_1 : Int) := of_decide_eq_true (by first | (with_reducible assumption) | assumption)
                  have q5 : x3_1 < (a0.size : Int) := of_decide_eq_true (by first | (with_reducible assumption) | assumption)
                  have hx5 := bt_at a0 x3_1
                  replace p5 := eq_true p5
                  replace q5 := eq_true q5
                  have p9 : 0 ≤ ((ji7) : Int) := of_decide_eq_true (by first | (with_reducible assumption) | assumption)
                  have q9 : (ji7) < (a0.size : Int) := of_decide_eq_true (by first | (with_reducible assumption) | assumption)
                  have hx9 := bt_at a0 (ji7)
                  replace p9 := eq_true p9
                  replace q9 := eq_true q9
                  go_wp2_with (first | (go_at_call 26; (with_reducible refine (spec_jDigit.calls (bt a0 (ji7)) false _ A10.out).mono ?_); rintro e w' ⟨rfl, ⟨nd, rfl⟩⟩))
                  go_roundg k1
                  case measure => have := HK1.out; omega
                  case rel => exact ⟨(ji7), (by first | rfl | (simp; done) | (simp only [← hji7] <;> (first | rfl | simp)) | (simp [*]; done)), H', ⟨by have := HK1.out; omega⟩, by repeat (first | exact Drawn0.refl _ | apply Drawn0.step)⟩
              · rw [if_neg c8] at H
                exact absurd H (by simp)
            · rw [if_neg c6] at H
              have c6b0 : ((bt a0 x3_1) == 48) = false := beq_eq_false_iff_ne.mpr c6
              have c6b1 : ((bt a0 x3_1) != 48) = true := bne_iff_ne.mpr c6
              have H' := Aside0.mk H
              clear H
              have p5 : 0 ≤ (x3_1 : Int) := of_decide_eq_true (by first | (with_reducible assumption) | assumption)
              have q5 : x3_1 < (a0.size : Int) := of_decide_eq_true (by first | (with_reducible assumption) | assumption)
              have hx5 := bt_at a0 x3_1
              replace p5 := eq_true p5
              replace q5 := eq_true q5
              go_wp2
              go_roundg k1
              case measure => have := HK1.out; omega
              case rel => exact ⟨(wrap64 (x3_1 + 1)), (by first | rfl | (simp; done) | (simp [*]; done)), H', ⟨by have := HK1.out; omega⟩, by repeat (first | exact Drawn0.refl _ | apply Drawn0.step)⟩
          · rw [if_neg c4] at H
            exact absurd H (by simp)
        · rw [if_neg c3] at H
          exact absurd H (by simp)
      · rw [if_neg c2] at H
        have c2b0 : decide ((wrap64 (x3_1 + 1)) < (a0.size : Int)) = false := decide_eq_false c2
        clear c2
        obtain rfl := Option.some.inj H
        go_wp2
        go_ret
        exact ⟨by first | rfl | (simp; done) | (simp [*]; done), by repeat (first | exact Drawn0.refl _ | apply Drawn0.step)⟩

/-- THE ONE PURE STATEMENT of spec_JPadded: yours. -/
def spec_JPadded.Pure : Prop := ∀ (a0 : ByteArray), a0.size ≤ 140737488351232 → ∃ k, spec_JPadded.f k a0 = some true
theorem spec_JPadded.walk (P : spec_JPadded.Pure) (a0 : ByteArray) (w : World) (w0 : a0.size ≤ 140737488351232) :
    Calls Tryd.prog 10 #[.string a0] w fun e w' => e = .returned (.bool true) ∧ Below w.heap.size w w' := by
  obtain ⟨k, h⟩ := P a0 w0
  refine (spec_JPadded.calls k a0 true w h).mono ?_
  rintro e w' ⟨rfl, hd⟩
  exact ⟨rfl, hd.below⟩

end Go.Proofs.YtfnnahopbghndaaDoor.PJPadded
