-- PRINTED BY print.sh 35421559b90ae4d0a3588c463048766b98c2df88dd9212a6774a882060cdf62d: not written by this session
import Derived.Test.YtdjmjgdafghdgaaPFnJRelativex0
import Derived.Test.YtdjmjgdafghdgaaPFnJRelativex2
namespace Go.Proofs.Ytdjmjgdafghdgaa.PFnJRelative
open Go.RowKit Go.Proofs.YtdjmjgdafghdgaaW.PrintWords Go.Proofs.YtdjmjgdafghdgaaW.PrintLast Go.Proofs.YtdjmjgdafghdgaaW.PrintMore
attribute [local go_sem] max2_int min2_int max_two min_two max_three min_three max_four min_four   -- for this text's walks alone
set_option linter.unusedVariables false
set_option linter.unusedSimpArgs false

/-! ### spec_JRelative: function 25 -/
def spec_JRelative.l0 : Nat → ByteArray → Int → Option (Bool)
  | 0, _, _ => none
  | k + 1, x0, x3 => if x3 < (x0.size : Int) then (if 0 ≤ x3 then ((spec_jDigit.f (bt x0 x3)).bind fun t112 => (if t112 = true then (spec_JRelative.l0 k x0 (wrap64 (x3 + 1))) else (if x3 > 0 then (if x3 = 1 then (if x3 ≤ (x0.size : Int) then (if (x0.extract (x3 : Int).toNat x0.size).toList = ([35] : List UInt8) then (some true) else ((spec_JPointer.f k (x0.extract (x3 : Int).toNat x0.size)).bind fun t113 => (some t113))) else (none)) else (if 0 < (x0.size : Int) then (if (bt x0 0) = 48 then (some false) else (if x3 ≤ (x0.size : Int) then (if (x0.extract (x3 : Int).toNat x0.size).toList = ([35] : List UInt8) then (some true) else ((spec_JPointer.f k (x0.extract (x3 : Int).toNat x0.size)).bind fun t114 => (some t114))) else (none))) else (none))) else (some false)))) else (none)) else (if x3 > 0 then (if x3 = 1 then (if 0 ≤ x3 then (if x3 ≤ (x0.size : Int) then (if (x0.extract (x3 : Int).toNat x0.size).toList = ([35] : List UInt8) then (some true) else ((spec_JPointer.f k (x0.extract (x3 : Int).toNat x0.size)).bind fun t115 => (some t115))) else (none)) else (none)) else (if 0 < (x0.size : Int) then (if (bt x0 0) = 48 then (some false) else (if 0 ≤ x3 then (if x3 ≤ (x0.size : Int) then (if (x0.extract (x3 : Int).toNat x0.size).toList = ([35] : List UInt8) then (some true) else ((spec_JPointer.f k (x0.extract (x3 : Int).toNat x0.size)).bind fun t116 => (some t116))) else (none)) else (none))) else (none))) else (some false))
def spec_JRelative.f (k : Nat) (a0 : ByteArray) : Option (Bool) := spec_JRelative.l0 k a0 0
theorem spec_JRelative.mono_l : ∀ k, (∀ y0 y1, LeO (spec_JRelative.l0 k y0 y1) (spec_JRelative.l0 (k + 1) y0 y1))
  | 0 => fun _ _ r h => by simp [spec_JRelative.l0] at h
  | k + 1 => by
    have ih0 := spec_JRelative.mono_l k
    · intro y0 y1
      unfold spec_JRelative.l0
      repeat' first
      | (with_reducible exact ih0 _ _)
      | (with_reducible exact spec_JPointer.mono _ _)
      | (with_reducible exact LeO.refl _)
      | (with_reducible exact LeO.none _)
      | (with_reducible refine LeO.ite ?_ ?_)
      | (with_reducible refine LeO.bind ?_ (fun _ => ?_))
      | exact ih0 _ _
      | exact spec_JPointer.mono _ _
      | exact LeO.none _
      | refine LeO.ite ?_ ?_
      | refine LeO.bind ?_ (fun _ => ?_)
theorem spec_JRelative.mono : ∀ a0 k, LeO (spec_JRelative.f k a0) (spec_JRelative.f (k + 1) a0) := by
  intro a0 k
  have ih0 := spec_JRelative.mono_l k
  unfold spec_JRelative.f
  repeat' first
      | (with_reducible exact ih0 _ _)
      | (with_reducible exact spec_JPointer.mono _ _)
      | (with_reducible exact LeO.refl _)
      | (with_reducible exact LeO.none _)
      | (with_reducible refine LeO.ite ?_ ?_)
      | (with_reducible refine LeO.bind ?_ (fun _ => ?_))
      | exact ih0 _ _
      | exact spec_JPointer.mono _ _
      | exact LeO.none _
      | refine LeO.ite ?_ ?_
      | refine LeO.bind ?_ (fun _ => ?_)
set_option maxHeartbeats 8000000 in
set_option maxRecDepth 100000 in
theorem spec_JRelative.calls (k : Nat) (a0 : ByteArray) (r : Bool) (w : World) (h : spec_JRelative.f k a0 = some r) :
    Calls Try.prog 25 #[.string a0] w fun e w' => e = .returned (.bool r) ∧ Drawn0 w w' := by
  have H : (spec_JRelative.l0 k a0 0) = some r := h
  clear h
  have H' := Aside0.mk H
  clear H
  go_enter Try.func25, Try.ntmps25
  go_wp2
  go_loopg [3] k (fun kq v3 w' => ∃ (x3_1 : Int), v3 = .int .i64 x3_1 ∧ Aside0 (spec_JRelative.l0 kq a0 x3_1 = some r) ∧ Aside0 (kq ≤ k) ∧ Drawn0 w w')
  case atStart => exact ⟨(0), (by first | rfl | (simp; done) | (simp [*]; done)), H', ⟨Nat.le_refl _⟩, by repeat (first | exact Drawn0.refl _ | apply Drawn0.step)⟩
  case round =>
    clear H'
    obtain ⟨x3_1, rfl, HA, HK1, ⟨m1, rfl⟩⟩ := hrel
    cases gk with
    | zero => exact absurd HA.out (by simp [spec_JRelative.l0])
    | succ k1 =>
      have H := HA.out
      clear HA
      simp only [spec_JRelative.l0] at H
      by_cases c2 : x3_1 < (a0.size : Int)
      · rw [if_pos c2] at H
        have c2b0 : decide (x3_1 < (a0.size : Int)) = true := decide_eq_true c2
        clear c2
        by_cases c3 : 0 ≤ x3_1
        · rw [if_pos c3] at H
          have c3b0 : decide (0 ≤ x3_1) = true := decide_eq_true c3
          clear c3
          replace H := Option.bind_eq_some_iff.mp H
          obtain ⟨t112, A50, H⟩ := H
          replace H : (if t112 = true then (spec_JRelative.l0 k1 a0 (wrap64 (x3_1 + 1))) else (if x3_1 > 0 then (if x3_1 = 1 then (if x3_1 ≤ (a0.size : Int) then (if (a0.extract (x3_1 : Int).toNat a0.size).toList = ([35] : List UInt8) then (some true) else ((spec_JPointer.f k1 (a0.extract (x3_1 : Int).toNat a0.size)).bind fun t113 => (some t113))) else (none)) else (if 0 < (a0.size : Int) then (if (bt a0 0) = 48 then (some false) else (if x3_1 ≤ (a0.size : Int) then (if (a0.extract (x3_1 : Int).toNat a0.size).toList = ([35] : List UInt8) then (some true) else ((spec_JPointer.f k1 (a0.extract (x3_1 : Int).toNat a0.size)).bind fun t114 => (some t114))) else (none))) else (none))) else (some false))) = some r := H
          have A5 := Aside0.mk A50
          clear A50
          by_cases c6 : t112 = true
          · subst c6
            have H1 : (spec_JRelative.l0 k1 a0 (wrap64 (x3_1 + 1))) = some r := by rw [if_pos rfl] at H; exact H
            clear H
            have H := H1
            clear H1
            have H' := Aside0.mk H
            clear H
            have p4 : 0 ≤ (x3_1 : Int) := of_decide_eq_true (by first | (with_reducible assumption) | assumption)
            have q4 : x3_1 < (a0.size : Int) := of_decide_eq_true (by first | (with_reducible assumption) | assumption)
            have hx4 := bt_at a0 x3_1
            replace p4 := eq_true p4
            replace q4 := eq_true q4
            go_wp2_with (first | (go_at_call 40; (with_reducible refine (spec_jDigit.calls (bt a0 x3_1) true _ A5.out).mono ?_); rintro e w' ⟨rfl, ⟨nd, rfl⟩⟩))
            go_roundg k1
            case measure => have := HK1.out; omega
            case rel => exact ⟨(wrap64 (x3_1 + 1)), (by first | rfl | (simp; done) | (simp [*]; done)), H', ⟨by have := HK1.out; omega⟩, by repeat (first | exact Drawn0.refl _ | apply Drawn0.step)⟩
          · replace c6 := Bool.eq_false_iff.mpr c6
            subst c6
            have H1 : (if x3_1 > 0 then (if x3_1 = 1 then (if x3_1 ≤ (a0.size : Int) then (if (a0.extract (x3_1 : Int).toNat a0.size).toList = ([35] : List UInt8) then (some true) else ((spec_JPointer.f k1 (a0.extract (x3_1 : Int).toNat a0.size)).bind fun t113 => (some t113))) else (none)) else (if 0 < (a0.size : Int) then (if (bt a0 0) = 48 then (some false) else (if x3_1 ≤ (a0.size : Int) then (if (a0.extract (x3_1 : Int).toNat a0.size).toList = ([35] : List UInt8) then (some true) else ((spec_JPointer.f k1 (a0.extract (x3_1 : Int).toNat a0.size)).bind fun t114 => (some t114))) else (none))) else (none))) else (some false)) = some r := by rw [if_neg (show ¬ (false = true) by decide)] at H; exact H
            clear H
            have H := H1
            clear H1
            by_cases c7 : x3_1 > 0
            · rw [if_pos c7] at H
              have c7b0 : decide (0 < x3_1) = true := decide_eq_true c7
              clear c7
              by_cases c8 : x3_1 = 1
              · rw [if_pos c8] at H
                have c8b0 : (x3_1 == 1) = true := beq_iff_eq.mpr c8
                have c8b1 : (x3_1 != 1) = false := bne_eq_false_iff_eq.mpr c8
                clear c8
                have c9b0 := eq_true (of_decide_eq_true (by first | (with_reducible assumption) | assumption) : 0 ≤ x3_1)
                by_cases c10 : x3_1 ≤ (a0.size : Int)
                · rw [if_pos c10] at H
                  have c10b0 := eq_true c10
                  have c10b1 : decide (x3_1 ≤ (a0.size : Int)) = true := decide_eq_true c10
                  clear c10
                  by_cases c11 : (a0.extract (x3_1 : Int).toNat a0.size).toList = ([35] : List UInt8)
                  · rw [if_pos c11] at H
                    have c11b0 : ((a0.extract (x3_1 : Int).toNat a0.size).toList == ([35] : List UInt8)) = true := beq_iff_eq.mpr c11
                    have c11b1 : ((a0.extract (x3_1 : Int).toNat a0.size).toList != ([35] : List UInt8)) = false := bne_eq_false_iff_eq.mpr c11
                    clear c11
                    obtain rfl := Option.some.inj H
                    have p4 : 0 ≤ (x3_1 : Int) := of_decide_eq_true (by first | (with_reducible assumption) | assumption)
                    have q4 : x3_1 < (a0.size : Int) := of_decide_eq_true (by first | (with_reducible assumption) | assumption)
                    have hx4 := bt_at a0 x3_1
                    replace p4 := eq_true p4
                    replace q4 := eq_true q4
                    go_wp2_with (first | (go_at_call 40; (with_reducible refine (spec_jDigit.calls (bt a0 x3_1) false _ A5.out).mono ?_); rintro e w' ⟨rfl, ⟨nd, rfl⟩⟩))
                    go_ret
                    exact ⟨by first | rfl | (simp; done) | (simp [*]; done), by repeat (first | exact Drawn0.refl _ | apply Drawn0.step)⟩
                  · rw [if_neg c11] at H
                    have c11b0 : ((a0.extract (x3_1 : Int).toNat a0.size).toList == ([35] : List UInt8)) = false := beq_eq_false_iff_ne.mpr c11
                    have c11b1 : ((a0.extract (x3_1 : Int).toNat a0.size).toList != ([35] : List UInt8)) = true := bne_iff_ne.mpr c11
                    have c12b0 := eq_true (of_decide_eq_true (by first | (with_reducible assumption) | assumption) : 0 ≤ x3_1)
                    have c13b0 := eq_true (of_decide_eq_true (by first | (with_reducible assumption) | assumption) : x3_1 ≤ (a0.size : Int))
                    replace H := Option.bind_eq_some_iff.mp H
                    obtain ⟨t113, A140, H⟩ := H
                    replace H : (some t113) = some r := H
                    have A14 := Aside0.mk A140
                    clear A140
                    obtain rfl := Option.some.inj H
                    have p4 : 0 ≤ (x3_1 : Int) := of_decide_eq_true (by first | (with_reducible assumption) | assumption)
                    have q4 : x3_1 < (a0.size : Int) := of_decide_eq_true (by first | (with_reducible assumption) | assumption)
                    have hx4 := bt_at a0 x3_1
                    replace p4 := eq_true p4
                    replace q4 := eq_true q4
                    go_wp2_with (first | (go_at_call 40; (with_reducible refine (spec_jDigit.calls (bt a0 x3_1) false _ A5.out).mono ?_); rintro e w' ⟨rfl, ⟨nd, rfl⟩⟩) | (go_at_call 22; (with_reducible refine (spec_JPointer.calls k1 (a0.extract (x3_1 : Int).toNat a0.size) t113 _ A14.out).mono ?_); rintro e w' ⟨rfl, ⟨nd, rfl⟩⟩))
                    go_ret
                    exact ⟨by first | rfl | (simp; done) | (simp [*]; done), by repeat (first | exact Drawn0.refl _ | apply Drawn0.step)⟩
                · rw [if_neg c10] at H
                  exact absurd H (by simp)
              · rw [if_neg c8] at H
                have c8b0 : (x3_1 == 1) = false := beq_eq_false_iff_ne.mpr c8
                have c8b1 : (x3_1 != 1) = true := bne_iff_ne.mpr c8
                by_cases c15 : 0 < (a0.size : Int)
                · rw [if_pos c15] at H
                  have c15b0 : decide (0 < (a0.size : Int)) = true := decide_eq_true c15
                  have c15b1 : decide (0 < a0.size) = true := decide_eq_true (by omega)
                  clear c15
                  by_cases c17 : (bt a0 0) = 48
                  · rw [if_pos c17] at H
                    have c17b0 : ((bt a0 0) == 48) = true := beq_iff_eq.mpr c17
                    have c17b1 : ((bt a0 0) != 48) = false := bne_eq_false_iff_eq.mpr c17
                    clear c17
                    obtain rfl := Option.some.inj H
                    have p4 : 0 ≤ (x3_1 : Int) := of_decide_eq_true (by first | (with_reducible assumption) | assumption)
                    have q4 : x3_1 < (a0.size : Int) := of_decide_eq_true (by first | (with_reducible assumption) | assumption)
                    have hx4 := bt_at a0 x3_1
                    replace p4 := eq_true p4
                    replace q4 := eq_true q4
                    go_wp2_with (first | (go_at_call 40; (with_reducible refine (spec_jDigit.calls (bt a0 x3_1) false _ A5.out).mono ?_); rintro e w' ⟨rfl, ⟨nd, rfl⟩⟩; have p16 : 0 ≤ (0 : Int) := (by omega); have q16 : 0 < a0.size := (by have : (0 : Int) < (a0.size : Int) := of_decide_eq_true (by first | (with_reducible assumption) | assumption); omega); have hx16 : ∀ h : 0 < a0.size, ((a0[0]'h).toNat : Int) = bt a0 0 := bt_at a0 0; clear p16; have qi16 : (0 < (a0.size : Int)) = True := eq_true (of_decide_eq_true (by first | (with_reducible assumption) | assumption)); replace q16 := eq_true q16))
                    go_ret
                    exact ⟨by first | rfl | (simp; done) | (simp [*]; done), by repeat (first | exact Drawn0.refl _ | apply Drawn0.step)⟩
                  · rw [if_neg c17] at H
                    have c17b0 : ((bt a0 0) == 48) = false := beq_eq_false_iff_ne.mpr c17
                    have c17b1 : ((bt a0 0) != 48) = true := bne_iff_ne.mpr c17
                    have c18b0 := eq_true (of_decide_eq_true (by first | (with_reducible assumption) | assumption) : 0 ≤ x3_1)
                    by_cases c19 : x3_1 ≤ (a0.size : Int)
                    · rw [if_pos c19] at H
                      have c19b0 := eq_true c19
                      have c19b1 : decide (x3_1 ≤ (a0.size : Int)) = true := decide_eq_true c19
                      clear c19
                      by_cases c20 : (a0.extract (x3_1 : Int).toNat a0.size).toList = ([35] : List UInt8)
                      · rw [if_pos c20] at H
                        have c20b0 : ((a0.extract (x3_1 : Int).toNat a0.size).toList == ([35] : List UInt8)) = true := beq_iff_eq.mpr c20
                        have c20b1 : ((a0.extract (x3_1 : Int).toNat a0.size).toList != ([35] : List UInt8)) = false := bne_eq_false_iff_eq.mpr c20
                        clear c20
                        obtain rfl := Option.some.inj H
                        have p4 : 0 ≤ (x3_1 : Int) := of_decide_eq_true (by first | (with_reducible assumption) | assumption)
                        have q4 : x3_1 < (a0.size : Int) := of_decide_eq_true (by first | (with_reducible assumption) | assumption)
                        have hx4 := bt_at a0 x3_1
                        replace p4 := eq_true p4
                        replace q4 := eq_true q4
                        go_wp2_with (first | (go_at_call 40; (with_reducible refine (spec_jDigit.calls (bt a0 x3_1) false _ A5.out).mono ?_); rintro e w' ⟨rfl, ⟨nd, rfl⟩⟩; have p16 : 0 ≤ (0 : Int) := (by omega); have q16 : 0 < a0.size := (by have : (0 : Int) < (a0.size : Int) := of_decide_eq_true (by first | (with_reducible assumption) | assumption); omega); have hx16 : ∀ h : 0 < a0.size, ((a0[0]'h).toNat : Int) = bt a0 0 := bt_at a0 0; clear p16; have qi16 : (0 < (a0.size : Int)) = True := eq_true (of_decide_eq_true (by first | (with_reducible assumption) | assumption)); replace q16 := eq_true q16))
                        go_ret
                        exact ⟨by first | rfl | (simp; done) | (simp [*]; done), by repeat (first | exact Drawn0.refl _ | apply Drawn0.step)⟩
                      · rw [if_neg c20] at H
                        have c20b0 : ((a0.extract (x3_1 : Int).toNat a0.size).toList == ([35] : List UInt8)) = false := beq_eq_false_iff_ne.mpr c20
                        have c20b1 : ((a0.extract (x3_1 : Int).toNat a0.size).toList != ([35] : List UInt8)) = true := bne_iff_ne.mpr c20
                        have c21b0 := eq_true (of_decide_eq_true (by first | (with_reducible assumption) | assumption) : 0 ≤ x3_1)
                        have c22b0 := eq_true (of_decide_eq_true (by first | (with_reducible assumption) | assumption) : x3_1 ≤ (a0.size : Int))
                        replace H := Option.bind_eq_some_iff.mp H
                        obtain ⟨t114, A230, H⟩ := H
                        replace H : (some t114) = some r := H
                        have A23 := Aside0.mk A230
                        clear A230
                        obtain rfl := Option.some.inj H
                        have p4 : 0 ≤ (x3_1 : Int) := of_decide_eq_true (by first | (with_reducible assumption) | assumption)
                        have q4 : x3_1 < (a0.size : Int) := of_decide_eq_true (by first | (with_reducible assumption) | assumption)
                        have hx4 := bt_at a0 x3_1
                        replace p4 := eq_true p4
                        replace q4 := eq_true q4
                        go_wp2_with (first | (go_at_call 40; (with_reducible refine (spec_jDigit.calls (bt a0 x3_1) false _ A5.out).mono ?_); rintro e w' ⟨rfl, ⟨nd, rfl⟩⟩; have p16 : 0 ≤ (0 : Int) := (by omega); have q16 : 0 < a0.size := (by have : (0 : Int) < (a0.size : Int) := of_decide_eq_true (by first | (with_reducible assumption) | assumption); omega); have hx16 : ∀ h : 0 < a0.size, ((a0[0]'h).toNat : Int) = bt a0 0 := bt_at a0 0; clear p16; have qi16 : (0 < (a0.size : Int)) = True := eq_true (of_decide_eq_true (by first | (with_reducible assumption) | assumption)); replace q16 := eq_true q16) | (go_at_call 22; (with_reducible refine (spec_JPointer.calls k1 (a0.extract (x3_1 : Int).toNat a0.size) t114 _ A23.out).mono ?_); rintro e w' ⟨rfl, ⟨nd, rfl⟩⟩))
                        go_ret
                        exact ⟨by first | rfl | (simp; done) | (simp [*]; done), by repeat (first | exact Drawn0.refl _ | apply Drawn0.step)⟩
                    · rw [if_neg c19] at H
                      exact absurd H (by simp)
                · rw [if_neg c15] at H
                  exact absurd H (by simp)
            · rw [if_neg c7] at H
              have c7b0 : decide (0 < x3_1) = false := decide_eq_false c7
              clear c7
              obtain rfl := Option.some.inj H
              have p4 : 0 ≤ (x3_1 : Int) := of_decide_eq_true (by first | (with_reducible assumption) | assumption)
              have q4 : x3_1 < (a0.size : Int) := of_decide_eq_true (by first | (with_reducible assumption) | assumption)
              have hx4 := bt_at a0 x3_1
              replace p4 := eq_true p4
              replace q4 := eq_true q4
              go_wp2_with (first | (go_at_call 40; (with_reducible refine (spec_jDigit.calls (bt a0 x3_1) false _ A5.out).mono ?_); rintro e w' ⟨rfl, ⟨nd, rfl⟩⟩))
              go_ret
              exact ⟨by first | rfl | (simp; done) | (simp [*]; done), by repeat (first | exact Drawn0.refl _ | apply Drawn0.step)⟩
        · rw [if_neg c3] at H
          exact absurd H (by simp)
      · rw [if_neg c2] at H
        have c2b0 : decide (x3_1 < (a0.size : Int)) = false := decide_eq_false c2
        clear c2
        by_cases c24 : x3_1 > 0
        · rw [if_pos c24] at H
          have c24b0 : decide (0 < x3_1) = true := decide_eq_true c24
          clear c24
          by_cases c25 : x3_1 = 1
          · rw [if_pos c25] at H
            have c25b0 : (x3_1 == 1) = true := beq_iff_eq.mpr c25
            have c25b1 : (x3_1 != 1) = false := bne_eq_false_iff_eq.mpr c25
            clear c25
            by_cases c26 : 0 ≤ x3_1
            · rw [if_pos c26] at H
              have c26b0 := eq_true c26
              have c26b1 : decide (0 ≤ x3_1) = true := decide_eq_true c26
              clear c26
              by_cases c27 : x3_1 ≤ (a0.size : Int)
              · rw [if_pos c27] at H
                have c27b0 := eq_true c27
                have c27b1 : decide (x3_1 ≤ (a0.size : Int)) = true := decide_eq_true c27
                clear c27
                by_cases c28 : (a0.extract (x3_1 : Int).toNat a0.size).toList = ([35] : List UInt8)
                · rw [if_pos c28] at H
                  have c28b0 : ((a0.extract (x3_1 : Int).toNat a0.size).toList == ([35] : List UInt8)) = true := beq_iff_eq.mpr c28
                  have c28b1 : ((a0.extract (x3_1 : Int).toNat a0.size).toList != ([35] : List UInt8)) = false := bne_eq_false_iff_eq.mpr c28
                  clear c28
                  obtain rfl := Option.some.inj H
                  go_wp2
                  go_ret
                  exact ⟨by first | rfl | (simp; done) | (simp [*]; done), by repeat (first | exact Drawn0.refl _ | apply Drawn0.step)⟩
                · rw [if_neg c28] at H
                  have c28b0 : ((a0.extract (x3_1 : Int).toNat a0.size).toList == ([35] : List UInt8)) = false := beq_eq_false_iff_ne.mpr c28
                  have c28b1 : ((a0.extract (x3_1 : Int).toNat a0.size).toList != ([35] : List UInt8)) = true := bne_iff_ne.mpr c28
                  have c29b0 := eq_true (of_decide_eq_true (by first | (with_reducible assumption) | assumption) : 0 ≤ x3_1)
                  have c30b0 := eq_true (of_decide_eq_true (by first | (with_reducible assumption) | assumption) : x3_1 ≤ (a0.size : Int))
                  replace H := Option.bind_eq_some_iff.mp H
                  obtain ⟨t115, A310, H⟩ := H
                  replace H : (some t115) = some r := H
                  have A31 := Aside0.mk A310
                  clear A310
                  obtain rfl := Option.some.inj H
                  go_wp2_with (first | (go_at_call 22; (with_reducible refine (spec_JPointer.calls k1 (a0.extract (x3_1 : Int).toNat a0.size) t115 _ A31.out).mono ?_); rintro e w' ⟨rfl, ⟨nd, rfl⟩⟩))
                  go_ret
                  exact ⟨by first | rfl | (simp; done) | (simp [*]; done), by repeat (first | exact Drawn0.refl _ | apply Drawn0.step)⟩
              · rw [if_neg c27] at H
                exact absurd H (by simp)
            · rw [if_neg c26] at H
              exact absurd H (by simp)
          · rw [if_neg c25] at H
            have c25b0 : (x3_1 == 1) = false := beq_eq_false_iff_ne.mpr c25
            have c25b1 : (x3_1 != 1) = true := bne_iff_ne.mpr c25
            by_cases c32 : 0 < (a0.size : Int)
            · rw [if_pos c32] at H
              have c32b0 : decide (0 < (a0.size : Int)) = true := decide_eq_true c32
              have c32b1 : decide (0 < a0.size) = true := decide_eq_true (by omega)
              clear c32
              by_cases c34 : (bt a0 0) = 48
              · rw [if_pos c34] at H
                have c34b0 : ((bt a0 0) == 48) = true := beq_iff_eq.mpr c34
                have c34b1 : ((bt a0 0) != 48) = false := bne_eq_false_iff_eq.mpr c34
                clear c34
                obtain rfl := Option.some.inj H
                have p33 : 0 ≤ (0 : Int) := (by omega)
                have q33 : 0 < a0.size := (by have : (0 : Int) < (a0.size : Int) := of_decide_eq_true (by first | (with_reducible assumption) | assumption); omega)
                have hx33 : ∀ h : 0 < a0.size, ((a0[0]'h).toNat : Int) = bt a0 0 := bt_at a0 0
                clear p33
                have qi33 : (0 < (a0.size : Int)) = True := eq_true (of_decide_eq_true (by first | (with_reducible assumption) | assumption))
                replace q33 := eq_true q33
                go_wp2
                go_ret
                exact ⟨by first | rfl | (simp; done) | (simp [*]; done), by repeat (first | exact Drawn0.refl _ | apply Drawn0.step)⟩
              · rw [if_neg c34] at H
                have c34b0 : ((bt a0 0) == 48) = false := beq_eq_false_iff_ne.mpr c34
                have c34b1 : ((bt a0 0) != 48) = true := bne_iff_ne.mpr c34
                by_cases c35 : 0 ≤ x3_1
                · rw [if_pos c35] at H
                  have c35b0 := eq_true c35
                  have c35b1 : decide (0 ≤ x3_1) = true := decide_eq_true c35
                  clear c35
                  by_cases c36 : x3_1 ≤ (a0.size : Int)
                  · rw [if_pos c36] at H
                    have c36b0 := eq_true c36
                    have c36b1 : decide (x3_1 ≤ (a0.size : Int)) = true := decide_eq_true c36
                    clear c36
                    by_cases c37 : (a0.extract (x3_1 : Int).toNat a0.size).toList = ([35] : List UInt8)
                    · rw [if_pos c37] at H
                      have c37b0 : ((a0.extract (x3_1 : Int).toNat a0.size).toList == ([35] : List UInt8)) = true := beq_iff_eq.mpr c37
                      have c37b1 : ((a0.extract (x3_1 : Int).toNat a0.size).toList != ([35] : List UInt8)) = false := bne_eq_false_iff_eq.mpr c37
                      clear c37
                      obtain rfl := Option.some.inj H
                      have p33 : 0 ≤ (0 : Int) := (by omega)
                      have q33 : 0 < a0.size := (by have : (0 : Int) < (a0.size : Int) := of_decide_eq_true (by first | (with_reducible assumption) | assumption); omega)
                      have hx33 : ∀ h : 0 < a0.size, ((a0[0]'h).toNat : Int) = bt a0 0 := bt_at a0 0
                      clear p33
                      have qi33 : (0 < (a0.size : Int)) = True := eq_true (of_decide_eq_true (by first | (with_reducible assumption) | assumption))
                      replace q33 := eq_true q33
                      go_wp2
                      go_ret
                      exact ⟨by first | rfl | (simp; done) | (simp [*]; done), by repeat (first | exact Drawn0.refl _ | apply Drawn0.step)⟩
                    · rw [if_neg c37] at H
                      have c37b0 : ((a0.extract (x3_1 : Int).toNat a0.size).toList == ([35] : List UInt8)) = false := beq_eq_false_iff_ne.mpr c37
                      have c37b1 : ((a0.extract (x3_1 : Int).toNat a0.size).toList != ([35] : List UInt8)) = true := bne_iff_ne.mpr c37
                      have c38b0 := eq_true (of_decide_eq_true (by first | (with_reducible assumption) | assumption) : 0 ≤ x3_1)
                      have c39b0 := eq_true (of_decide_eq_true (by first | (with_reducible assumption) | assumption) : x3_1 ≤ (a0.size : Int))
                      replace H := Option.bind_eq_some_iff.mp H
                      obtain ⟨t116, A400, H⟩ := H
                      replace H : (some t116) = some r := H
                      have A40 := Aside0.mk A400
                      clear A400
                      obtain rfl := Option.some.inj H
                      have p33 : 0 ≤ (0 : Int) := (by omega)
                      have q33 : 0 < a0.size := (by have : (0 : Int) < (a0.size : Int) := of_decide_eq_true (by first | (with_reducible assumption) | assumption); omega)
                      have hx33 : ∀ h : 0 < a0.size, ((a0[0]'h).toNat : Int) = bt a0 0 := bt_at a0 0
                      clear p33
                      have qi33 : (0 < (a0.size : Int)) = True := eq_true (of_decide_eq_true (by first | (with_reducible assumption) | assumption))
                      replace q33 := eq_true q33
                      go_wp2_with (first | (go_at_call 22; (with_reducible refine (spec_JPointer.calls k1 (a0.extract (x3_1 : Int).toNat a0.size) t116 _ A40.out).mono ?_); rintro e w' ⟨rfl, ⟨nd, rfl⟩⟩))
                      go_ret
                      exact ⟨by first | rfl | (simp; done) | (simp [*]; done), by repeat (first | exact Drawn0.refl _ | apply Drawn0.step)⟩
                  · rw [if_neg c36] at H
                    exact absurd H (by simp)
                · rw [if_neg c35] at H
                  exact absurd H (by simp)
            · rw [if_neg c32] at H
              exact absurd H (by simp)
        · rw [if_neg c24] at H
          have c24b0 : decide (0 < x3_1) = false := decide_eq_false c24
          clear c24
          obtain rfl := Option.some.inj H
          go_wp2
          go_ret
          exact ⟨by first | rfl | (simp; done) | (simp [*]; done), by repeat (first | exact Drawn0.refl _ | apply Drawn0.step)⟩

-- NOT PRINTED: function 8 (laws_FnJRelative)

end Go.Proofs.Ytdjmjgdafghdgaa.PFnJRelative
