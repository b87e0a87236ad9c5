-- PRINTED BY print.sh 35421559b90ae4d0a3588c463048766b98c2df88dd9212a6774a882060cdf62d: not written by this session
import Derived.Test.YtfnnahopbghndaaDoorPJEmailx0
namespace Go.Proofs.YtfnnahopbghndaaDoor.PJEmail
open Go.RowKit Go.Proofs.YtfnnahopbghndaaDoorW.PrintWords Go.Proofs.YtfnnahopbghndaaDoorW.PrintLast Go.Proofs.YtfnnahopbghndaaDoorW.PrintMore
attribute [local go_sem] max2_int min2_int max_two min_two max_three min_three max_four min_four   -- for this text's walks alone
set_option linter.unusedVariables false
set_option linter.unusedSimpArgs false

/-! ### spec_jDigit: function 26 -/
def spec_jDigit.f (a0 : Int) : Option (Bool) := if a0 ≥ 48 then (some (decide (a0 ≤ 57))) else (some false)
set_option maxHeartbeats 8000000 in
set_option maxRecDepth 100000 in
theorem spec_jDigit.calls (a0 : Int) (r : Bool) (w : World) (h : spec_jDigit.f a0 = some r) :
    Calls Tryd.prog 26 #[.int .u8 a0] w fun e w' => e = .returned (.bool r) ∧ Drawn0 w w' := by
  have H : (if a0 ≥ 48 then (some (decide (a0 ≤ 57))) else (some false)) = some r := h
  clear h
  by_cases c2 : a0 ≥ 48
  · rw [if_pos c2] at H
    have c2b0 : decide (48 ≤ a0) = true := decide_eq_true c2
    clear c2
    obtain rfl := Option.some.inj H
    go_enter Tryd.func26, Tryd.ntmps26
    go_wp2
    go_ret
    exact ⟨by first | rfl | (simp; done) | (simp [*]; done), by repeat (first | exact Drawn0.refl _ | apply Drawn0.step)⟩
  · rw [if_neg c2] at H
    have c2b0 : decide (48 ≤ a0) = false := decide_eq_false c2
    clear c2
    obtain rfl := Option.some.inj H
    go_enter Tryd.func26, Tryd.ntmps26
    go_wp2
    go_ret
    exact ⟨by first | rfl | (simp; done) | (simp [*]; done), by repeat (first | exact Drawn0.refl _ | apply Drawn0.step)⟩

/-! ### spec_jLetter: function 42 -/
def spec_jLetter.f (a0 : Int) : Option (Bool) := if a0 ≥ 97 then (if a0 ≤ 122 then (some true) else (if a0 ≥ 65 then (some (decide (a0 ≤ 90))) else (some false))) else (if a0 ≥ 65 then (some (decide (a0 ≤ 90))) else (some false))
set_option maxHeartbeats 8000000 in
set_option maxRecDepth 100000 in
theorem spec_jLetter.calls (a0 : Int) (r : Bool) (w : World) (h : spec_jLetter.f a0 = some r) :
    Calls Tryd.prog 42 #[.int .u8 a0] w fun e w' => e = .returned (.bool r) ∧ Drawn0 w w' := by
  have H : (if a0 ≥ 97 then (if a0 ≤ 122 then (some true) else (if a0 ≥ 65 then (some (decide (a0 ≤ 90))) else (some false))) else (if a0 ≥ 65 then (some (decide (a0 ≤ 90))) else (some false))) = some r := h
  clear h
  by_cases c2 : a0 ≥ 97
  · rw [if_pos c2] at H
    have c2b0 : decide (97 ≤ a0) = true := decide_eq_true c2
    clear c2
    by_cases c3 : a0 ≤ 122
    · rw [if_pos c3] at H
      have c3b0 : decide (a0 ≤ 122) = true := decide_eq_true c3
      clear c3
      obtain rfl := Option.some.inj H
      go_enter Tryd.func42, Tryd.ntmps42
      go_wp2
      go_ret
      exact ⟨by first | rfl | (simp; done) | (simp [*]; done), by repeat (first | exact Drawn0.refl _ | apply Drawn0.step)⟩
    · rw [if_neg c3] at H
      have c3b0 : decide (a0 ≤ 122) = false := decide_eq_false c3
      clear c3
      by_cases c4 : a0 ≥ 65
      · rw [if_pos c4] at H
        have c4b0 : decide (65 ≤ a0) = true := decide_eq_true c4
        clear c4
        obtain rfl := Option.some.inj H
        go_enter Tryd.func42, Tryd.ntmps42
        go_wp2
        go_ret
        exact ⟨by first | rfl | (simp; done) | (simp [*]; done), by repeat (first | exact Drawn0.refl _ | apply Drawn0.step)⟩
      · rw [if_neg c4] at H
        have c4b0 : decide (65 ≤ a0) = false := decide_eq_false c4
        clear c4
        obtain rfl := Option.some.inj H
        go_enter Tryd.func42, Tryd.ntmps42
        go_wp2
        go_ret
        exact ⟨by first | rfl | (simp; done) | (simp [*]; done), by repeat (first | exact Drawn0.refl _ | apply Drawn0.step)⟩
  · rw [if_neg c2] at H
    have c2b0 : decide (97 ≤ a0) = false := decide_eq_false c2
    clear c2
    by_cases c5 : a0 ≥ 65
    · rw [if_pos c5] at H
      have c5b0 : decide (65 ≤ a0) = true := decide_eq_true c5
      clear c5
      obtain rfl := Option.some.inj H
      go_enter Tryd.func42, Tryd.ntmps42
      go_wp2
      go_ret
      exact ⟨by first | rfl | (simp; done) | (simp [*]; done), by repeat (first | exact Drawn0.refl _ | apply Drawn0.step)⟩
    · rw [if_neg c5] at H
      have c5b0 : decide (65 ≤ a0) = false := decide_eq_false c5
      clear c5
      obtain rfl := Option.some.inj H
      go_enter Tryd.func42, Tryd.ntmps42
      go_wp2
      go_ret
      exact ⟨by first | rfl | (simp; done) | (simp [*]; done), by repeat (first | exact Drawn0.refl _ | apply Drawn0.step)⟩

/-! ### spec_jSpecial: function 43 -/
def spec_jSpecial.f (a0 : Int) : Option (Bool) := if a0 = 33 then (some true) else (if a0 = 35 then (some true) else (if a0 = 36 then (some true) else (if a0 = 37 then (some true) else (if a0 = 38 then (some true) else (if a0 = 39 then (some true) else (if a0 = 42 then (some true) else (if a0 = 43 then (some true) else (if a0 = 45 then (some true) else (if a0 = 47 then (some true) else (if a0 = 61 then (some true) else (if a0 = 63 then (some true) else (if a0 = 94 then (some true) else (if a0 = 95 then (some true) else (if a0 = 96 then (some true) else (if a0 = 123 then (some true) else (if a0 = 124 then (some true) else (if a0 = 125 then (some true) else (if a0 = 126 then (some true) else (some false)))))))))))))))))))
set_option maxHeartbeats 8000000 in
set_option maxRecDepth 100000 in
theorem spec_jSpecial.calls (a0 : Int) (r : Bool) (w : World) (h : spec_jSpecial.f a0 = some r) :
    Calls Tryd.prog 43 #[.int .u8 a0] w fun e w' => e = .returned (.bool r) ∧ Drawn0 w w' := by
  have H : (if a0 = 33 then (some true) else (if a0 = 35 then (some true) else (if a0 = 36 then (some true) else (if a0 = 37 then (some true) else (if a0 = 38 then (some true) else (if a0 = 39 then (some true) else (if a0 = 42 then (some true) else (if a0 = 43 then (some true) else (if a0 = 45 then (some true) else (if a0 = 47 then (some true) else (if a0 = 61 then (some true) else (if a0 = 63 then (some true) else (if a0 = 94 then (some true) else (if a0 = 95 then (some true) else (if a0 = 96 then (some true) else (if a0 = 123 then (some true) else (if a0 = 124 then (some true) else (if a0 = 125 then (some true) else (if a0 = 126 then (some true) else (some false)))))))))))))))))))) = some r := h
  clear h
  by_cases c2 : a0 = 33
  · rw [if_pos c2] at H
    have c2b0 : (a0 == 33) = true := beq_iff_eq.mpr c2
    have c2b1 : (a0 != 33) = false := bne_eq_false_iff_eq.mpr c2
    clear c2
    obtain rfl := Option.some.inj H
    go_enter Tryd.func43, Tryd.ntmps43
    go_wp2
    go_ret
    exact ⟨by first | rfl | (simp; done) | (simp [*]; done), by repeat (first | exact Drawn0.refl _ | apply Drawn0.step)⟩
  · rw [if_neg c2] at H
    have c2b0 : (a0 == 33) = false := beq_eq_false_iff_ne.mpr c2
    have c2b1 : (a0 != 33) = true := bne_iff_ne.mpr c2
    by_cases c3 : a0 = 35
    · rw [if_pos c3] at H
      have c3b0 : (a0 == 35) = true := beq_iff_eq.mpr c3
      have c3b1 : (a0 != 35) = false := bne_eq_false_iff_eq.mpr c3
      clear c3
      obtain rfl := Option.some.inj H
      go_enter Tryd.func43, Tryd.ntmps43
      go_wp2
      go_ret
      exact ⟨by first | rfl | (simp; done) | (simp [*]; done), by repeat (first | exact Drawn0.refl _ | apply Drawn0.step)⟩
    · rw [if_neg c3] at H
      have c3b0 : (a0 == 35) = false := beq_eq_false_iff_ne.mpr c3
      have c3b1 : (a0 != 35) = true := bne_iff_ne.mpr c3
      by_cases c4 : a0 = 36
      · rw [if_pos c4] at H
        have c4b0 : (a0 == 36) = true := beq_iff_eq.mpr c4
        have c4b1 : (a0 != 36) = false := bne_eq_false_iff_eq.mpr c4
        clear c4
        obtain rfl := Option.some.inj H
        go_enter Tryd.func43, Tryd.ntmps43
        go_wp2
        go_ret
        exact ⟨by first | rfl | (simp; done) | (simp [*]; done), by repeat (first | exact Drawn0.refl _ | apply Drawn0.step)⟩
      · rw [if_neg c4] at H
        have c4b0 : (a0 == 36) = false := beq_eq_false_iff_ne.mpr c4
        have c4b1 : (a0 != 36) = true := bne_iff_ne.mpr c4
        by_cases c5 : a0 = 37
        · rw [if_pos c5] at H
          have c5b0 : (a0 == 37) = true := beq_iff_eq.mpr c5
          have c5b1 : (a0 != 37) = false := bne_eq_false_iff_eq.mpr c5
          clear c5
          obtain rfl := Option.some.inj H
          go_enter Tryd.func43, Tryd.ntmps43
          go_wp2
          go_ret
          exact ⟨by first | rfl | (simp; done) | (simp [*]; done), by repeat (first | exact Drawn0.refl _ | apply Drawn0.step)⟩
        · rw [if_neg c5] at H
          have c5b0 : (a0 == 37) = false := beq_eq_false_iff_ne.mpr c5
          have c5b1 : (a0 != 37) = true := bne_iff_ne.mpr c5
          by_cases c6 : a0 = 38
          · rw [if_pos c6] at H
            have c6b0 : (a0 == 38) = true := beq_iff_eq.mpr c6
            have c6b1 : (a0 != 38) = false := bne_eq_false_iff_eq.mpr c6
            clear c6
            obtain rfl := Option.some.inj H
            go_enter Tryd.func43, Tryd.ntmps43
            go_wp2
            go_ret
            exact ⟨by first | rfl | (simp; done) | (simp [*]; done), by repeat (first | exact Drawn0.refl _ | apply Drawn0.step)⟩
          · rw [if_neg c6] at H
            have c6b0 : (a0 == 38) = false := beq_eq_false_iff_ne.mpr c6
            have c6b1 : (a0 != 38) = true := bne_iff_ne.mpr c6
            by_cases c7 : a0 = 39
            · rw [if_pos c7] at H
              have c7b0 : (a0 == 39) = true := beq_iff_eq.mpr c7
              have c7b1 : (a0 != 39) = false := bne_eq_false_iff_eq.mpr c7
              clear c7
              obtain rfl := Option.some.inj H
              go_enter Tryd.func43, Tryd.ntmps43
              go_wp2
              go_ret
              exact ⟨by first | rfl | (simp; done) | (simp [*]; done), by repeat (first | exact Drawn0.refl _ | apply Drawn0.step)⟩
            · rw [if_neg c7] at H
              have c7b0 : (a0 == 39) = false := beq_eq_false_iff_ne.mpr c7
              have c7b1 : (a0 != 39) = true := bne_iff_ne.mpr c7
              by_cases c8 : a0 = 42
              · rw [if_pos c8] at H
                have c8b0 : (a0 == 42) = true := beq_iff_eq.mpr c8
                have c8b1 : (a0 != 42) = false := bne_eq_false_iff_eq.mpr c8
                clear c8
                obtain rfl := Option.some.inj H
                go_enter Tryd.func43, Tryd.ntmps43
                go_wp2
                go_ret
                exact ⟨by first | rfl | (simp; done) | (simp [*]; done), by repeat (first | exact Drawn0.refl _ | apply Drawn0.step)⟩
              · rw [if_neg c8] at H
                have c8b0 : (a0 == 42) = false := beq_eq_false_iff_ne.mpr c8
                have c8b1 : (a0 != 42) = true := bne_iff_ne.mpr c8
                by_cases c9 : a0 = 43
                · rw [if_pos c9] at H
                  have c9b0 : (a0 == 43) = true := beq_iff_eq.mpr c9
                  have c9b1 : (a0 != 43) = false := bne_eq_false_iff_eq.mpr c9
                  clear c9
                  obtain rfl := Option.some.inj H
                  go_enter Tryd.func43, Tryd.ntmps43
                  go_wp2
                  go_ret
                  exact ⟨by first | rfl | (simp; done) | (simp [*]; done), by repeat (first | exact Drawn0.refl _ | apply Drawn0.step)⟩
                · rw [if_neg c9] at H
                  have c9b0 : (a0 == 43) = false := beq_eq_false_iff_ne.mpr c9
                  have c9b1 : (a0 != 43) = true := bne_iff_ne.mpr c9
                  by_cases c10 : a0 = 45
                  · rw [if_pos c10] at H
                    have c10b0 : (a0 == 45) = true := beq_iff_eq.mpr c10
                    have c10b1 : (a0 != 45) = false := bne_eq_false_iff_eq.mpr c10
                    clear c10
                    obtain rfl := Option.some.inj H
                    go_enter Tryd.func43, Tryd.ntmps43
                    go_wp2
                    go_ret
                    exact ⟨by first | rfl | (simp; done) | (simp [*]; done), by repeat (first | exact Drawn0.refl _ | apply Drawn0.step)⟩
                  · rw [if_neg c10] at H
                    have c10b0 : (a0 == 45) = false := beq_eq_false_iff_ne.mpr c10
                    have c10b1 : (a0 != 45) = true := bne_iff_ne.mpr c10
                    by_cases c11 : a0 = 47
                    · rw [if_pos c11] at H
                      have c11b0 : (a0 == 47) = true := beq_iff_eq.mpr c11
                      have c11b1 : (a0 != 47) = false := bne_eq_false_iff_eq.mpr c11
                      clear c11
                      obtain rfl := Option.some.inj H
                      go_enter Tryd.func43, Tryd.ntmps43
                      go_wp2
                      go_ret
                      exact ⟨by first | rfl | (simp; done) | (simp [*]; done), by repeat (first | exact Drawn0.refl _ | apply Drawn0.step)⟩
                    · rw [if_neg c11] at H
                      have c11b0 : (a0 == 47) = false := beq_eq_false_iff_ne.mpr c11
                      have c11b1 : (a0 != 47) = true := bne_iff_ne.mpr c11
                      by_cases c12 : a0 = 61
                      · rw [if_pos c12] at H
                        have c12b0 : (a0 == 61) = true := beq_iff_eq.mpr c12
                        have c12b1 : (a0 != 61) = false := bne_eq_false_iff_eq.mpr c12
                        clear c12
                        obtain rfl := Option.some.inj H
                        go_enter Tryd.func43, Tryd.ntmps43
                        go_wp2
                        go_ret
                        exact ⟨by first | rfl | (simp; done) | (simp [*]; done), by repeat (first | exact Drawn0.refl _ | apply Drawn0.step)⟩
                      · rw [if_neg c12] at H
                        have c12b0 : (a0 == 61) = false := beq_eq_false_iff_ne.mpr c12
                        have c12b1 : (a0 != 61) = true := bne_iff_ne.mpr c12
                        by_cases c13 : a0 = 63
                        · rw [if_pos c13] at H
                          have c13b0 : (a0 == 63) = true := beq_iff_eq.mpr c13
                          have c13b1 : (a0 != 63) = false := bne_eq_false_iff_eq.mpr c13
                          clear c13
                          obtain rfl := Option.some.inj H
                          go_enter Tryd.func43, Tryd.ntmps43
                          go_wp2
                          go_ret
                          exact ⟨by first | rfl | (simp; done) | (simp [*]; done), by repeat (first | exact Drawn0.refl _ | apply Drawn0.step)⟩
                        · rw [if_neg c13] at H
                          have c13b0 : (a0 == 63) = false := beq_eq_false_iff_ne.mpr c13
                          have c13b1 : (a0 != 63) = true := bne_iff_ne.mpr c13
                          by_cases c14 : a0 = 94
                          · rw [if_pos c14] at H
                            have c14b0 : (a0 == 94) = true := beq_iff_eq.mpr c14
                            have c14b1 : (a0 != 94) = false := bne_eq_false_iff_eq.mpr c14
                            clear c14
                            obtain rfl := Option.some.inj H
                            go_enter Tryd.func43, Tryd.ntmps43
                            go_wp2
                            go_ret
                            exact ⟨by first | rfl | (simp; done) | (simp [*]; done), by repeat (first | exact Drawn0.refl _ | apply Drawn0.step)⟩
                          · rw [if_neg c14] at H
                            have c14b0 : (a0 == 94) = false := beq_eq_false_iff_ne.mpr c14
                            have c14b1 : (a0 != 94) = true := bne_iff_ne.mpr c14
                            by_cases c15 : a0 = 95
                            · rw [if_pos c15] at H
                              have c15b0 : (a0 == 95) = true := beq_iff_eq.mpr c15
                              have c15b1 : (a0 != 95) = false := bne_eq_false_iff_eq.mpr c15
                              clear c15
                              obtain rfl := Option.some.inj H
                              go_enter Tryd.func43, Tryd.ntmps43
                              go_wp2
                              go_ret
                              exact ⟨by first | rfl | (simp; done) | (simp [*]; done), by repeat (first | exact Drawn0.refl _ | apply Drawn0.step)⟩
                            · rw [if_neg c15] at H
                              have c15b0 : (a0 == 95) = false := beq_eq_false_iff_ne.mpr c15
                              have c15b1 : (a0 != 95) = true := bne_iff_ne.mpr c15
                              by_cases c16 : a0 = 96
                              · rw [if_pos c16] at H
                                have c16b0 : (a0 == 96) = true := beq_iff_eq.mpr c16
                                have c16b1 : (a0 != 96) = false := bne_eq_false_iff_eq.mpr c16
                                clear c16
                                obtain rfl := Option.some.inj H
                                go_enter Tryd.func43, Tryd.ntmps43
                                go_wp2
                                go_ret
                                exact ⟨by first | rfl | (simp; done) | (simp [*]; done), by repeat (first | exact Drawn0.refl _ | apply Drawn0.step)⟩
                              · rw [if_neg c16] at H
                                have c16b0 : (a0 == 96) = false := beq_eq_false_iff_ne.mpr c16
                                have c16b1 : (a0 != 96) = true := bne_iff_ne.mpr c16
                                by_cases c17 : a0 = 123
                                · rw [if_pos c17] at H
                                  have c17b0 : (a0 == 123) = true := beq_iff_eq.mpr c17
                                  have c17b1 : (a0 != 123) = false := bne_eq_false_iff_eq.mpr c17
                                  clear c17
                                  obtain rfl := Option.some.inj H
                                  go_enter Tryd.func43, Tryd.ntmps43
                                  go_wp2
                                  go_ret
                                  exact ⟨by first | rfl | (simp; done) | (simp [*]; done), by repeat (first | exact Drawn0.refl _ | apply Drawn0.step)⟩
                                · rw [if_neg c17] at H
                                  have c17b0 : (a0 == 123) = false := beq_eq_false_iff_ne.mpr c17
                                  have c17b1 : (a0 != 123) = true := bne_iff_ne.mpr c17
                                  by_cases c18 : a0 = 124
                                  · rw [if_pos c18] at H
                                    have c18b0 : (a0 == 124) = true := beq_iff_eq.mpr c18
                                    have c18b1 : (a0 != 124) = false := bne_eq_false_iff_eq.mpr c18
                                    clear c18
                                    obtain rfl := Option.some.inj H
                                    go_enter Tryd.func43, Tryd.ntmps43
                                    go_wp2
                                    go_ret
                                    exact ⟨by first | rfl | (simp; done) | (simp [*]; done), by repeat (first | exact Drawn0.refl _ | apply Drawn0.step)⟩
                                  · rw [if_neg c18] at H
                                    have c18b0 : (a0 == 124) = false := beq_eq_false_iff_ne.mpr c18
                                    have c18b1 : (a0 != 124) = true := bne_iff_ne.mpr c18
                                    by_cases c19 : a0 = 125
                                    · rw [if_pos c19] at H
                                      have c19b0 : (a0 == 125) = true := beq_iff_eq.mpr c19
                                      have c19b1 : (a0 != 125) = false := bne_eq_false_iff_eq.mpr c19
                                      clear c19
                                      obtain rfl := Option.some.inj H
                                      go_enter Tryd.func43, Tryd.ntmps43
                                      go_wp2
                                      go_ret
                                      exact ⟨by first | rfl | (simp; done) | (simp [*]; done), by repeat (first | exact Drawn0.refl _ | apply Drawn0.step)⟩
                                    · rw [if_neg c19] at H
                                      have c19b0 : (a0 == 125) = false := beq_eq_false_iff_ne.mpr c19
                                      have c19b1 : (a0 != 125) = true := bne_iff_ne.mpr c19
                                      by_cases c20 : a0 = 126
                                      · rw [if_pos c20] at H
                                        have c20b0 : (a0 == 126) = true := beq_iff_eq.mpr c20
                                        have c20b1 : (a0 != 126) = false := bne_eq_false_iff_eq.mpr c20
                                        clear c20
                                        obtain rfl := Option.some.inj H
                                        go_enter Tryd.func43, Tryd.ntmps43
                                        go_wp2
                                        go_ret
                                        exact ⟨by first | rfl | (simp; done) | (simp [*]; done), by repeat (first | exact Drawn0.refl _ | apply Drawn0.step)⟩
                                      · rw [if_neg c20] at H
                                        have c20b0 : (a0 == 126) = false := beq_eq_false_iff_ne.mpr c20
                                        have c20b1 : (a0 != 126) = true := bne_iff_ne.mpr c20
                                        obtain rfl := Option.some.inj H
                                        go_enter Tryd.func43, Tryd.ntmps43
                                        go_wp2
                                        go_ret
                                        exact ⟨by first | rfl | (simp; done) | (simp [*]; done), by repeat (first | exact Drawn0.refl _ | apply Drawn0.step)⟩

/-! ### spec_jDotted: function 36 -/
mutual
def spec_jDotted.l0 : Nat → ByteArray → Int → Int → Option (Bool)
  | 0, _, _, _ => none
  | k + 1, x0, x3, x4 => if x4 ≤ (x0.size : Int) then (if x4 = (x0.size : Int) then (spec_jDotted.j1 k x0 x3 x4 true) else (if 0 ≤ x4 then (if x4 < (x0.size : Int) then (spec_jDotted.j1 k x0 x3 x4 ((bt x0 x4) == 46)) else (none)) else (none))) else (some true)
def spec_jDotted.j1 : Nat → ByteArray → Int → Int → Bool → Option (Bool)
  | 0, _, _, _, _ => none
  | k + 1, x0, x3, x4, x20 => if x20 = true then (if x4 = x3 then (some false) else (spec_jDotted.l0 k x0 (wrap64 (x4 + 1)) (wrap64 (x4 + 1)))) else (if 0 ≤ x4 then (if x4 < (x0.size : Int) then ((spec_jLetter.f (bt x0 x4)).bind fun t101 => (if t101 = true then (spec_jDotted.l0 k x0 x3 (wrap64 (x4 + 1))) else ((spec_jDigit.f (bt x0 x4)).bind fun t102 => (if t102 = true then (spec_jDotted.l0 k x0 x3 (wrap64 (x4 + 1))) else ((spec_jSpecial.f (bt x0 x4)).bind fun t103 => (if t103 = true then (spec_jDotted.l0 k x0 x3 (wrap64 (x4 + 1))) else (some false))))))) else (none)) else (none))
end
def spec_jDotted.f (k : Nat) (a0 : ByteArray) : Option (Bool) := spec_jDotted.l0 k a0 0 0
theorem spec_jDotted.mono_l : ∀ k, (∀ y0 y1 y2, LeO (spec_jDotted.l0 k y0 y1 y2) (spec_jDotted.l0 (k + 1) y0 y1 y2)) ∧ (∀ y0 y1 y2 y3, LeO (spec_jDotted.j1 k y0 y1 y2 y3) (spec_jDotted.j1 (k + 1) y0 y1 y2 y3))
  | 0 => ⟨fun _ _ _ r h => by simp [spec_jDotted.l0] at h, fun _ _ _ _ r h => by simp [spec_jDotted.j1] at h⟩
  | k + 1 => by
    obtain ⟨ih0, ih1⟩ := spec_jDotted.mono_l k
    refine ⟨?_, ?_⟩
    · intro y0 y1 y2
      unfold spec_jDotted.l0
      repeat' first
      | (with_reducible exact ih0 _ _ _)
      | (with_reducible exact ih1 _ _ _ _)
      | (with_reducible exact LeO.refl _)
      | (with_reducible exact LeO.none _)
      | (with_reducible refine LeO.ite ?_ ?_)
      | (with_reducible refine LeO.bind ?_ (fun _ => ?_))
      | exact ih0 _ _ _
      | exact ih1 _ _ _ _
      | exact LeO.none _
      | refine LeO.ite ?_ ?_
      | refine LeO.bind ?_ (fun _ => ?_)
    · intro y0 y1 y2 y3
      unfold spec_jDotted.j1
      repeat' first
      | (with_reducible exact ih0 _ _ _)
      | (with_reducible exact ih1 _ _ _ _)
      | (with_reducible exact LeO.refl _)
      | (with_reducible exact LeO.none _)
      | (with_reducible refine LeO.ite ?_ ?_)
      | (with_reducible refine LeO.bind ?_ (fun _ => ?_))
      | exact ih0 _ _ _
      | exact ih1 _ _ _ _
      | exact LeO.none _
      | refine LeO.ite ?_ ?_
      | refine LeO.bind ?_ (fun _ => ?_)
theorem spec_jDotted.mono : ∀ a0 k, LeO (spec_jDotted.f k a0) (spec_jDotted.f (k + 1) a0) := by
  intro a0 k
  obtain ⟨ih0, ih1⟩ := spec_jDotted.mono_l k
  unfold spec_jDotted.f
  repeat' first
      | (with_reducible exact ih0 _ _ _)
      | (with_reducible exact ih1 _ _ _ _)
      | (with_reducible exact LeO.refl _)
      | (with_reducible exact LeO.none _)
      | (with_reducible refine LeO.ite ?_ ?_)
      | (with_reducible refine LeO.bind ?_ (fun _ => ?_))
      | exact ih0 _ _ _
      | exact ih1 _ _ _ _
      | exact LeO.none _
      | refine LeO.ite ?_ ?_
      | refine LeO.bind ?_ (fun _ => ?_)
set_option maxHeartbeats 8000000 in
set_option maxRecDepth 100000 in
theorem spec_jDotted.calls (k : Nat) (a0 : ByteArray) (r : Bool) (w : World) (h : spec_jDotted.f k a0 = some r) :
    Calls Tryd.prog 36 #[.string a0] w fun e w' => e = .returned (.bool r) ∧ Drawn0 w w' := by
  have H : (spec_jDotted.l0 k a0 0 0) = some r := h
  clear h
  have H' := Aside0.mk H
  clear H
  go_enter Tryd.func36, Tryd.ntmps36
  go_wp2
  go_loopg [3, 4] k (fun kq v3 v4 w' => ∃ (x3_1 : Int) (x4_1 : Int), v3 = .int .i64 x3_1 ∧ v4 = .int .i64 x4_1 ∧ Aside0 (spec_jDotted.l0 kq a0 x3_1 x4_1 = some r) ∧ Aside0 (kq ≤ k) ∧ Drawn0 w w')
  case atStart => exact ⟨(0), (0), (by first | rfl | (simp; done) | (simp [*]; done)), (by first | rfl | (simp; done) | (simp [*]; done)), H', ⟨Nat.le_refl _⟩, by repeat (first | exact Drawn0.refl _ | apply Drawn0.step)⟩
  case round =>
    clear H'
    obtain ⟨x3_1, x4_1, rfl, rfl, HA, HK1, ⟨m1, rfl⟩⟩ := hrel
    cases gk with
    | zero => exact absurd HA.out (by simp [spec_jDotted.l0])
    | succ k1 =>
      have H := HA.out
      clear HA
      simp only [spec_jDotted.l0] at H
      by_cases c2 : x4_1 ≤ (a0.size : Int)
      · rw [if_pos c2] at H
        have c2b0 : decide (x4_1 ≤ (a0.size : Int)) = true := decide_eq_true c2
        clear c2
        have HC3 := Aside0.mk H
        clear H
        go_upto_region 5 with (fail)
        go_cut [20] (fun v20 wc => ∃ (kq : Nat) (x20_2 : Bool), v20 = .bool x20_2 ∧ Aside0 (spec_jDotted.j1 kq a0 x3_1 x4_1 x20_2 = some r) ∧ Aside0 (kq ≤ k1) ∧ Drawn0 w wc)
        case first =>
          have H := HC3.out
          clear HC3
          by_cases c4 : x4_1 = (a0.size : Int)
          · rw [if_pos c4] at H
            have c4b0 : (x4_1 == (a0.size : Int)) = true := beq_iff_eq.mpr c4
            have c4b1 : (x4_1 != (a0.size : Int)) = false := bne_eq_false_iff_eq.mpr c4
            clear c4
            (first | rw [c4b0] | (simp only [i64_w, i32_w]; rw [c4b0]) | skip)
            have H' := Aside0.mk H
            clear H
            go_wp2
            go_meet
            case rel => exact ⟨_, (true), (by first | rfl | (simp; done) | (simp [*]; done)), H', ⟨by have := HK1.out; first | omega | exact Nat.le_refl _⟩, by repeat (first | exact Drawn0.refl _ | apply Drawn0.step)⟩
          · rw [if_neg c4] at H
            have c4b0 : (x4_1 == (a0.size : Int)) = false := beq_eq_false_iff_ne.mpr c4
            have c4b1 : (x4_1 != (a0.size : Int)) = true := bne_iff_ne.mpr c4
            (first | rw [c4b0] | (simp only [i64_w, i32_w]; rw [c4b0]) | skip)
            by_cases c5 : 0 ≤ x4_1
            · rw [if_pos c5] at H
              have c5b0 : decide (0 ≤ x4_1) = true := decide_eq_true c5
              clear c5
              by_cases c6 : x4_1 < (a0.size : Int)
              · rw [if_pos c6] at H
                have c6b0 : decide (x4_1 < (a0.size : Int)) = true := decide_eq_true c6
                clear c6
                have H' := Aside0.mk H
                clear H
                have p7 : 0 ≤ (x4_1 : Int) := of_decide_eq_true (by first | (with_reducible assumption) | assumption)
                have q7 : x4_1 < (a0.size : Int) := of_decide_eq_true (by first | (with_reducible assumption) | assumption)
                have hx7 := bt_at a0 x4_1
                replace p7 := eq_true p7
                replace q7 := eq_true q7
                go_wp2
                go_meet
                case rel => exact ⟨_, (((bt a0 x4_1) == 46)), (by first | rfl | (simp; done) | (simp [*]; done)), H', ⟨by have := HK1.out; first | omega | exact Nat.le_refl _⟩, by repeat (first | exact Drawn0.refl _ | apply Drawn0.step)⟩
              · rw [if_neg c6] at H
                exact absurd H (by simp)
            · rw [if_neg c5] at H
              exact absurd H (by simp)
        case rest =>
          clear HC3
          try clear c2
          try clear c2b0
          try clear p2
          try clear c3
          try clear c4
          try clear c4b0
          try clear c4b1
          try clear c5
          try clear c5b0
          try clear c6
          try clear c6b0
          try clear p7
          try clear q7
          try clear hx7
          try clear p7
          try clear q7
          obtain ⟨kq, x20_2, rfl, HA, HJ2, ⟨mc2, rfl⟩⟩ := hcut
          cases kq with
          | zero => exact absurd HA.out (by simp [spec_jDotted.j1])
          | succ kj2 =>
            have H := HA.out
            clear HA
            simp only [spec_jDotted.j1] at H
            by_cases c8 : x20_2 = true
            · subst c8
              have H1 : (if x4_1 = x3_1 then (some false) else (spec_jDotted.l0 kj2 a0 (wrap64 (x4_1 + 1)) (wrap64 (x4_1 + 1)))) = some r := by rw [if_pos rfl] at H; exact H
              clear H
              have H := H1
              clear H1
              by_cases c9 : x4_1 = x3_1
              · rw [if_pos c9] at H
                have c9b0 : (x4_1 == x3_1) = true := beq_iff_eq.mpr c9
                have c9b1 : (x4_1 != x3_1) = false := bne_eq_false_iff_eq.mpr c9
                clear c9
                obtain rfl := Option.some.inj H
                go_wp2
                go_ret
                exact ⟨by first | rfl | (simp; done) | (simp [*]; done), by repeat (first | exact Drawn0.refl _ | apply Drawn0.step)⟩
              · rw [if_neg c9] at H
                have c9b0 : (x4_1 == x3_1) = false := beq_eq_false_iff_ne.mpr c9
                have c9b1 : (x4_1 != x3_1) = true := bne_iff_ne.mpr c9
                have H' := Aside0.mk H
                clear H
                go_wp2
                go_roundg kj2
                case measure => have := HK1.out; have := HJ2.out; omega
                case rel => exact ⟨(wrap64 (x4_1 + 1)), (wrap64 (x4_1 + 1)), (by first | rfl | (simp; done) | (simp [*]; done)), (by first | rfl | (simp; done) | (simp [*]; done)), H', ⟨by have := HK1.out; have := HJ2.out; omega⟩, by repeat (first | exact Drawn0.refl _ | apply Drawn0.step)⟩
            · replace c8 := Bool.eq_false_iff.mpr c8
              subst c8
              have H1 : (if 0 ≤ x4_1 then (if x4_1 < (a0.size : Int) then ((spec_jLetter.f (bt a0 x4_1)).bind fun t101 => (if t101 = true then (spec_jDotted.l0 kj2 a0 x3_1 (wrap64 (x4_1 + 1))) else ((spec_jDigit.f (bt a0 x4_1)).bind fun t102 => (if t102 = true then (spec_jDotted.l0 kj2 a0 x3_1 (wrap64 (x4_1 + 1))) else ((spec_jSpecial.f (bt a0 x4_1)).bind fun t103 => (if t103 = true then (spec_jDotted.l0 kj2 a0 x3_1 (wrap64 (x4_1 + 1))) else (some false))))))) else (none)) else (none)) = some r := by rw [if_neg (show ¬ (false = true) by decide)] at H; exact H
              clear H
              have H := H1
              clear H1
              by_cases c10 : 0 ≤ x4_1
              · rw [if_pos c10] at H
                have c10b0 : decide (0 ≤ x4_1) = true := decide_eq_true c10
                clear c10
                by_cases c11 : x4_1 < (a0.size : Int)
                · rw [if_pos c11] at H
                  have c11b0 : decide (x4_1 < (a0.size : Int)) = true := decide_eq_true c11
                  clear c11
                  replace H := Option.bind_eq_some_iff.mp H
                  obtain ⟨t101, A130, H⟩ := H
                  replace H : (if t101 = true then (spec_jDotted.l0 kj2 a0 x3_1 (wrap64 (x4_1 + 1))) else ((spec_jDigit.f (bt a0 x4_1)).bind fun t102 => (if t102 = true then (spec_jDotted.l0 kj2 a0 x3_1 (wrap64 (x4_1 + 1))) else ((spec_jSpecial.f (bt a0 x4_1)).bind fun t103 => (if t103 = true then (spec_jDotted.l0 kj2 a0 x3_1 (wrap64 (x4_1 + 1))) else (some false)))))) = some r := H
                  have A13 := Aside0.mk A130
                  clear A130
                  by_cases c14 : t101 = true
                  · subst c14
                    have H1 : (spec_jDotted.l0 kj2 a0 x3_1 (wrap64 (x4_1 + 1))) = some r := by rw [if_pos rfl] at H; exact H
                    clear H
                    have H := H1
                    clear H1
                    have H' := Aside0.mk H
                    clear H
                    have p12 : 0 ≤ (x4_1 : Int) := of_decide_eq_true (by first | (with_reducible assumption) | assumption)
                    have q12 : x4_1 < (a0.size : Int) := of_decide_eq_true (by first | (with_reducible assumption) | assumption)
                    have hx12 := bt_at a0 x4_1
                    replace p12 := eq_true p12
                    replace q12 := eq_true q12
                    go_wp2_with (first | ((with_reducible refine gate_callee (f := 42) rfl ?_); refine goesL_ (some 29) rfl rfl Tryd.func42 (by kernel_rfl) rfl #[.int .u8 (bt a0 x4_1)] rfl (by (try simp only [List.map_toArray, List.map_cons, List.map_nil]); first | done | rfl | (simp only [List.length_drop, List.length_take]; rfl)) ?_; (with_reducible refine (spec_jLetter.calls (bt a0 x4_1) true _ A13.out).mono ?_); rintro e w' ⟨rfl, ⟨nd, rfl⟩⟩; refine ⟨_, rfl, ?_⟩))
                    go_roundg kj2
                    case measure => have := HK1.out; have := HJ2.out; omega
                    case rel => exact ⟨(x3_1), (wrap64 (x4_1 + 1)), (by first | rfl | (simp; done) | (simp [*]; done)), (by first | rfl | (simp; done) | (simp [*]; done)), H', ⟨by have := HK1.out; have := HJ2.out; omega⟩, by repeat (first | exact Drawn0.refl _ | apply Drawn0.step)⟩
                  · replace c14 := Bool.eq_false_iff.mpr c14
                    subst c14
                    have H1 : ((spec_jDigit.f (bt a0 x4_1)).bind fun t102 => (if t102 = true then (spec_jDotted.l0 kj2 a0 x3_1 (wrap64 (x4_1 + 1))) else ((spec_jSpecial.f (bt a0 x4_1)).bind fun t103 => (if t103 = true then (spec_jDotted.l0 kj2 a0 x3_1 (wrap64 (x4_1 + 1))) else (some false))))) = some r := by rw [if_neg (show ¬ (false = true) by decide)] at H; exact H
                    clear H
                    have H := H1
                    clear H1
                    replace H := Option.bind_eq_some_iff.mp H
                    obtain ⟨t102, A160, H⟩ := H
                    replace H : (if t102 = true then (spec_jDotted.l0 kj2 a0 x3_1 (wrap64 (x4_1 + 1))) else ((spec_jSpecial.f (bt a0 x4_1)).bind fun t103 => (if t103 = true then (spec_jDotted.l0 kj2 a0 x3_1 (wrap64 (x4_1 + 1))) else (some false)))) = some r := H
                    have A16 := Aside0.mk A160
                    clear A160
                    by_cases c17 : t102 = true
                    · subst c17
                      have H1 : (spec_jDotted.l0 kj2 a0 x3_1 (wrap64 (x4_1 + 1))) = some r := by rw [if_pos rfl] at H; exact H
                      clear H
                      have H := H1
                      clear H1
                      have H' := Aside0.mk H
                      clear H
                      have p12 : 0 ≤ (x4_1 : Int) := of_decide_eq_true (by first | (with_reducible assumption) | assumption)
                      have q12 : x4_1 < (a0.size : Int) := of_decide_eq_true (by first | (with_reducible assumption) | assumption)
                      have hx12 := bt_at a0 x4_1
                      replace p12 := eq_true p12
                      replace q12 := eq_true q12
                      go_wp2_with (first | ((with_reducible refine gate_callee (f := 42) rfl ?_); refine goesL_ (some 29) rfl rfl Tryd.func42 (by kernel_rfl) rfl #[.int .u8 (bt a0 x4_1)] rfl (by (try simp only [List.map_toArray, List.map_cons, List.map_nil]); first | done | rfl | (simp only [List.length_drop, List.length_take]; rfl)) ?_; (with_reducible refine (spec_jLetter.calls (bt a0 x4_1) false _ A13.out).mono ?_); rintro e w' ⟨rfl, ⟨nd, rfl⟩⟩; refine ⟨_, rfl, ?_⟩; have p15 : 0 ≤ (x4_1 : Int) := of_decide_eq_true (by first | (with_reducible assumption) | assumption); have q15 : x4_1 < (a0.size : Int) := of_decide_eq_true (by first | (with_reducible assumption) | assumption); have hx15 := bt_at a0 x4_1; replace p15 := eq_true p15; replace q15 := eq_true q15) | (go_at_call 26; (with_reducible refine (spec_jDigit.calls (bt a0 x4_1) true _ A16.out).mono ?_); rintro e w' ⟨rfl, ⟨nd, rfl⟩⟩))
                      go_roundg kj2
                      case measure => have := HK1.out; have := HJ2.out; omega
                      case rel => exact ⟨(x3_1), (wrap64 (x4_1 + 1)), (by first | rfl | (simp; done) | (simp [*]; done)), (by first | rfl | (simp; done) | (simp [*]; done)), H', ⟨by have := HK1.out; have := HJ2.out; omega⟩, by repeat (first | exact Drawn0.refl _ | apply Drawn0.step)⟩
                    · replace c17 := Bool.eq_false_iff.mpr c17
                      subst c17
                      have H1 : ((spec_jSpecial.f (bt a0 x4_1)).bind fun t103 => (if t103 = true then (spec_jDotted.l0 kj2 a0 x3_1 (wrap64 (x4_1 + 1))) else (some false))) = some r := by rw [if_neg (show ¬ (false = true) by decide)] at H; exact H
                      clear H
                      have H := H1
                      clear H1
                      replace H := Option.bind_eq_some_iff.mp H
                      obtain ⟨t103, A190, H⟩ := H
                      replace H : (if t103 = true then (spec_jDotted.l0 kj2 a0 x3_1 (wrap64 (x4_1 + 1))) else (some false)) = some r := H
                      have A19 := Aside0.mk A190
                      clear A190
                      by_cases c20 : t103 = true
                      · subst c20
                        have H1 : (spec_jDotted.l0 kj2 a0 x3_1 (wrap64 (x4_1 + 1))) = some r := by rw [if_pos rfl] at H; exact H
                        clear H
                        have H := H1
                        clear H1
                        have H' := Aside0.mk H
                        clear H
                        have p12 : 0 ≤ (x4_1 : Int) := of_decide_eq_true (by first | (with_reducible assumption) | assumption)
                        have q12 : x4_1 < (a0.size : Int) := of_decide_eq_true (by first | (with_reducible assumption) | assumption)
                        have hx12 := bt_at a0 x4_1
                        replace p12 := eq_true p12
                        replace q12 := eq_true q12
                        go_wp2_with (first | ((with_reducible refine gate_callee (f := 42) rfl ?_); refine goesL_ (some 29) rfl rfl Tryd.func42 (by kernel_rfl) rfl #[.int .u8 (bt a0 x4_1)] rfl (by (try simp only [List.map_toArray, List.map_cons, List.map_nil]); first | done | rfl | (simp only [List.length_drop, List.length_take]; rfl)) ?_; (with_reducible refine (spec_jLetter.calls (bt a0 x4_1) false _ A13.out).mono ?_); rintro e w' ⟨rfl, ⟨nd, rfl⟩⟩; refine ⟨_, rfl, ?_⟩; have p15 : 0 ≤ (x4_1 : Int) := of_decide_eq_true (by first | (with_reducible assumption) | assumption); have q15 : x4_1 < (a0.size : Int) := of_decide_eq_true (by first | (with_reducible assumption) | assumption); have hx15 := bt_at a0 x4_1; replace p15 := eq_true p15; replace q15 := eq_true q15) | (go_at_call 26; (with_reducible refine (spec_jDigit.calls (bt a0 x4_1) false _ A16.out).mono ?_); rintro e w' ⟨rfl, ⟨nd, rfl⟩⟩; have p18 : 0 ≤ (x4_1 : Int) := of_decide_eq_true (by first | (with_reducible assumption) | assumption); have q18 : x4_1 < (a0.size : Int) := of_decide_eq_true (by first | (with_reducible assumption) | assumption); have hx18 := bt_at a0 x4_1; replace p18 := eq_true p18; replace q18 := eq_true q18) | (go_at_call 43; (with_reducible refine (spec_jSpecial.calls (bt a0 x4_1) true _ A19.out).mono ?_); rintro e w' ⟨rfl, ⟨nd, rfl⟩⟩))
                        go_roundg kj2
                        case measure => have := HK1.out; have := HJ2.out; omega
                        case rel => exact ⟨(x3_1), (wrap64 (x4_1 + 1)), (by first | rfl | (simp; done) | (simp [*]; done)), (by first | rfl | (simp; done) | (simp [*]; done)), H', ⟨by have := HK1.out; have := HJ2.out; omega⟩, by repeat (first | exact Drawn0.refl _ | apply Drawn0.step)⟩
                      · replace c20 := Bool.eq_false_iff.mpr c20
                        subst c20
                        have H1 : (some false) = some r := by rw [if_neg (show ¬ (false = true) by decide)] at H; exact H
                        clear H
                        have H := H1
                        clear H1
                        obtain rfl := Option.some.inj H
                        have p12 : 0 ≤ (x4_1 : Int) := of_decide_eq_true (by first | (with_reducible assumption) | assumption)
                        have q12 : x4_1 < (a0.size : Int) := of_decide_eq_true (by first | (with_reducible assumption) | assumption)
                        have hx12 := bt_at a0 x4_1
                        replace p12 := eq_true p12
                        replace q12 := eq_true q12
                        go_wp2_with (first | ((with_reducible refine gate_callee (f := 42) rfl ?_); refine goesL_ (some 29) rfl rfl Tryd.func42 (by kernel_rfl) rfl #[.int .u8 (bt a0 x4_1)] rfl (by (try simp only [List.map_toArray, List.map_cons, List.map_nil]); first | done | rfl | (simp only [List.length_drop, List.length_take]; rfl)) ?_; (with_reducible refine (spec_jLetter.calls (bt a0 x4_1) false _ A13.out).mono ?_); rintro e w' ⟨rfl, ⟨nd, rfl⟩⟩; refine ⟨_, rfl, ?_⟩; have p15 : 0 ≤ (x4_1 : Int) := of_decide_eq_true (by first | (with_reducible assumption) | assumption); have q15 : x4_1 < (a0.size : Int) := of_decide_eq_true (by first | (with_reducible assumption) | assumption); have hx15 := bt_at a0 x4_1; replace p15 := eq_true p15; replace q15 := eq_true q15) | (go_at_call 26; (with_reducible refine (spec_jDigit.calls (bt a0 x4_1) false _ A16.out).mono ?_); rintro e w' ⟨rfl, ⟨nd, rfl⟩⟩; have p18 : 0 ≤ (x4_1 : Int) := of_decide_eq_true (by first | (with_reducible assumption) | assumption); have q18 : x4_1 < (a0.size : Int) := of_decide_eq_true (by first | (with_reducible assumption) | assumption); have hx18 := bt_at a0 x4_1; replace p18 := eq_true p18; replace q18 := eq_true q18) | (go_at_call 43; (with_reducible refine (spec_jSpecial.calls (bt a0 x4_1) false _ A19.out).mono ?_); rintro e w' ⟨rfl, ⟨nd, rfl⟩⟩))
                        go_ret
                        exact ⟨by first | rfl | (simp; done) | (simp [*]; done), by repeat (first | exact Drawn0.refl _ | apply Drawn0.step)⟩
                · rw [if_neg c11] at H
                  exact absurd H (by simp)
              · rw [if_neg c10] at H
                exact absurd H (by simp)
      · rw [if_neg c2] at H
        have c2b0 : decide (x4_1 ≤ (a0.size : Int)) = false := decide_eq_false c2
        clear c2
        obtain rfl := Option.some.inj H
        go_wp2
        go_ret
        exact ⟨by first | rfl | (simp; done) | (simp [*]; done), by repeat (first | exact Drawn0.refl _ | apply Drawn0.step)⟩

end Go.Proofs.YtfnnahopbghndaaDoor.PJEmail
