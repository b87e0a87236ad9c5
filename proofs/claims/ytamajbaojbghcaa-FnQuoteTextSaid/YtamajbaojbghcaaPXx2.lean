-- PRINTED by print.py (a twelfth state) out of the translation. Not trusted: Lean checks it.
import Derived.Test.YtamajbaojbghcaaPXx0
namespace Go.Proofs.Ytamajbaojbghcaa.PX
open Go.RowKit Go.Proofs.YtamajbaojbghcaaW.PrintWords Go.Proofs.YtamajbaojbghcaaW.PrintLast Go.Proofs.YtamajbaojbghcaaW.PrintMore
attribute [local go_sem] max2_int min2_int max_two min_two max_three min_three max_four min_four   -- for this text's walks alone
set_option linter.unusedVariables false
set_option linter.unusedSimpArgs false

/-! ### spec_IsStart: function 67 -/
def spec_IsStart.f (a0 : Int) : Option (Bool) := if a0 = 95 then (some true) else (if a0 ≥ 97 then (if a0 ≤ 122 then (some true) else (if a0 ≥ 65 then (some (decide (a0 ≤ 90))) else (some false))) else (if a0 ≥ 65 then (some (decide (a0 ≤ 90))) else (some false)))
set_option maxHeartbeats 8000000 in
set_option maxRecDepth 100000 in
theorem spec_IsStart.calls (a0 : Int) (r : Bool) (w : World) (h : spec_IsStart.f a0 = some r) :
    Calls Try.prog 67 #[.int .i32 a0] w fun e w' => e = .returned (.bool r) ∧ Drawn0 w w' := by
  have H : (if a0 = 95 then (some true) else (if a0 ≥ 97 then (if a0 ≤ 122 then (some true) else (if a0 ≥ 65 then (some (decide (a0 ≤ 90))) else (some false))) else (if a0 ≥ 65 then (some (decide (a0 ≤ 90))) else (some false)))) = some r := h
  clear h
  by_cases c2 : a0 = 95
  · rw [if_pos c2] at H
    have c2b0 : (a0 == 95) = true := beq_iff_eq.mpr c2
    have c2b1 : (a0 != 95) = false := bne_eq_false_iff_eq.mpr c2
    clear c2
    obtain rfl := Option.some.inj H
    go_enter Try.func67, Try.ntmps67
    go_wp2
    go_ret
    exact ⟨by first | rfl | (simp; done) | (simp [*]; done), by repeat (first | exact Drawn0.refl _ | apply Drawn0.step)⟩
  · rw [if_neg c2] at H
    have c2b0 : (a0 == 95) = false := beq_eq_false_iff_ne.mpr c2
    have c2b1 : (a0 != 95) = true := bne_iff_ne.mpr c2
    by_cases c3 : a0 ≥ 97
    · rw [if_pos c3] at H
      have c3b0 : decide (97 ≤ a0) = true := decide_eq_true c3
      clear c3
      by_cases c4 : a0 ≤ 122
      · rw [if_pos c4] at H
        have c4b0 : decide (a0 ≤ 122) = true := decide_eq_true c4
        clear c4
        obtain rfl := Option.some.inj H
        go_enter Try.func67, Try.ntmps67
        go_wp2
        go_ret
        exact ⟨by first | rfl | (simp; done) | (simp [*]; done), by repeat (first | exact Drawn0.refl _ | apply Drawn0.step)⟩
      · rw [if_neg c4] at H
        have c4b0 : decide (a0 ≤ 122) = false := decide_eq_false c4
        clear c4
        by_cases c5 : a0 ≥ 65
        · rw [if_pos c5] at H
          have c5b0 : decide (65 ≤ a0) = true := decide_eq_true c5
          clear c5
          obtain rfl := Option.some.inj H
          go_enter Try.func67, Try.ntmps67
          go_wp2
          go_ret
          exact ⟨by first | rfl | (simp; done) | (simp [*]; done), by repeat (first | exact Drawn0.refl _ | apply Drawn0.step)⟩
        · rw [if_neg c5] at H
          have c5b0 : decide (65 ≤ a0) = false := decide_eq_false c5
          clear c5
          obtain rfl := Option.some.inj H
          go_enter Try.func67, Try.ntmps67
          go_wp2
          go_ret
          exact ⟨by first | rfl | (simp; done) | (simp [*]; done), by repeat (first | exact Drawn0.refl _ | apply Drawn0.step)⟩
    · rw [if_neg c3] at H
      have c3b0 : decide (97 ≤ a0) = false := decide_eq_false c3
      clear c3
      by_cases c6 : a0 ≥ 65
      · rw [if_pos c6] at H
        have c6b0 : decide (65 ≤ a0) = true := decide_eq_true c6
        clear c6
        obtain rfl := Option.some.inj H
        go_enter Try.func67, Try.ntmps67
        go_wp2
        go_ret
        exact ⟨by first | rfl | (simp; done) | (simp [*]; done), by repeat (first | exact Drawn0.refl _ | apply Drawn0.step)⟩
      · rw [if_neg c6] at H
        have c6b0 : decide (65 ≤ a0) = false := decide_eq_false c6
        clear c6
        obtain rfl := Option.some.inj H
        go_enter Try.func67, Try.ntmps67
        go_wp2
        go_ret
        exact ⟨by first | rfl | (simp; done) | (simp [*]; done), by repeat (first | exact Drawn0.refl _ | apply Drawn0.step)⟩

/-- THE ONE PURE STATEMENT of spec_IsStart: yours. -/
def spec_IsStart.Pure : Prop := ∀ (a0 : Int), (Lit.int .i32 a0).wf = true → spec_IsStart.f a0 = some true
theorem spec_IsStart.walk (P : spec_IsStart.Pure) (a0 : Int) (w : World) (w0 : (Lit.int .i32 a0).wf = true) :
    Calls Try.prog 67 #[.int .i32 a0] w fun e w' => e = .returned (.bool true) ∧ Below w.heap.size w w' := by
  have h := P a0 w0
  refine (spec_IsStart.calls a0 true w h).mono ?_
  rintro e w' ⟨rfl, hd⟩
  exact ⟨rfl, hd.below⟩

/-! ### spec_Mark: function 73 -/
def spec_Mark.f (a0 : Int) : Option (Int) := if a0 = 33 then (some 1) else (if a0 = 36 then (some 2) else (if a0 = 38 then (some 3) else (if a0 = 40 then (some 4) else (if a0 = 41 then (some 5) else (if a0 = 58 then (some 7) else (if a0 = 61 then (some 8) else (if a0 = 64 then (some 9) else (if a0 = 91 then (some 10) else (if a0 = 93 then (some 11) else (if a0 = 123 then (some 12) else (if a0 = 125 then (some 13) else (if a0 = 124 then (some 14) else (some 0)))))))))))))
set_option maxHeartbeats 8000000 in
set_option maxRecDepth 100000 in
theorem spec_Mark.calls (a0 : Int) (r : Int) (w : World) (h : spec_Mark.f a0 = some r) :
    Calls Try.prog 73 #[.int .i32 a0] w fun e w' => e = .returned (.int .i64 r) ∧ Drawn0 w w' := by
  have H : (if a0 = 33 then (some 1) else (if a0 = 36 then (some 2) else (if a0 = 38 then (some 3) else (if a0 = 40 then (some 4) else (if a0 = 41 then (some 5) else (if a0 = 58 then (some 7) else (if a0 = 61 then (some 8) else (if a0 = 64 then (some 9) else (if a0 = 91 then (some 10) else (if a0 = 93 then (some 11) else (if a0 = 123 then (some 12) else (if a0 = 125 then (some 13) else (if a0 = 124 then (some 14) else (some 0)))))))))))))) = some r := h
  clear h
  by_cases c2 : a0 = 33
  · rw [if_pos c2] at H
    have c2b0 : (a0 == 33) = true := beq_iff_eq.mpr c2
    have c2b1 : (a0 != 33) = false := bne_eq_false_iff_eq.mpr c2
    clear c2
    obtain rfl := Option.some.inj H
    go_enter Try.func73, Try.ntmps73
    go_wp2
    go_ret
    exact ⟨by first | rfl | (simp; done) | (simp [*]; done), by repeat (first | exact Drawn0.refl _ | apply Drawn0.step)⟩
  · rw [if_neg c2] at H
    have c2b0 : (a0 == 33) = false := beq_eq_false_iff_ne.mpr c2
    have c2b1 : (a0 != 33) = true := bne_iff_ne.mpr c2
    by_cases c3 : a0 = 36
    · rw [if_pos c3] at H
      have c3b0 : (a0 == 36) = true := beq_iff_eq.mpr c3
      have c3b1 : (a0 != 36) = false := bne_eq_false_iff_eq.mpr c3
      clear c3
      obtain rfl := Option.some.inj H
      go_enter Try.func73, Try.ntmps73
      go_wp2
      go_ret
      exact ⟨by first | rfl | (simp; done) | (simp [*]; done), by repeat (first | exact Drawn0.refl _ | apply Drawn0.step)⟩
    · rw [if_neg c3] at H
      have c3b0 : (a0 == 36) = false := beq_eq_false_iff_ne.mpr c3
      have c3b1 : (a0 != 36) = true := bne_iff_ne.mpr c3
      by_cases c4 : a0 = 38
      · rw [if_pos c4] at H
        have c4b0 : (a0 == 38) = true := beq_iff_eq.mpr c4
        have c4b1 : (a0 != 38) = false := bne_eq_false_iff_eq.mpr c4
        clear c4
        obtain rfl := Option.some.inj H
        go_enter Try.func73, Try.ntmps73
        go_wp2
        go_ret
        exact ⟨by first | rfl | (simp; done) | (simp [*]; done), by repeat (first | exact Drawn0.refl _ | apply Drawn0.step)⟩
      · rw [if_neg c4] at H
        have c4b0 : (a0 == 38) = false := beq_eq_false_iff_ne.mpr c4
        have c4b1 : (a0 != 38) = true := bne_iff_ne.mpr c4
        by_cases c5 : a0 = 40
        · rw [if_pos c5] at H
          have c5b0 : (a0 == 40) = true := beq_iff_eq.mpr c5
          have c5b1 : (a0 != 40) = false := bne_eq_false_iff_eq.mpr c5
          clear c5
          obtain rfl := Option.some.inj H
          go_enter Try.func73, Try.ntmps73
          go_wp2
          go_ret
          exact ⟨by first | rfl | (simp; done) | (simp [*]; done), by repeat (first | exact Drawn0.refl _ | apply Drawn0.step)⟩
        · rw [if_neg c5] at H
          have c5b0 : (a0 == 40) = false := beq_eq_false_iff_ne.mpr c5
          have c5b1 : (a0 != 40) = true := bne_iff_ne.mpr c5
          by_cases c6 : a0 = 41
          · rw [if_pos c6] at H
            have c6b0 : (a0 == 41) = true := beq_iff_eq.mpr c6
            have c6b1 : (a0 != 41) = false := bne_eq_false_iff_eq.mpr c6
            clear c6
            obtain rfl := Option.some.inj H
            go_enter Try.func73, Try.ntmps73
            go_wp2
            go_ret
            exact ⟨by first | rfl | (simp; done) | (simp [*]; done), by repeat (first | exact Drawn0.refl _ | apply Drawn0.step)⟩
          · rw [if_neg c6] at H
            have c6b0 : (a0 == 41) = false := beq_eq_false_iff_ne.mpr c6
            have c6b1 : (a0 != 41) = true := bne_iff_ne.mpr c6
            by_cases c7 : a0 = 58
            · rw [if_pos c7] at H
              have c7b0 : (a0 == 58) = true := beq_iff_eq.mpr c7
              have c7b1 : (a0 != 58) = false := bne_eq_false_iff_eq.mpr c7
              clear c7
              obtain rfl := Option.some.inj H
              go_enter Try.func73, Try.ntmps73
              go_wp2
              go_ret
              exact ⟨by first | rfl | (simp; done) | (simp [*]; done), by repeat (first | exact Drawn0.refl _ | apply Drawn0.step)⟩
            · rw [if_neg c7] at H
              have c7b0 : (a0 == 58) = false := beq_eq_false_iff_ne.mpr c7
              have c7b1 : (a0 != 58) = true := bne_iff_ne.mpr c7
              by_cases c8 : a0 = 61
              · rw [if_pos c8] at H
                have c8b0 : (a0 == 61) = true := beq_iff_eq.mpr c8
                have c8b1 : (a0 != 61) = false := bne_eq_false_iff_eq.mpr c8
                clear c8
                obtain rfl := Option.some.inj H
                go_enter Try.func73, Try.ntmps73
                go_wp2
                go_ret
                exact ⟨by first | rfl | (simp; done) | (simp [*]; done), by repeat (first | exact Drawn0.refl _ | apply Drawn0.step)⟩
              · rw [if_neg c8] at H
                have c8b0 : (a0 == 61) = false := beq_eq_false_iff_ne.mpr c8
                have c8b1 : (a0 != 61) = true := bne_iff_ne.mpr c8
                by_cases c9 : a0 = 64
                · rw [if_pos c9] at H
                  have c9b0 : (a0 == 64) = true := beq_iff_eq.mpr c9
                  have c9b1 : (a0 != 64) = false := bne_eq_false_iff_eq.mpr c9
                  clear c9
                  obtain rfl := Option.some.inj H
                  go_enter Try.func73, Try.ntmps73
                  go_wp2
                  go_ret
                  exact ⟨by first | rfl | (simp; done) | (simp [*]; done), by repeat (first | exact Drawn0.refl _ | apply Drawn0.step)⟩
                · rw [if_neg c9] at H
                  have c9b0 : (a0 == 64) = false := beq_eq_false_iff_ne.mpr c9
                  have c9b1 : (a0 != 64) = true := bne_iff_ne.mpr c9
                  by_cases c10 : a0 = 91
                  · rw [if_pos c10] at H
                    have c10b0 : (a0 == 91) = true := beq_iff_eq.mpr c10
                    have c10b1 : (a0 != 91) = false := bne_eq_false_iff_eq.mpr c10
                    clear c10
                    obtain rfl := Option.some.inj H
                    go_enter Try.func73, Try.ntmps73
                    go_wp2
                    go_ret
                    exact ⟨by first | rfl | (simp; done) | (simp [*]; done), by repeat (first | exact Drawn0.refl _ | apply Drawn0.step)⟩
                  · rw [if_neg c10] at H
                    have c10b0 : (a0 == 91) = false := beq_eq_false_iff_ne.mpr c10
                    have c10b1 : (a0 != 91) = true := bne_iff_ne.mpr c10
                    by_cases c11 : a0 = 93
                    · rw [if_pos c11] at H
                      have c11b0 : (a0 == 93) = true := beq_iff_eq.mpr c11
                      have c11b1 : (a0 != 93) = false := bne_eq_false_iff_eq.mpr c11
                      clear c11
                      obtain rfl := Option.some.inj H
                      go_enter Try.func73, Try.ntmps73
                      go_wp2
                      go_ret
                      exact ⟨by first | rfl | (simp; done) | (simp [*]; done), by repeat (first | exact Drawn0.refl _ | apply Drawn0.step)⟩
                    · rw [if_neg c11] at H
                      have c11b0 : (a0 == 93) = false := beq_eq_false_iff_ne.mpr c11
                      have c11b1 : (a0 != 93) = true := bne_iff_ne.mpr c11
                      by_cases c12 : a0 = 123
                      · rw [if_pos c12] at H
                        have c12b0 : (a0 == 123) = true := beq_iff_eq.mpr c12
                        have c12b1 : (a0 != 123) = false := bne_eq_false_iff_eq.mpr c12
                        clear c12
                        obtain rfl := Option.some.inj H
                        go_enter Try.func73, Try.ntmps73
                        go_wp2
                        go_ret
                        exact ⟨by first | rfl | (simp; done) | (simp [*]; done), by repeat (first | exact Drawn0.refl _ | apply Drawn0.step)⟩
                      · rw [if_neg c12] at H
                        have c12b0 : (a0 == 123) = false := beq_eq_false_iff_ne.mpr c12
                        have c12b1 : (a0 != 123) = true := bne_iff_ne.mpr c12
                        by_cases c13 : a0 = 125
                        · rw [if_pos c13] at H
                          have c13b0 : (a0 == 125) = true := beq_iff_eq.mpr c13
                          have c13b1 : (a0 != 125) = false := bne_eq_false_iff_eq.mpr c13
                          clear c13
                          obtain rfl := Option.some.inj H
                          go_enter Try.func73, Try.ntmps73
                          go_wp2
                          go_ret
                          exact ⟨by first | rfl | (simp; done) | (simp [*]; done), by repeat (first | exact Drawn0.refl _ | apply Drawn0.step)⟩
                        · rw [if_neg c13] at H
                          have c13b0 : (a0 == 125) = false := beq_eq_false_iff_ne.mpr c13
                          have c13b1 : (a0 != 125) = true := bne_iff_ne.mpr c13
                          by_cases c14 : a0 = 124
                          · rw [if_pos c14] at H
                            have c14b0 : (a0 == 124) = true := beq_iff_eq.mpr c14
                            have c14b1 : (a0 != 124) = false := bne_eq_false_iff_eq.mpr c14
                            clear c14
                            obtain rfl := Option.some.inj H
                            go_enter Try.func73, Try.ntmps73
                            go_wp2
                            go_ret
                            exact ⟨by first | rfl | (simp; done) | (simp [*]; done), by repeat (first | exact Drawn0.refl _ | apply Drawn0.step)⟩
                          · rw [if_neg c14] at H
                            have c14b0 : (a0 == 124) = false := beq_eq_false_iff_ne.mpr c14
                            have c14b1 : (a0 != 124) = true := bne_iff_ne.mpr c14
                            obtain rfl := Option.some.inj H
                            go_enter Try.func73, Try.ntmps73
                            go_wp2
                            go_ret
                            exact ⟨by first | rfl | (simp; done) | (simp [*]; done), by repeat (first | exact Drawn0.refl _ | apply Drawn0.step)⟩

end Go.Proofs.Ytamajbaojbghcaa.PX
