-- PRINTED BY print.sh 35421559b90ae4d0a3588c463048766b98c2df88dd9212a6774a882060cdf62d: not written by this session
import Derived.Test.YtdjmjgdafghdgaaPFnJSemverx0
import Derived.Test.YtdjmjgdafghdgaaPFnJSemverx1
namespace Go.Proofs.Ytdjmjgdafghdgaa.PFnJSemver
open Go.RowKit Go.Proofs.YtdjmjgdafghdgaaW.PrintWords Go.Proofs.YtdjmjgdafghdgaaW.PrintLast Go.Proofs.YtdjmjgdafghdgaaW.PrintMore
attribute [local go_sem] max2_int min2_int max_two min_two max_three min_three max_four min_four   -- for this text's walks alone
set_option linter.unusedVariables false
set_option linter.unusedSimpArgs false

/-! ### spec_jIdentifiers: function 45 -/
mutual
def spec_jIdentifiers.l0 : Nat → ByteArray → Bool → Int → Int → Option (Bool)
  | 0, _, _, _, _ => none
  | k + 1, x0, x1, x5, x6 => if x6 ≤ (x0.size : Int) then (if x6 = (x0.size : Int) then (spec_jIdentifiers.j1 k x0 x1 x5 x6 true) else (if 0 ≤ x6 then (if x6 < (x0.size : Int) then (spec_jIdentifiers.j1 k x0 x1 x5 x6 ((bt x0 x6) == 46)) else (none)) else (none))) else (some true)
def spec_jIdentifiers.j1 : Nat → ByteArray → Bool → Int → Int → Bool → Option (Bool)
  | 0, _, _, _, _, _ => none
  | k + 1, x0, x1, x5, x6, x23 => if x23 = true then (if 0 ≤ x5 then (if x5 ≤ x6 then (if x6 ≤ (x0.size : Int) then ((spec_jIdentifier.f k (x0.extract (x5 : Int).toNat (x6 : Int).toNat)).bind fun t113 => (if t113 = true then (if x1 = true then ((spec_jDigits.f k (x0.extract (x5 : Int).toNat (x6 : Int).toNat)).bind fun t114 => (if t114 = true then ((spec_jPlain.f k (x0.extract (x5 : Int).toNat (x6 : Int).toNat)).bind fun t115 => (if t115 = true then (spec_jIdentifiers.l0 k x0 x1 (wrap64 (x6 + 1)) (wrap64 (x6 + 1))) else (some false))) else (spec_jIdentifiers.l0 k x0 x1 (wrap64 (x6 + 1)) (wrap64 (x6 + 1))))) else (spec_jIdentifiers.l0 k x0 x1 (wrap64 (x6 + 1)) (wrap64 (x6 + 1)))) else (some false))) else (none)) else (none)) else (none)) else (spec_jIdentifiers.l0 k x0 x1 x5 (wrap64 (x6 + 1)))
end
def spec_jIdentifiers.f (k : Nat) (a0 : ByteArray) (a1 : Bool) : Option (Bool) := spec_jIdentifiers.l0 k a0 a1 0 0
theorem spec_jIdentifiers.mono_l : ∀ k, (∀ y0 y1 y2 y3, LeO (spec_jIdentifiers.l0 k y0 y1 y2 y3) (spec_jIdentifiers.l0 (k + 1) y0 y1 y2 y3)) ∧ (∀ y0 y1 y2 y3 y4, LeO (spec_jIdentifiers.j1 k y0 y1 y2 y3 y4) (spec_jIdentifiers.j1 (k + 1) y0 y1 y2 y3 y4))
  | 0 => ⟨fun _ _ _ _ r h => by simp [spec_jIdentifiers.l0] at h, fun _ _ _ _ _ r h => by simp [spec_jIdentifiers.j1] at h⟩
  | k + 1 => by
    obtain ⟨ih0, ih1⟩ := spec_jIdentifiers.mono_l k
    refine ⟨?_, ?_⟩
    · intro y0 y1 y2 y3
      unfold spec_jIdentifiers.l0
      repeat' first
      | (with_reducible exact ih0 _ _ _ _)
      | (with_reducible exact ih1 _ _ _ _ _)
      | (with_reducible exact spec_jDigits.mono _ _)
      | (with_reducible exact spec_jIdentifier.mono _ _)
      | (with_reducible exact spec_jPlain.mono _ _)
      | (with_reducible exact LeO.refl _)
      | (with_reducible exact LeO.none _)
      | (with_reducible refine LeO.ite ?_ ?_)
      | (with_reducible refine LeO.bind ?_ (fun _ => ?_))
      | exact ih0 _ _ _ _
      | exact ih1 _ _ _ _ _
      | exact spec_jDigits.mono _ _
      | exact spec_jIdentifier.mono _ _
      | exact spec_jPlain.mono _ _
      | exact LeO.none _
      | refine LeO.ite ?_ ?_
      | refine LeO.bind ?_ (fun _ => ?_)
    · intro y0 y1 y2 y3 y4
      unfold spec_jIdentifiers.j1
      repeat' first
      | (with_reducible exact ih0 _ _ _ _)
      | (with_reducible exact ih1 _ _ _ _ _)
      | (with_reducible exact spec_jDigits.mono _ _)
      | (with_reducible exact spec_jIdentifier.mono _ _)
      | (with_reducible exact spec_jPlain.mono _ _)
      | (with_reducible exact LeO.refl _)
      | (with_reducible exact LeO.none _)
      | (with_reducible refine LeO.ite ?_ ?_)
      | (with_reducible refine LeO.bind ?_ (fun _ => ?_))
      | exact ih0 _ _ _ _
      | exact ih1 _ _ _ _ _
      | exact spec_jDigits.mono _ _
      | exact spec_jIdentifier.mono _ _
      | exact spec_jPlain.mono _ _
      | exact LeO.none _
      | refine LeO.ite ?_ ?_
      | refine LeO.bind ?_ (fun _ => ?_)
theorem spec_jIdentifiers.mono : ∀ a0 a1 k, LeO (spec_jIdentifiers.f k a0 a1) (spec_jIdentifiers.f (k + 1) a0 a1) := by
  intro a0 a1 k
  obtain ⟨ih0, ih1⟩ := spec_jIdentifiers.mono_l k
  unfold spec_jIdentifiers.f
  repeat' first
      | (with_reducible exact ih0 _ _ _ _)
      | (with_reducible exact ih1 _ _ _ _ _)
      | (with_reducible exact spec_jDigits.mono _ _)
      | (with_reducible exact spec_jIdentifier.mono _ _)
      | (with_reducible exact spec_jPlain.mono _ _)
      | (with_reducible exact LeO.refl _)
      | (with_reducible exact LeO.none _)
      | (with_reducible refine LeO.ite ?_ ?_)
      | (with_reducible refine LeO.bind ?_ (fun _ => ?_))
      | exact ih0 _ _ _ _
      | exact ih1 _ _ _ _ _
      | exact spec_jDigits.mono _ _
      | exact spec_jIdentifier.mono _ _
      | exact spec_jPlain.mono _ _
      | exact LeO.none _
      | refine LeO.ite ?_ ?_
      | refine LeO.bind ?_ (fun _ => ?_)
set_option maxHeartbeats 8000000 in
set_option maxRecDepth 100000 in
theorem spec_jIdentifiers.calls (k : Nat) (a0 : ByteArray) (a1 : Bool) (r : Bool) (w : World) (h : spec_jIdentifiers.f k a0 a1 = some r) :
    Calls Try.prog 45 #[.string a0, .bool a1] w fun e w' => e = .returned (.bool r) ∧ Drawn0 w w' := by
  have H : (spec_jIdentifiers.l0 k a0 a1 0 0) = some r := h
  clear h
  have H' := Aside0.mk H
  clear H
  go_enter Try.func45, Try.ntmps45
  go_wp2
  go_loopg [5, 6] k (fun kq v5 v6 w' => ∃ (x5_1 : Int) (x6_1 : Int), v5 = .int .i64 x5_1 ∧ v6 = .int .i64 x6_1 ∧ Aside0 (spec_jIdentifiers.l0 kq a0 a1 x5_1 x6_1 = some r) ∧ Aside0 (kq ≤ k) ∧ Drawn0 w w')
  case atStart => exact ⟨(0), (0), (by first | rfl | (simp; done) | (simp [*]; done)), (by first | rfl | (simp; done) | (simp [*]; done)), H', ⟨Nat.le_refl _⟩, by repeat (first | exact Drawn0.refl _ | apply Drawn0.step)⟩
  case round =>
    clear H'
    try clear p2
    obtain ⟨x5_1, x6_1, rfl, rfl, HA, HK1, ⟨m1, rfl⟩⟩ := hrel
    cases gk with
    | zero => exact absurd HA.out (by simp [spec_jIdentifiers.l0])
    | succ k1 =>
      have H := HA.out
      clear HA
      simp only [spec_jIdentifiers.l0] at H
      by_cases c3 : x6_1 ≤ (a0.size : Int)
      · rw [if_pos c3] at H
        have c3b0 : decide (x6_1 ≤ (a0.size : Int)) = true := decide_eq_true c3
        clear c3
        have HC4 := Aside0.mk H
        clear H
        go_upto_region 5 with (fail)
        go_cut [23] (fun v23 wc => ∃ (kq : Nat) (x23_3 : Bool), v23 = .bool x23_3 ∧ Aside0 (spec_jIdentifiers.j1 kq a0 a1 x5_1 x6_1 x23_3 = some r) ∧ Aside0 (kq ≤ k1) ∧ Drawn0 w wc)
        case first =>
          have H := HC4.out
          clear HC4
          by_cases c5 : x6_1 = (a0.size : Int)
          · rw [if_pos c5] at H
            have c5b0 : (x6_1 == (a0.size : Int)) = true := beq_iff_eq.mpr c5
            have c5b1 : (x6_1 != (a0.size : Int)) = false := bne_eq_false_iff_eq.mpr c5
            clear c5
            (first | rw [c5b0] | (simp only [i64_w, i32_w]; rw [c5b0]) | skip)
            have H' := Aside0.mk H
            clear H
            go_wp2
            go_meet
            case rel => exact ⟨_, (true), (by first | rfl | (simp; done) | (simp [*]; done)), H', ⟨by have := HK1.out; first | omega | exact Nat.le_refl _⟩, by repeat (first | exact Drawn0.refl _ | apply Drawn0.step)⟩
          · rw [if_neg c5] at H
            have c5b0 : (x6_1 == (a0.size : Int)) = false := beq_eq_false_iff_ne.mpr c5
            have c5b1 : (x6_1 != (a0.size : Int)) = true := bne_iff_ne.mpr c5
            (first | rw [c5b0] | (simp only [i64_w, i32_w]; rw [c5b0]) | skip)
            by_cases c6 : 0 ≤ x6_1
            · rw [if_pos c6] at H
              have c6b0 : decide (0 ≤ x6_1) = true := decide_eq_true c6
              clear c6
              by_cases c7 : x6_1 < (a0.size : Int)
              · rw [if_pos c7] at H
                have c7b0 : decide (x6_1 < (a0.size : Int)) = true := decide_eq_true c7
                clear c7
                have H' := Aside0.mk H
                clear H
                have p8 : 0 ≤ (x6_1 : Int) := of_decide_eq_true (by first | (with_reducible assumption) | assumption)
                have q8 : x6_1 < (a0.size : Int) := of_decide_eq_true (by first | (with_reducible assumption) | assumption)
                have hx8 := bt_at a0 x6_1
                replace p8 := eq_true p8
                replace q8 := eq_true q8
                go_wp2
                go_meet
                case rel => exact ⟨_, (((bt a0 x6_1) == 46)), (by first | rfl | (simp; done) | (simp [*]; done)), H', ⟨by have := HK1.out; first | omega | exact Nat.le_refl _⟩, by repeat (first | exact Drawn0.refl _ | apply Drawn0.step)⟩
              · rw [if_neg c7] at H
                exact absurd H (by simp)
            · rw [if_neg c6] at H
              exact absurd H (by simp)
        case rest =>
          clear HC4
          try clear p2
          try clear c3
          try clear c3b0
          try clear c4
          try clear c5
          try clear c5b0
          try clear c5b1
          try clear c6
          try clear c6b0
          try clear c7
          try clear c7b0
          try clear p8
          try clear q8
          try clear hx8
          try clear p2
          try clear p8
          try clear q8
          obtain ⟨kq, x23_3, rfl, HA, HJ3, ⟨mc3, rfl⟩⟩ := hcut
          cases kq with
          | zero => exact absurd HA.out (by simp [spec_jIdentifiers.j1])
          | succ kj3 =>
            have H := HA.out
            clear HA
            simp only [spec_jIdentifiers.j1] at H
            by_cases c9 : x23_3 = true
            · subst c9
              have H1 : (if 0 ≤ x5_1 then (if x5_1 ≤ x6_1 then (if x6_1 ≤ (a0.size : Int) then ((spec_jIdentifier.f kj3 (a0.extract (x5_1 : Int).toNat (x6_1 : Int).toNat)).bind fun t113 => (if t113 = true then (if a1 = true then ((spec_jDigits.f kj3 (a0.extract (x5_1 : Int).toNat (x6_1 : Int).toNat)).bind fun t114 => (if t114 = true then ((spec_jPlain.f kj3 (a0.extract (x5_1 : Int).toNat (x6_1 : Int).toNat)).bind fun t115 => (if t115 = true then (spec_jIdentifiers.l0 kj3 a0 a1 (wrap64 (x6_1 + 1)) (wrap64 (x6_1 + 1))) else (some false))) else (spec_jIdentifiers.l0 kj3 a0 a1 (wrap64 (x6_1 + 1)) (wrap64 (x6_1 + 1))))) else (spec_jIdentifiers.l0 kj3 a0 a1 (wrap64 (x6_1 + 1)) (wrap64 (x6_1 + 1)))) else (some false))) else (none)) else (none)) else (none)) = some r := by rw [if_pos rfl] at H; exact H
              clear H
              have H := H1
              clear H1
              by_cases c10 : 0 ≤ x5_1
              · rw [if_pos c10] at H
                have c10b0 := eq_true c10
                have c10b1 : decide (0 ≤ x5_1) = true := decide_eq_true c10
                clear c10
                by_cases c11 : x5_1 ≤ x6_1
                · rw [if_pos c11] at H
                  have c11b0 := eq_true c11
                  have c11b1 : decide (x5_1 ≤ x6_1) = true := decide_eq_true c11
                  clear c11
                  by_cases c12 : x6_1 ≤ (a0.size : Int)
                  · rw [if_pos c12] at H
                    have c12b0 := eq_true c12
                    have c12b1 : decide (x6_1 ≤ (a0.size : Int)) = true := decide_eq_true c12
                    clear c12
                    replace H := Option.bind_eq_some_iff.mp H
                    obtain ⟨t113, A130, H⟩ := H
                    replace H : (if t113 = true then (if a1 = true then ((spec_jDigits.f kj3 (a0.extract (x5_1 : Int).toNat (x6_1 : Int).toNat)).bind fun t114 => (if t114 = true then ((spec_jPlain.f kj3 (a0.extract (x5_1 : Int).toNat (x6_1 : Int).toNat)).bind fun t115 => (if t115 = true then (spec_jIdentifiers.l0 kj3 a0 a1 (wrap64 (x6_1 + 1)) (wrap64 (x6_1 + 1))) else (some false))) else (spec_jIdentifiers.l0 kj3 a0 a1 (wrap64 (x6_1 + 1)) (wrap64 (x6_1 + 1))))) else (spec_jIdentifiers.l0 kj3 a0 a1 (wrap64 (x6_1 + 1)) (wrap64 (x6_1 + 1)))) else (some false)) = some r := H
                    have A13 := Aside0.mk A130
                    clear A130
                    by_cases c14 : t113 = true
                    · subst c14
                      have H1 : (if a1 = true then ((spec_jDigits.f kj3 (a0.extract (x5_1 : Int).toNat (x6_1 : Int).toNat)).bind fun t114 => (if t114 = true then ((spec_jPlain.f kj3 (a0.extract (x5_1 : Int).toNat (x6_1 : Int).toNat)).bind fun t115 => (if t115 = true then (spec_jIdentifiers.l0 kj3 a0 a1 (wrap64 (x6_1 + 1)) (wrap64 (x6_1 + 1))) else (some false))) else (spec_jIdentifiers.l0 kj3 a0 a1 (wrap64 (x6_1 + 1)) (wrap64 (x6_1 + 1))))) else (spec_jIdentifiers.l0 kj3 a0 a1 (wrap64 (x6_1 + 1)) (wrap64 (x6_1 + 1)))) = some r := by rw [if_pos rfl] at H; exact H
                      clear H
                      have H := H1
                      clear H1
                      by_cases c15 : a1 = true
                      · subst c15
                        have H1 : ((spec_jDigits.f kj3 (a0.extract (x5_1 : Int).toNat (x6_1 : Int).toNat)).bind fun t114 => (if t114 = true then ((spec_jPlain.f kj3 (a0.extract (x5_1 : Int).toNat (x6_1 : Int).toNat)).bind fun t115 => (if t115 = true then (spec_jIdentifiers.l0 kj3 a0 true (wrap64 (x6_1 + 1)) (wrap64 (x6_1 + 1))) else (some false))) else (spec_jIdentifiers.l0 kj3 a0 true (wrap64 (x6_1 + 1)) (wrap64 (x6_1 + 1))))) = some r := by rw [if_pos rfl] at H; exact H
                        clear H
                        have H := H1
                        clear H1
                        replace H := Option.bind_eq_some_iff.mp H
                        obtain ⟨t114, A160, H⟩ := H
                        replace H : (if t114 = true then ((spec_jPlain.f kj3 (a0.extract (x5_1 : Int).toNat (x6_1 : Int).toNat)).bind fun t115 => (if t115 = true then (spec_jIdentifiers.l0 kj3 a0 true (wrap64 (x6_1 + 1)) (wrap64 (x6_1 + 1))) else (some false))) else (spec_jIdentifiers.l0 kj3 a0 true (wrap64 (x6_1 + 1)) (wrap64 (x6_1 + 1)))) = some r := H
                        have A16 := Aside0.mk A160
                        clear A160
                        by_cases c17 : t114 = true
                        · subst c17
                          have H1 : ((spec_jPlain.f kj3 (a0.extract (x5_1 : Int).toNat (x6_1 : Int).toNat)).bind fun t115 => (if t115 = true then (spec_jIdentifiers.l0 kj3 a0 true (wrap64 (x6_1 + 1)) (wrap64 (x6_1 + 1))) else (some false))) = some r := by rw [if_pos rfl] at H; exact H
                          clear H
                          have H := H1
                          clear H1
                          replace H := Option.bind_eq_some_iff.mp H
                          obtain ⟨t115, A180, H⟩ := H
                          replace H : (if t115 = true then (spec_jIdentifiers.l0 kj3 a0 true (wrap64 (x6_1 + 1)) (wrap64 (x6_1 + 1))) else (some false)) = some r := H
                          have A18 := Aside0.mk A180
                          clear A180
                          by_cases c19 : t115 = true
                          · subst c19
                            have H1 : (spec_jIdentifiers.l0 kj3 a0 true (wrap64 (x6_1 + 1)) (wrap64 (x6_1 + 1))) = some r := by rw [if_pos rfl] at H; exact H
                            clear H
                            have H := H1
                            clear H1
                            have H' := Aside0.mk H
                            clear H
                            go_wp2_with (first | ((with_reducible refine gate_callee (f := 61) rfl ?_); refine goesL_ (some 29) rfl rfl Try.func61 (by kernel_rfl) rfl #[.string (a0.extract (x5_1 : Int).toNat (x6_1 : Int).toNat)] rfl (by (try simp only [List.map_toArray, List.map_cons, List.map_nil]); first | done | rfl | (simp only [List.length_drop, List.length_take]; rfl)) ?_; (with_reducible refine (spec_jIdentifier.calls kj3 (a0.extract (x5_1 : Int).toNat (x6_1 : Int).toNat) true _ A13.out).mono ?_); rintro e w' ⟨rfl, ⟨nd, rfl⟩⟩; refine ⟨_, rfl, ?_⟩) | (go_at_call 62; (with_reducible refine (spec_jDigits.calls kj3 (a0.extract (x5_1 : Int).toNat (x6_1 : Int).toNat) true _ A16.out).mono ?_); rintro e w' ⟨rfl, ⟨nd, rfl⟩⟩) | (go_at_call 46; (with_reducible refine (spec_jPlain.calls kj3 (a0.extract (x5_1 : Int).toNat (x6_1 : Int).toNat) true _ A18.out).mono ?_); rintro e w' ⟨rfl, ⟨nd, rfl⟩⟩))
                            go_roundg kj3
                            case measure => have := HK1.out; have := HJ3.out; omega
                            case rel => exact ⟨(wrap64 (x6_1 + 1)), (wrap64 (x6_1 + 1)), (by first | rfl | (simp; done) | (simp [*]; done)), (by first | rfl | (simp; done) | (simp [*]; done)), H', ⟨by have := HK1.out; have := HJ3.out; omega⟩, by repeat (first | exact Drawn0.refl _ | apply Drawn0.step)⟩
                          · replace c19 := Bool.eq_false_iff.mpr c19
                            subst c19
                            have H1 : (some false) = some r := by rw [if_neg (show ¬ (false = true) by decide)] at H; exact H
                            clear H
                            have H := H1
                            clear H1
                            obtain rfl := Option.some.inj H
                            go_wp2_with (first | ((with_reducible refine gate_callee (f := 61) rfl ?_); refine goesL_ (some 29) rfl rfl Try.func61 (by kernel_rfl) rfl #[.string (a0.extract (x5_1 : Int).toNat (x6_1 : Int).toNat)] rfl (by (try simp only [List.map_toArray, List.map_cons, List.map_nil]); first | done | rfl | (simp only [List.length_drop, List.length_take]; rfl)) ?_; (with_reducible refine (spec_jIdentifier.calls kj3 (a0.extract (x5_1 : Int).toNat (x6_1 : Int).toNat) true _ A13.out).mono ?_); rintro e w' ⟨rfl, ⟨nd, rfl⟩⟩; refine ⟨_, rfl, ?_⟩) | (go_at_call 62; (with_reducible refine (spec_jDigits.calls kj3 (a0.extract (x5_1 : Int).toNat (x6_1 : Int).toNat) true _ A16.out).mono ?_); rintro e w' ⟨rfl, ⟨nd, rfl⟩⟩) | (go_at_call 46; (with_reducible refine (spec_jPlain.calls kj3 (a0.extract (x5_1 : Int).toNat (x6_1 : Int).toNat) false _ A18.out).mono ?_); rintro e w' ⟨rfl, ⟨nd, rfl⟩⟩))
                            go_ret
                            exact ⟨by first | rfl | (simp; done) | (simp [*]; done), by repeat (first | exact Drawn0.refl _ | apply Drawn0.step)⟩
                        · replace c17 := Bool.eq_false_iff.mpr c17
                          subst c17
                          have H1 : (spec_jIdentifiers.l0 kj3 a0 true (wrap64 (x6_1 + 1)) (wrap64 (x6_1 + 1))) = some r := by rw [if_neg (show ¬ (false = true) by decide)] at H; exact H
                          clear H
                          have H := H1
                          clear H1
                          have H' := Aside0.mk H
                          clear H
                          go_wp2_with (first | ((with_reducible refine gate_callee (f := 61) rfl ?_); refine goesL_ (some 29) rfl rfl Try.func61 (by kernel_rfl) rfl #[.string (a0.extract (x5_1 : Int).toNat (x6_1 : Int).toNat)] rfl (by (try simp only [List.map_toArray, List.map_cons, List.map_nil]); first | done | rfl | (simp only [List.length_drop, List.length_take]; rfl)) ?_; (with_reducible refine (spec_jIdentifier.calls kj3 (a0.extract (x5_1 : Int).toNat (x6_1 : Int).toNat) true _ A13.out).mono ?_); rintro e w' ⟨rfl, ⟨nd, rfl⟩⟩; refine ⟨_, rfl, ?_⟩) | (go_at_call 62; (with_reducible refine (spec_jDigits.calls kj3 (a0.extract (x5_1 : Int).toNat (x6_1 : Int).toNat) false _ A16.out).mono ?_); rintro e w' ⟨rfl, ⟨nd, rfl⟩⟩))
                          go_roundg kj3
                          case measure => have := HK1.out; have := HJ3.out; omega
                          case rel => exact ⟨(wrap64 (x6_1 + 1)), (wrap64 (x6_1 + 1)), (by first | rfl | (simp; done) | (simp [*]; done)), (by first | rfl | (simp; done) | (simp [*]; done)), H', ⟨by have := HK1.out; have := HJ3.out; omega⟩, by repeat (first | exact Drawn0.refl _ | apply Drawn0.step)⟩
                      · replace c15 := Bool.eq_false_iff.mpr c15
                        subst c15
                        have H1 : (spec_jIdentifiers.l0 kj3 a0 false (wrap64 (x6_1 + 1)) (wrap64 (x6_1 + 1))) = some r := by rw [if_neg (show ¬ (false = true) by decide)] at H; exact H
                        clear H
                        have H := H1
                        clear H1
                        have H' := Aside0.mk H
                        clear H
                        go_wp2_with (first | ((with_reducible refine gate_callee (f := 61) rfl ?_); refine goesL_ (some 29) rfl rfl Try.func61 (by kernel_rfl) rfl #[.string (a0.extract (x5_1 : Int).toNat (x6_1 : Int).toNat)] rfl (by (try simp only [List.map_toArray, List.map_cons, List.map_nil]); first | done | rfl | (simp only [List.length_drop, List.length_take]; rfl)) ?_; (with_reducible refine (spec_jIdentifier.calls kj3 (a0.extract (x5_1 : Int).toNat (x6_1 : Int).toNat) true _ A13.out).mono ?_); rintro e w' ⟨rfl, ⟨nd, rfl⟩⟩; refine ⟨_, rfl, ?_⟩))
                        go_roundg kj3
                        case measure => have := HK1.out; have := HJ3.out; omega
                        case rel => exact ⟨(wrap64 (x6_1 + 1)), (wrap64 (x6_1 + 1)), (by first | rfl | (simp; done) | (simp [*]; done)), (by first | rfl | (simp; done) | (simp [*]; done)), H', ⟨by have := HK1.out; have := HJ3.out; omega⟩, by repeat (first | exact Drawn0.refl _ | apply Drawn0.step)⟩
                    · replace c14 := Bool.eq_false_iff.mpr c14
                      subst c14
                      have H1 : (some false) = some r := by rw [if_neg (show ¬ (false = true) by decide)] at H; exact H
                      clear H
                      have H := H1
                      clear H1
                      obtain rfl := Option.some.inj H
                      go_wp2_with (first | ((with_reducible refine gate_callee (f := 61) rfl ?_); refine goesL_ (some 29) rfl rfl Try.func61 (by kernel_rfl) rfl #[.string (a0.extract (x5_1 : Int).toNat (x6_1 : Int).toNat)] rfl (by (try simp only [List.map_toArray, List.map_cons, List.map_nil]); first | done | rfl | (simp only [List.length_drop, List.length_take]; rfl)) ?_; (with_reducible refine (spec_jIdentifier.calls kj3 (a0.extract (x5_1 : Int).toNat (x6_1 : Int).toNat) false _ A13.out).mono ?_); rintro e w' ⟨rfl, ⟨nd, rfl⟩⟩; refine ⟨_, rfl, ?_⟩))
                      go_ret
                      exact ⟨by first | rfl | (simp; done) | (simp [*]; done), by repeat (first | exact Drawn0.refl _ | apply Drawn0.step)⟩
                  · rw [if_neg c12] at H
                    exact absurd H (by simp)
                · rw [if_neg c11] at H
                  exact absurd H (by simp)
              · rw [if_neg c10] at H
                exact absurd H (by simp)
            · replace c9 := Bool.eq_false_iff.mpr c9
              subst c9
              have H1 : (spec_jIdentifiers.l0 kj3 a0 a1 x5_1 (wrap64 (x6_1 + 1))) = some r := by rw [if_neg (show ¬ (false = true) by decide)] at H; exact H
              clear H
              have H := H1
              clear H1
              have H' := Aside0.mk H
              clear H
              go_wp2
              go_roundg kj3
              case measure => have := HK1.out; have := HJ3.out; omega
              case rel => exact ⟨(x5_1), (wrap64 (x6_1 + 1)), (by first | rfl | (simp; done) | (simp [*]; done)), (by first | rfl | (simp; done) | (simp [*]; done)), H', ⟨by have := HK1.out; have := HJ3.out; omega⟩, by repeat (first | exact Drawn0.refl _ | apply Drawn0.step)⟩
      · rw [if_neg c3] at H
        have c3b0 : decide (x6_1 ≤ (a0.size : Int)) = false := decide_eq_false c3
        clear c3
        obtain rfl := Option.some.inj H
        go_wp2
        go_ret
        exact ⟨by first | rfl | (simp; done) | (simp [*]; done), by repeat (first | exact Drawn0.refl _ | apply Drawn0.step)⟩

end Go.Proofs.Ytdjmjgdafghdgaa.PFnJSemver
