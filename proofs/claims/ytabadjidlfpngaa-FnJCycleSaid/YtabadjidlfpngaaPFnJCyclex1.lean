-- PRINTED BY print.sh 35421559b90ae4d0a3588c463048766b98c2df88dd9212a6774a882060cdf62d: not written by this session
import Derived.Test.YtabadjidlfpngaaPFnJCyclex0
namespace Go.Proofs.Ytabadjidlfpngaa.PFnJCycle
open Go.RowKit Go.Proofs.YtabadjidlfpngaaW.PrintWords Go.Proofs.YtabadjidlfpngaaW.PrintLast Go.Proofs.YtabadjidlfpngaaW.PrintMore
attribute [local go_sem] max2_int min2_int max_two min_two max_three min_three max_four min_four   -- for this text's walks alone
set_option linter.unusedVariables false
set_option linter.unusedSimpArgs false

-- NOT PRINTED: function 29 (jsonwhole_scopes)

-- NOT PRINTED: function 30 (jsonwhole_scope_checkCycle)

-- NOT PRINTED: function 19 (jsonwhole_Cycle)

-- NOT PRINTED: function 7 (impl_JCycle)

/-! ### spec_JCycle: function 8 -/
mutual
def spec_JCycle.l0 : Nat → List (S40) → Int → Option (Int)
  | 0, _, _ => none
  | k + 1, x0, x3 => if x3 ≥ 0 then (if 0 ≤ x3 then (if x3 < (x0.length : Int) then (if 0 ≤ (wrap64 ((x0.length : Int) - 1)) then (if (wrap64 ((x0.length : Int) - 1)) < (x0.length : Int) then (spec_JCycle.j1 k x0 x3 (((rd_T40 x0 x3).f1) == ((rd_T40 x0 (wrap64 ((x0.length : Int) - 1))).f1))) else (none)) else (none)) else (none)) else (none)) else (spec_JCycle.j1 k x0 x3 false)
def spec_JCycle.j1 : Nat → List (S40) → Int → Bool → Option (Int)
  | 0, _, _, _ => none
  | k + 1, x0, x3, x23 => if x23 = true then (if 0 ≤ x3 then (if x3 < (x0.length : Int) then (if 0 ≤ (wrap64 ((x0.length : Int) - 1)) then (if (wrap64 ((x0.length : Int) - 1)) < (x0.length : Int) then (if ((rd_T40 x0 x3).f0) = ((rd_T40 x0 (wrap64 ((x0.length : Int) - 1))).f0) then (some (wrap64 ((wrap64 ((x0.length : Int) - 2)) - x3))) else (spec_JCycle.l0 k x0 (wrap64 (x3 - 1)))) else (none)) else (none)) else (none)) else (none)) else (some (-1))
end
def spec_JCycle.f (k : Nat) (l0 : List (S40)) : Option (Int) := spec_JCycle.l0 k l0 (wrap64 ((l0.length : Int) - 2))
theorem spec_JCycle.mono_l : ∀ k, (∀ y0 y1, LeO (spec_JCycle.l0 k y0 y1) (spec_JCycle.l0 (k + 1) y0 y1)) ∧ (∀ y0 y1 y2, LeO (spec_JCycle.j1 k y0 y1 y2) (spec_JCycle.j1 (k + 1) y0 y1 y2))
  | 0 => ⟨fun _ _ r h => by simp [spec_JCycle.l0] at h, fun _ _ _ r h => by simp [spec_JCycle.j1] at h⟩
  | k + 1 => by
    obtain ⟨ih0, ih1⟩ := spec_JCycle.mono_l k
    refine ⟨?_, ?_⟩
    · intro y0 y1
      unfold spec_JCycle.l0
      repeat' first
      | (with_reducible exact ih0 _ _)
      | (with_reducible exact ih1 _ _ _)
      | (with_reducible exact LeO.refl _)
      | (with_reducible exact LeO.none _)
      | (with_reducible refine LeO.ite ?_ ?_)
      | (with_reducible refine LeO.bind ?_ (fun _ => ?_))
      | exact ih0 _ _
      | exact ih1 _ _ _
      | exact LeO.none _
      | refine LeO.ite ?_ ?_
      | refine LeO.bind ?_ (fun _ => ?_)
    · intro y0 y1 y2
      unfold spec_JCycle.j1
      repeat' first
      | (with_reducible exact ih0 _ _)
      | (with_reducible exact ih1 _ _ _)
      | (with_reducible exact LeO.refl _)
      | (with_reducible exact LeO.none _)
      | (with_reducible refine LeO.ite ?_ ?_)
      | (with_reducible refine LeO.bind ?_ (fun _ => ?_))
      | exact ih0 _ _
      | exact ih1 _ _ _
      | exact LeO.none _
      | refine LeO.ite ?_ ?_
      | refine LeO.bind ?_ (fun _ => ?_)
theorem spec_JCycle.mono : ∀ a0 k, LeO (spec_JCycle.f k a0) (spec_JCycle.f (k + 1) a0) := by
  intro a0 k
  obtain ⟨ih0, ih1⟩ := spec_JCycle.mono_l k
  unfold spec_JCycle.f
  repeat' first
      | (with_reducible exact ih0 _ _)
      | (with_reducible exact ih1 _ _ _)
      | (with_reducible exact LeO.refl _)
      | (with_reducible exact LeO.none _)
      | (with_reducible refine LeO.ite ?_ ?_)
      | (with_reducible refine LeO.bind ?_ (fun _ => ?_))
      | exact ih0 _ _
      | exact ih1 _ _ _
      | exact LeO.none _
      | refine LeO.ite ?_ ?_
      | refine LeO.bind ?_ (fun _ => ?_)
set_option maxHeartbeats 8000000 in
set_option maxRecDepth 100000 in
theorem spec_JCycle.calls (k : Nat) (A0 : Option Addr) (c0 : Nat) (l0 : List (S40)) (r : Int) (w : World) (hr0 : Kd.C k40 w A0 l0.length l0) (hc0 : l0.length ≤ c0) (h : spec_JCycle.f k l0 = some r) :
    Calls Try.prog 8 #[.slice A0 l0.length c0] w fun e w' => e = .returned (.int .i64 r) ∧ Drawn0 w w' := by
  have HR0 := Aside0.mk hr0
  have HC0 := Aside0.mk hc0
  clear hr0 hc0
  have H : (spec_JCycle.l0 k l0 (wrap64 ((l0.length : Int) - 2))) = some r := h
  clear h
  have H' := Aside0.mk H
  clear H
  go_enter Try.func8, Try.ntmps8
  go_wp2
  repeat (go_quiet (fail); try go_wp2)
  go_loopg [3] k (fun kq v3 w' => ∃ (x3_1 : Int), v3 = .int .i64 x3_1 ∧ Aside0 (spec_JCycle.l0 kq l0 x3_1 = some r) ∧ Aside0 (kq ≤ k) ∧ Drawn0 w w')
  case atStart => exact ⟨(wrap64 ((l0.length : Int) - 2)), (by first | rfl | (simp; done) | (simp [*]; done)), H', ⟨Nat.le_refl _⟩, by repeat (first | exact Drawn0.refl _ | apply Drawn0.step)⟩
  case round =>
    clear H'
    obtain ⟨x3_1, rfl, HA, HK1, ⟨m1, rfl⟩⟩ := hrel
    cases gk with
    | zero => exact absurd HA.out (by simp [spec_JCycle.l0])
    | succ k1 =>
      have H := HA.out
      clear HA
      simp only [spec_JCycle.l0] at H
      have HC2 := Aside0.mk H
      clear H
      go_upto_region 2 with (fail)
      repeat (go_quiet (fail); go_upto_region 2 with (fail))
      go_cut [23] (fun v23 wc => ∃ (kq : Nat) (x23_1 : Bool), v23 = .bool x23_1 ∧ Aside0 (spec_JCycle.j1 kq l0 x3_1 x23_1 = some r) ∧ Aside0 (kq ≤ k1) ∧ Drawn0 w wc)
      case first =>
        have H := HC2.out
        clear HC2
        by_cases c3 : x3_1 ≥ 0
        · rw [if_pos c3] at H
          have c3b0 : decide (0 ≤ x3_1) = true := decide_eq_true c3
          clear c3
          (first | rw [c3b0] | (simp only [i64_w, i32_w]; rw [c3b0]) | skip)
          by_cases c4 : 0 ≤ x3_1
          · rw [if_pos c4] at H
            have c4b0 : decide (0 ≤ x3_1) = true := decide_eq_true c4
            clear c4
            by_cases c5 : x3_1 < (l0.length : Int)
            · rw [if_pos c5] at H
              have c5b0 : decide (x3_1 < (l0.length : Int)) = true := decide_eq_true c5
              clear c5
              obtain ⟨ji6, hji6⟩ : ∃ j_ : Int, (wrap64 ((l0.length : Int) - 1)) = j_ := ⟨_, rfl⟩
              replace H : (if 0 ≤ (ji6) then (if (ji6) < (l0.length : Int) then (spec_JCycle.j1 k1 l0 x3_1 (((rd_T40 l0 x3_1).f1) == ((rd_T40 l0 (ji6)).f1))) else (none)) else (none)) = some r := by first | (rw [hji6] at H; exact H) | (simp only [hji6] at H ⊢; exact H)
              have hji6w : (IntKind.i64.wrap ((l0.length : Int) - 1)) = ji6 := (i64_w _).trans hji6
              by_cases c7 : 0 ≤ (ji6)
              · rw [if_pos c7] at H
                have c7b0 : decide (0 ≤ (ji6)) = true := decide_eq_true c7
                clear c7
                by_cases c8 : (ji6) < (l0.length : Int)
                · rw [if_pos c8] at H
                  have c8b0 : decide ((ji6) < (l0.length : Int)) = true := decide_eq_true c8
                  clear c8
                  have H' := Aside0.mk H
                  clear H
                  have p109 : 0 ≤ (x3_1 : Int) := of_decide_eq_true (by first | (with_reducible assumption) | assumption)
                  have q109 : x3_1 < (l0.length : Int) := of_decide_eq_true (by first | (with_reducible assumption) | assumption)
                  obtain ⟨ad109, e109, hx109_0, hx109_1⟩ := at_T40 HR0.out x3_1 p109 q109
                  cases e109
                  replace p109 := eq_true p109
                  replace q109 := eq_true q109
                  have p110 : 0 ≤ ((ji6) : Int) := of_decide_eq_true (by first | (with_reducible assumption) | assumption)
                  have q110 : (ji6) < (l0.length : Int) := of_decide_eq_true (by first | (with_reducible assumption) | assumption)
                  obtain ⟨ad110, e110, hx110_0, hx110_1⟩ := at_T40 HR0.out (ji6) p110 q110
                  obtain rfl : ad109 = ad110 := (by injection e110)
                  replace p110 := eq_true p110
                  replace q110 := eq_true q110
                  go_wp2
                  repeat (go_quiet (fail); try go_wp2)
                  go_meet
                  case rel => exact ⟨_, ((((rd_T40 l0 x3_1).f1) == ((rd_T40 l0 (ji6)).f1))), (by first | rfl | (simp; done) | (simp only [← hji6] <;> (first | rfl | simp)) | (simp [*]; done)), H', ⟨by have := HK1.out; first | omega | exact Nat.le_refl _⟩, by repeat (first | exact Drawn0.refl _ | apply Drawn0.step)⟩
                · rw [if_neg c8] at H
                  exact absurd H (by simp)
              · rw [if_neg c7] at H
                exact absurd H (by simp)
            · rw [if_neg c5] at H
              exact absurd H (by simp)
          · rw [if_neg c4] at H
            exact absurd H (by simp)
        · rw [if_neg c3] at H
          have c3b0 : decide (0 ≤ x3_1) = false := decide_eq_false c3
          clear c3
          (first | rw [c3b0] | (simp only [i64_w, i32_w]; rw [c3b0]) | skip)
          have H' := Aside0.mk H
          clear H
          go_wp2
          repeat (go_quiet (fail); try go_wp2)
          go_meet
          case rel => exact ⟨_, (false), (by first | rfl | (simp; done) | (simp [*]; done)), H', ⟨by have := HK1.out; first | omega | exact Nat.le_refl _⟩, by repeat (first | exact Drawn0.refl _ | apply Drawn0.step)⟩
      case rest =>
        clear HC2
        try clear p1
        try clear q1
        try clear hx1
        try clear p2
        try clear c3
        try clear c3b0
        try clear c4
        try clear c4b0
        try clear c5
        try clear c5b0
        try clear p6
        try clear c7
        try clear c7b0
        try clear c8
        try clear c8b0
        try clear hx109_0
        try clear hx109_1
        try clear hx110_0
        try clear hx110_1
        try clear p109
        try clear p110
        try clear q109
        try clear q110
        obtain ⟨kq, x23_1, rfl, HA, HJ1, ⟨mc1, rfl⟩⟩ := hcut
        cases kq with
        | zero => exact absurd HA.out (by simp [spec_JCycle.j1])
        | succ kj1 =>
          have H := HA.out
          clear HA
          simp only [spec_JCycle.j1] at H
          by_cases c9 : x23_1 = true
          · subst c9
            have H1 : (if 0 ≤ x3_1 then (if x3_1 < (l0.length : Int) then (if 0 ≤ (wrap64 ((l0.length : Int) - 1)) then (if (wrap64 ((l0.length : Int) - 1)) < (l0.length : Int) then (if ((rd_T40 l0 x3_1).f0) = ((rd_T40 l0 (wrap64 ((l0.length : Int) - 1))).f0) then (some (wrap64 ((wrap64 ((l0.length : Int) - 2)) - x3_1))) else (spec_JCycle.l0 kj1 l0 (wrap64 (x3_1 - 1)))) else (none)) else (none)) else (none)) else (none)) = some r := by rw [if_pos rfl] at H; exact H
            clear H
            have H := H1
            clear H1
            by_cases c10 : 0 ≤ x3_1
            · rw [if_pos c10] at H
              have c10b0 : decide (0 ≤ x3_1) = true := decide_eq_true c10
              clear c10
              by_cases c11 : x3_1 < (l0.length : Int)
              · rw [if_pos c11] at H
                have c11b0 : decide (x3_1 < (l0.length : Int)) = true := decide_eq_true c11
                clear c11
                obtain ⟨ji12, hji12⟩ : ∃ j_ : Int, (wrap64 ((l0.length : Int) - 1)) = j_ := ⟨_, rfl⟩
                replace H : (if 0 ≤ (ji12) then (if (ji12) < (l0.length : Int) then (if ((rd_T40 l0 x3_1).f0) = ((rd_T40 l0 (ji12)).f0) then (some (wrap64 ((wrap64 ((l0.length : Int) - 2)) - x3_1))) else (spec_JCycle.l0 kj1 l0 (wrap64 (x3_1 - 1)))) else (none)) else (none)) = some r := by first | (rw [hji12] at H; exact H) | (simp only [hji12] at H ⊢; exact H)
                have hji12w : (IntKind.i64.wrap ((l0.length : Int) - 1)) = ji12 := (i64_w _).trans hji12
                by_cases c13 : 0 ≤ (ji12)
                · rw [if_pos c13] at H
                  have c13b0 : decide (0 ≤ (ji12)) = true := decide_eq_true c13
                  clear c13
                  by_cases c14 : (ji12) < (l0.length : Int)
                  · rw [if_pos c14] at H
                    have c14b0 : decide ((ji12) < (l0.length : Int)) = true := decide_eq_true c14
                    clear c14
                    by_cases c15 : ((rd_T40 l0 x3_1).f0) = ((rd_T40 l0 (ji12)).f0)
                    · rw [if_pos c15] at H
                      have c15b0 : (((rd_T40 l0 x3_1).f0) == ((rd_T40 l0 (ji12)).f0)) = true := beq_iff_eq.mpr c15
                      have c15b1 : (((rd_T40 l0 x3_1).f0) != ((rd_T40 l0 (ji12)).f0)) = false := bne_eq_false_iff_eq.mpr c15
                      clear c15
                      obtain rfl := Option.some.inj H
                      have p111 : 0 ≤ (x3_1 : Int) := of_decide_eq_true (by first | (with_reducible assumption) | assumption)
                      have q111 : x3_1 < (l0.length : Int) := of_decide_eq_true (by first | (with_reducible assumption) | assumption)
                      obtain ⟨ad111, e111, hx111_0, hx111_1⟩ := at_T40 HR0.out x3_1 p111 q111
                      cases e111
                      replace p111 := eq_true p111
                      replace q111 := eq_true q111
                      have p112 : 0 ≤ ((ji12) : Int) := of_decide_eq_true (by first | (with_reducible assumption) | assumption)
                      have q112 : (ji12) < (l0.length : Int) := of_decide_eq_true (by first | (with_reducible assumption) | assumption)
                      obtain ⟨ad112, e112, hx112_0, hx112_1⟩ := at_T40 HR0.out (ji12) p112 q112
                      obtain rfl : ad111 = ad112 := (by injection e112)
                      replace p112 := eq_true p112
                      replace q112 := eq_true q112
                      go_wp2
                      repeat (go_quiet (fail); try go_wp2)
                      go_ret
                      exact ⟨by first | rfl | (simp; done) | (simp only [← hji12] <;> (first | rfl | simp)) | (simp [*]; done), by repeat (first | exact Drawn0.refl _ | apply Drawn0.step)⟩
                    · rw [if_neg c15] at H
                      have c15b0 : (((rd_T40 l0 x3_1).f0) == ((rd_T40 l0 (ji12)).f0)) = false := beq_eq_false_iff_ne.mpr c15
                      have c15b1 : (((rd_T40 l0 x3_1).f0) != ((rd_T40 l0 (ji12)).f0)) = true := bne_iff_ne.mpr c15
                      have H' := Aside0.mk H
                      clear H
                      have p111 : 0 ≤ (x3_1 : Int) := of_decide_eq_true (by first | (with_reducible assumption) | assumption)
                      have q111 : x3_1 < (l0.length : Int) := of_decide_eq_true (by first | (with_reducible assumption) | assumption)
                      obtain ⟨ad111, e111, hx111_0, hx111_1⟩ := at_T40 HR0.out x3_1 p111 q111
                      cases e111
                      replace p111 := eq_true p111
                      replace q111 := eq_true q111
                      have p112 : 0 ≤ ((ji12) : Int) := of_decide_eq_true (by first | (with_reducible assumption) | assumption)
                      have q112 : (ji12) < (l0.length : Int) := of_decide_eq_true (by first | (with_reducible assumption) | assumption)
                      obtain ⟨ad112, e112, hx112_0, hx112_1⟩ := at_T40 HR0.out (ji12) p112 q112
                      obtain rfl : ad111 = ad112 := (by injection e112)
                      replace p112 := eq_true p112
                      replace q112 := eq_true q112
                      go_wp2
                      repeat (go_quiet (fail); try go_wp2)
                      go_roundg kj1
                      case measure => have := HK1.out; have := HJ1.out; omega
                      case rel => exact ⟨(wrap64 (x3_1 - 1)), (by first | rfl | (simp; done) | (simp [*]; done)), H', ⟨by have := HK1.out; have := HJ1.out; omega⟩, by repeat (first | exact Drawn0.refl _ | apply Drawn0.step)⟩
                  · rw [if_neg c14] at H
                    exact absurd H (by simp)
                · rw [if_neg c13] at H
                  exact absurd H (by simp)
              · rw [if_neg c11] at H
                exact absurd H (by simp)
            · rw [if_neg c10] at H
              exact absurd H (by simp)
          · replace c9 := Bool.eq_false_iff.mpr c9
            subst c9
            have H1 : (some (-1)) = some r := by rw [if_neg (show ¬ (false = true) by decide)] at H; exact H
            clear H
            have H := H1
            clear H1
            obtain rfl := Option.some.inj H
            go_wp2
            repeat (go_quiet (fail); try go_wp2)
            go_ret
            exact ⟨by first | rfl | (simp; done) | (simp [*]; done), by repeat (first | exact Drawn0.refl _ | apply Drawn0.step)⟩

-- NOT PRINTED: function 3 (laws_FnJCycle)

end Go.Proofs.Ytabadjidlfpngaa.PFnJCycle
