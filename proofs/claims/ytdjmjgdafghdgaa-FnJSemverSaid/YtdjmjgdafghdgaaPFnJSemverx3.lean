-- PRINTED BY print.sh 35421559b90ae4d0a3588c463048766b98c2df88dd9212a6774a882060cdf62d: not written by this session
import Derived.Test.YtdjmjgdafghdgaaPFnJSemverx0
import Derived.Test.YtdjmjgdafghdgaaPFnJSemverx1
import Derived.Test.YtdjmjgdafghdgaaPFnJSemverx2
namespace Go.Proofs.Ytdjmjgdafghdgaa.PFnJSemver
open Go.RowKit Go.Proofs.YtdjmjgdafghdgaaW.PrintWords Go.Proofs.YtdjmjgdafghdgaaW.PrintLast Go.Proofs.YtdjmjgdafghdgaaW.PrintMore
attribute [local go_sem] max2_int min2_int max_two min_two max_three min_three max_four min_four   -- for this text's walks alone
set_option linter.unusedVariables false
set_option linter.unusedSimpArgs false

/-! ### spec_JSemver: function 29 -/
mutual
def spec_JSemver.j1 : Nat → ByteArray → Int → Option (Bool)
  | 0, _, _ => none
  | k + 1, x0, x3 => if x3 < (x0.size : Int) then (if 0 ≤ (wrap64 (x3 + 1)) then (if (wrap64 (x3 + 1)) ≤ (x0.size : Int) then ((spec_jIdentifiers.f k (x0.extract ((wrap64 (x3 + 1)) : Int).toNat x0.size) false).bind fun t116 => (spec_JSemver.j2 k x0 x3 (!t116))) else (none)) else (none)) else (spec_JSemver.j2 k x0 x3 false)
def spec_JSemver.j2 : Nat → ByteArray → Int → Bool → Option (Bool)
  | 0, _, _, _ => none
  | k + 1, x0, x3, x31 => if x31 = true then (some false) else (spec_JSemver.l1 k x0 x3 0)
def spec_JSemver.j4 : Nat → ByteArray → Int → Int → Option (Bool)
  | 0, _, _, _ => none
  | k + 1, x0, x3, x4 => if x4 < x3 then (if 0 ≤ (wrap64 (x4 + 1)) then (if (wrap64 (x4 + 1)) ≤ x3 then (if x3 ≤ (x0.size : Int) then ((spec_jIdentifiers.f k (x0.extract ((wrap64 (x4 + 1)) : Int).toNat (x3 : Int).toNat) true).bind fun t117 => (spec_JSemver.j5 k x0 x4 (!t117))) else (none)) else (none)) else (none)) else (spec_JSemver.j5 k x0 x4 false)
def spec_JSemver.j5 : Nat → ByteArray → Int → Bool → Option (Bool)
  | 0, _, _, _ => none
  | k + 1, x0, x4, x54 => if x54 = true then (some false) else (spec_JSemver.l2 k x0 x4 0 0 0)
def spec_JSemver.l2 : Nat → ByteArray → Int → Int → Int → Int → Option (Bool)
  | 0, _, _, _, _, _ => none
  | k + 1, x0, x4, x5, x6, x7 => if x7 ≤ x4 then (if x7 = x4 then (spec_JSemver.j7 k x0 x4 x5 x6 x7 true) else (if 0 ≤ x7 then (if x7 < (x0.size : Int) then (spec_JSemver.j7 k x0 x4 x5 x6 x7 ((bt x0 x7) == 46)) else (none)) else (none))) else (some (x6 == 3))
def spec_JSemver.j7 : Nat → ByteArray → Int → Int → Int → Int → Bool → Option (Bool)
  | 0, _, _, _, _, _, _ => none
  | k + 1, x0, x4, x5, x6, x7, x68 => if x68 = true then (if 0 ≤ x5 then (if x5 ≤ x7 then (if x7 ≤ (x0.size : Int) then ((spec_jPlain.f k (x0.extract (x5 : Int).toNat (x7 : Int).toNat)).bind fun t118 => (if t118 = true then (spec_JSemver.l2 k x0 x4 (wrap64 (x7 + 1)) (wrap64 (x6 + 1)) (wrap64 (x7 + 1))) else (some false))) else (none)) else (none)) else (none)) else (spec_JSemver.l2 k x0 x4 x5 x6 (wrap64 (x7 + 1)))
def spec_JSemver.l1 : Nat → ByteArray → Int → Int → Option (Bool)
  | 0, _, _, _ => none
  | k + 1, x0, x3, x4 => if x4 < x3 then (if 0 ≤ x4 then (if x4 < (x0.size : Int) then (if (bt x0 x4) = 45 then (spec_JSemver.j4 k x0 x3 x4) else (spec_JSemver.l1 k x0 x3 (wrap64 (x4 + 1)))) else (none)) else (none)) else (spec_JSemver.j4 k x0 x3 x4)
def spec_JSemver.l0 : Nat → ByteArray → Int → Option (Bool)
  | 0, _, _ => none
  | k + 1, x0, x3 => if x3 < (x0.size : Int) then (if 0 ≤ x3 then (if (bt x0 x3) = 43 then (spec_JSemver.j1 k x0 x3) else (spec_JSemver.l0 k x0 (wrap64 (x3 + 1)))) else (none)) else (spec_JSemver.j1 k x0 x3)
end
def spec_JSemver.f (k : Nat) (a0 : ByteArray) : Option (Bool) := spec_JSemver.l0 k a0 0
theorem spec_JSemver.mono_l : ∀ k, (∀ y0 y1, LeO (spec_JSemver.j1 k y0 y1) (spec_JSemver.j1 (k + 1) y0 y1)) ∧ (∀ y0 y1 y2, LeO (spec_JSemver.j2 k y0 y1 y2) (spec_JSemver.j2 (k + 1) y0 y1 y2)) ∧ (∀ y0 y1 y2, LeO (spec_JSemver.j4 k y0 y1 y2) (spec_JSemver.j4 (k + 1) y0 y1 y2)) ∧ (∀ y0 y1 y2, LeO (spec_JSemver.j5 k y0 y1 y2) (spec_JSemver.j5 (k + 1) y0 y1 y2)) ∧ (∀ y0 y1 y2 y3 y4, LeO (spec_JSemver.l2 k y0 y1 y2 y3 y4) (spec_JSemver.l2 (k + 1) y0 y1 y2 y3 y4)) ∧ (∀ y0 y1 y2 y3 y4 y5, LeO (spec_JSemver.j7 k y0 y1 y2 y3 y4 y5) (spec_JSemver.j7 (k + 1) y0 y1 y2 y3 y4 y5)) ∧ (∀ y0 y1 y2, LeO (spec_JSemver.l1 k y0 y1 y2) (spec_JSemver.l1 (k + 1) y0 y1 y2)) ∧ (∀ y0 y1, LeO (spec_JSemver.l0 k y0 y1) (spec_JSemver.l0 (k + 1) y0 y1))
  | 0 => ⟨fun _ _ r h => by simp [spec_JSemver.j1] at h, fun _ _ _ r h => by simp [spec_JSemver.j2] at h, fun _ _ _ r h => by simp [spec_JSemver.j4] at h, fun _ _ _ r h => by simp [spec_JSemver.j5] at h, fun _ _ _ _ _ r h => by simp [spec_JSemver.l2] at h, fun _ _ _ _ _ _ r h => by simp [spec_JSemver.j7] at h, fun _ _ _ r h => by simp [spec_JSemver.l1] at h, fun _ _ r h => by simp [spec_JSemver.l0] at h⟩
  | k + 1 => by
    obtain ⟨ih0, ih1, ih2, ih3, ih4, ih5, ih6, ih7⟩ := spec_JSemver.mono_l k
    refine ⟨?_, ?_, ?_, ?_, ?_, ?_, ?_, ?_⟩
    · intro y0 y1
      unfold spec_JSemver.j1
      repeat' first
      | (with_reducible exact ih0 _ _)
      | (with_reducible exact ih1 _ _ _)
      | (with_reducible exact ih2 _ _ _)
      | (with_reducible exact ih3 _ _ _)
      | (with_reducible exact ih4 _ _ _ _ _)
      | (with_reducible exact ih5 _ _ _ _ _ _)
      | (with_reducible exact ih6 _ _ _)
      | (with_reducible exact ih7 _ _)
      | (with_reducible exact spec_jIdentifiers.mono _ _ _)
      | (with_reducible exact spec_jPlain.mono _ _)
      | (with_reducible exact LeO.refl _)
      | (with_reducible exact LeO.none _)
      | (with_reducible refine LeO.ite ?_ ?_)
      | (with_reducible refine LeO.bind ?_ (fun _ => ?_))
      | exact ih0 _ _
      | exact ih1 _ _ _
      | exact ih2 _ _ _
      | exact ih3 _ _ _
      | exact ih4 _ _ _ _ _
      | exact ih5 _ _ _ _ _ _
      | exact ih6 _ _ _
      | exact ih7 _ _
      | exact spec_jIdentifiers.mono _ _ _
      | exact spec_jPlain.mono _ _
      | exact LeO.none _
      | refine LeO.ite ?_ ?_
      | refine LeO.bind ?_ (fun _ => ?_)
    · intro y0 y1 y2
      unfold spec_JSemver.j2
      repeat' first
      | (with_reducible exact ih0 _ _)
      | (with_reducible exact ih1 _ _ _)
      | (with_reducible exact ih2 _ _ _)
      | (with_reducible exact ih3 _ _ _)
      | (with_reducible exact ih4 _ _ _ _ _)
      | (with_reducible exact ih5 _ _ _ _ _ _)
      | (with_reducible exact ih6 _ _ _)
      | (with_reducible exact ih7 _ _)
      | (with_reducible exact spec_jIdentifiers.mono _ _ _)
      | (with_reducible exact spec_jPlain.mono _ _)
      | (with_reducible exact LeO.refl _)
      | (with_reducible exact LeO.none _)
      | (with_reducible refine LeO.ite ?_ ?_)
      | (with_reducible refine LeO.bind ?_ (fun _ => ?_))
      | exact ih0 _ _
      | exact ih1 _ _ _
      | exact ih2 _ _ _
      | exact ih3 _ _ _
      | exact ih4 _ _ _ _ _
      | exact ih5 _ _ _ _ _ _
      | exact ih6 _ _ _
      | exact ih7 _ _
      | exact spec_jIdentifiers.mono _ _ _
      | exact spec_jPlain.mono _ _
      | exact LeO.none _
      | refine LeO.ite ?_ ?_
      | refine LeO.bind ?_ (fun _ => ?_)
    · intro y0 y1 y2
      unfold spec_JSemver.j4
      repeat' first
      | (with_reducible exact ih0 _ _)
      | (with_reducible exact ih1 _ _ _)
      | (with_reducible exact ih2 _ _ _)
      | (with_reducible exact ih3 _ _ _)
      | (with_reducible exact ih4 _ _ _ _ _)
      | (with_reducible exact ih5 _ _ _ _ _ _)
      | (with_reducible exact ih6 _ _ _)
      | (with_reducible exact ih7 _ _)
      | (with_reducible exact spec_jIdentifiers.mono _ _ _)
      | (with_reducible exact spec_jPlain.mono _ _)
      | (with_reducible exact LeO.refl _)
      | (with_reducible exact LeO.none _)
      | (with_reducible refine LeO.ite ?_ ?_)
      | (with_reducible refine LeO.bind ?_ (fun _ => ?_))
      | exact ih0 _ _
      | exact ih1 _ _ _
      | exact ih2 _ _ _
      | exact ih3 _ _ _
      | exact ih4 _ _ _ _ _
      | exact ih5 _ _ _ _ _ _
      | exact ih6 _ _ _
      | exact ih7 _ _
      | exact spec_jIdentifiers.mono _ _ _
      | exact spec_jPlain.mono _ _
      | exact LeO.none _
      | refine LeO.ite ?_ ?_
      | refine LeO.bind ?_ (fun _ => ?_)
    · intro y0 y1 y2
      unfold spec_JSemver.j5
      repeat' first
      | (with_reducible exact ih0 _ _)
      | (with_reducible exact ih1 _ _ _)
      | (with_reducible exact ih2 _ _ _)
      | (with_reducible exact ih3 _ _ _)
      | (with_reducible exact ih4 _ _ _ _ _)
      | (with_reducible exact ih5 _ _ _ _ _ _)
      | (with_reducible exact ih6 _ _ _)
      | (with_reducible exact ih7 _ _)
      | (with_reducible exact spec_jIdentifiers.mono _ _ _)
      | (with_reducible exact spec_jPlain.mono _ _)
      | (with_reducible exact LeO.refl _)
      | (with_reducible exact LeO.none _)
      | (with_reducible refine LeO.ite ?_ ?_)
      | (with_reducible refine LeO.bind ?_ (fun _ => ?_))
      | exact ih0 _ _
      | exact ih1 _ _ _
      | exact ih2 _ _ _
      | exact ih3 _ _ _
      | exact ih4 _ _ _ _ _
      | exact ih5 _ _ _ _ _ _
      | exact ih6 _ _ _
      | exact ih7 _ _
      | exact spec_jIdentifiers.mono _ _ _
      | exact spec_jPlain.mono _ _
      | exact LeO.none _
      | refine LeO.ite ?_ ?_
      | refine LeO.bind ?_ (fun _ => ?_)
    · intro y0 y1 y2 y3 y4
      unfold spec_JSemver.l2
      repeat' first
      | (with_reducible exact ih0 _ _)
      | (with_reducible exact ih1 _ _ _)
      | (with_reducible exact ih2 _ _ _)
      | (with_reducible exact ih3 _ _ _)
      | (with_reducible exact ih4 _ _ _ _ _)
      | (with_reducible exact ih5 _ _ _ _ _ _)
      | (with_reducible exact ih6 _ _ _)
      | (with_reducible exact ih7 _ _)
      | (with_reducible exact spec_jIdentifiers.mono _ _ _)
      | (with_reducible exact spec_jPlain.mono _ _)
      | (with_reducible exact LeO.refl _)
      | (with_reducible exact LeO.none _)
      | (with_reducible refine LeO.ite ?_ ?_)
      | (with_reducible refine LeO.bind ?_ (fun _ => ?_))
      | exact ih0 _ _
      | exact ih1 _ _ _
      | exact ih2 _ _ _
      | exact ih3 _ _ _
      | exact ih4 _ _ _ _ _
      | exact ih5 _ _ _ _ _ _
      | exact ih6 _ _ _
      | exact ih7 _ _
      | exact spec_jIdentifiers.mono _ _ _
      | exact spec_jPlain.mono _ _
      | exact LeO.none _
      | refine LeO.ite ?_ ?_
      | refine LeO.bind ?_ (fun _ => ?_)
    · intro y0 y1 y2 y3 y4 y5
      unfold spec_JSemver.j7
      repeat' first
      | (with_reducible exact ih0 _ _)
      | (with_reducible exact ih1 _ _ _)
      | (with_reducible exact ih2 _ _ _)
      | (with_reducible exact ih3 _ _ _)
      | (with_reducible exact ih4 _ _ _ _ _)
      | (with_reducible exact ih5 _ _ _ _ _ _)
      | (with_reducible exact ih6 _ _ _)
      | (with_reducible exact ih7 _ _)
      | (with_reducible exact spec_jIdentifiers.mono _ _ _)
      | (with_reducible exact spec_jPlain.mono _ _)
      | (with_reducible exact LeO.refl _)
      | (with_reducible exact LeO.none _)
      | (with_reducible refine LeO.ite ?_ ?_)
      | (with_reducible refine LeO.bind ?_ (fun _ => ?_))
      | exact ih0 _ _
      | exact ih1 _ _ _
      | exact ih2 _ _ _
      | exact ih3 _ _ _
      | exact ih4 _ _ _ _ _
      | exact ih5 _ _ _ _ _ _
      | exact ih6 _ _ _
      | exact ih7 _ _
      | exact spec_jIdentifiers.mono _ _ _
      | exact spec_jPlain.mono _ _
      | exact LeO.none _
      | refine LeO.ite ?_ ?_
      | refine LeO.bind ?_ (fun _ => ?_)
    · intro y0 y1 y2
      unfold spec_JSemver.l1
      repeat' first
      | (with_reducible exact ih0 _ _)
      | (with_reducible exact ih1 _ _ _)
      | (with_reducible exact ih2 _ _ _)
      | (with_reducible exact ih3 _ _ _)
      | (with_reducible exact ih4 _ _ _ _ _)
      | (with_reducible exact ih5 _ _ _ _ _ _)
      | (with_reducible exact ih6 _ _ _)
      | (with_reducible exact ih7 _ _)
      | (with_reducible exact spec_jIdentifiers.mono _ _ _)
      | (with_reducible exact spec_jPlain.mono _ _)
      | (with_reducible exact LeO.refl _)
      | (with_reducible exact LeO.none _)
      | (with_reducible refine LeO.ite ?_ ?_)
      | (with_reducible refine LeO.bind ?_ (fun _ => ?_))
      | exact ih0 _ _
      | exact ih1 _ _ _
      | exact ih2 _ _ _
      | exact ih3 _ _ _
      | exact ih4 _ _ _ _ _
      | exact ih5 _ _ _ _ _ _
      | exact ih6 _ _ _
      | exact ih7 _ _
      | exact spec_jIdentifiers.mono _ _ _
      | exact spec_jPlain.mono _ _
      | exact LeO.none _
      | refine LeO.ite ?_ ?_
      | refine LeO.bind ?_ (fun _ => ?_)
    · intro y0 y1
      unfold spec_JSemver.l0
      repeat' first
      | (with_reducible exact ih0 _ _)
      | (with_reducible exact ih1 _ _ _)
      | (with_reducible exact ih2 _ _ _)
      | (with_reducible exact ih3 _ _ _)
      | (with_reducible exact ih4 _ _ _ _ _)
      | (with_reducible exact ih5 _ _ _ _ _ _)
      | (with_reducible exact ih6 _ _ _)
      | (with_reducible exact ih7 _ _)
      | (with_reducible exact spec_jIdentifiers.mono _ _ _)
      | (with_reducible exact spec_jPlain.mono _ _)
      | (with_reducible exact LeO.refl _)
      | (with_reducible exact LeO.none _)
      | (with_reducible refine LeO.ite ?_ ?_)
      | (with_reducible refine LeO.bind ?_ (fun _ => ?_))
      | exact ih0 _ _
      | exact ih1 _ _ _
      | exact ih2 _ _ _
      | exact ih3 _ _ _
      | exact ih4 _ _ _ _ _
      | exact ih5 _ _ _ _ _ _
      | exact ih6 _ _ _
      | exact ih7 _ _
      | exact spec_jIdentifiers.mono _ _ _
      | exact spec_jPlain.mono _ _
      | exact LeO.none _
      | refine LeO.ite ?_ ?_
      | refine LeO.bind ?_ (fun _ => ?_)
theorem spec_JSemver.mono : ∀ a0 k, LeO (spec_JSemver.f k a0) (spec_JSemver.f (k + 1) a0) := by
  intro a0 k
  obtain ⟨ih0, ih1, ih2, ih3, ih4, ih5, ih6, ih7⟩ := spec_JSemver.mono_l k
  unfold spec_JSemver.f
  repeat' first
      | (with_reducible exact ih0 _ _)
      | (with_reducible exact ih1 _ _ _)
      | (with_reducible exact ih2 _ _ _)
      | (with_reducible exact ih3 _ _ _)
      | (with_reducible exact ih4 _ _ _ _ _)
      | (with_reducible exact ih5 _ _ _ _ _ _)
      | (with_reducible exact ih6 _ _ _)
      | (with_reducible exact ih7 _ _)
      | (with_reducible exact spec_jIdentifiers.mono _ _ _)
      | (with_reducible exact spec_jPlain.mono _ _)
      | (with_reducible exact LeO.refl _)
      | (with_reducible exact LeO.none _)
      | (with_reducible refine LeO.ite ?_ ?_)
      | (with_reducible refine LeO.bind ?_ (fun _ => ?_))
      | exact ih0 _ _
      | exact ih1 _ _ _
      | exact ih2 _ _ _
      | exact ih3 _ _ _
      | exact ih4 _ _ _ _ _
      | exact ih5 _ _ _ _ _ _
      | exact ih6 _ _ _
      | exact ih7 _ _
      | exact spec_jIdentifiers.mono _ _ _
      | exact spec_jPlain.mono _ _
      | exact LeO.none _
      | refine LeO.ite ?_ ?_
      | refine LeO.bind ?_ (fun _ => ?_)
set_option maxHeartbeats 8000000 in
set_option maxRecDepth 100000 in
theorem spec_JSemver.calls (k : Nat) (a0 : ByteArray) (r : Bool) (w : World) (h : spec_JSemver.f k a0 = some r) :
    Calls Try.prog 29 #[.string a0] w fun e w' => e = .returned (.bool r) ∧ Drawn0 w w' := by
  have H : (spec_JSemver.l0 k a0 0) = some r := h
  clear h
  have HC2 := Aside0.mk H
  clear H
  go_enter Try.func29, Try.ntmps29
  go_upto_block 0 with (fail)
  go_cut [3] (fun v3 wc => ∃ (kq : Nat) (x3_1 : Int), v3 = .int .i64 x3_1 ∧ Aside0 (spec_JSemver.j1 kq a0 x3_1 = some r) ∧ Aside0 (kq ≤ k) ∧ Drawn0 w wc)
  case first =>
    have H := HC2.out
    clear HC2
    have H' := Aside0.mk H
    clear H
    go_wp2
    go_loopg [3] k (fun kq v3 w' => ∃ (x3_1 : Int), v3 = .int .i64 x3_1 ∧ Aside0 (spec_JSemver.l0 kq a0 x3_1 = some r) ∧ Aside0 (kq ≤ k) ∧ Drawn0 w w')
    case atStart => exact ⟨(0), (by first | rfl | (simp; done) | (simp [*]; done)), H', ⟨Nat.le_refl _⟩, by repeat (first | exact Drawn0.refl _ | apply Drawn0.step)⟩
    case round =>
      clear H'
      try clear c2
      try clear p2
      obtain ⟨x3_1, rfl, HA, HK1, ⟨m1, rfl⟩⟩ := hrel
      cases gk with
      | zero => exact absurd HA.out (by simp [spec_JSemver.l0])
      | succ k1 =>
        have H := HA.out
        clear HA
        simp only [spec_JSemver.l0] at H
        by_cases c3 : x3_1 < (a0.size : Int)
        · rw [if_pos c3] at H
          have c3b0 : decide (x3_1 < (a0.size : Int)) = true := decide_eq_true c3
          clear c3
          (first | rw [c3b0] | (simp only [i64_w, i32_w]; rw [c3b0]) | skip)
          by_cases c4 : 0 ≤ x3_1
          · rw [if_pos c4] at H
            have c4b0 : decide (0 ≤ x3_1) = true := decide_eq_true c4
            clear c4
            by_cases c6 : (bt a0 x3_1) = 43
            · rw [if_pos c6] at H
              have c6b0 : ((bt a0 x3_1) == 43) = true := beq_iff_eq.mpr c6
              have c6b1 : ((bt a0 x3_1) != 43) = false := bne_eq_false_iff_eq.mpr c6
              clear c6
              have H' := Aside0.mk H
              clear H
              have p5 : 0 ≤ (x3_1 : Int) := of_decide_eq_true (by first | (with_reducible assumption) | assumption)
              have q5 : x3_1 < (a0.size : Int) := of_decide_eq_true (by first | (with_reducible assumption) | assumption)
              have hx5 := bt_at a0 x3_1
              replace p5 := eq_true p5
              replace q5 := eq_true q5
              go_wp2
              go_meet
              case rel => exact ⟨_, (x3_1), (by first | rfl | (simp; done) | (simp [*]; done)), H', ⟨by have := HK1.out; first | omega | exact Nat.le_refl _⟩, by repeat (first | exact Drawn0.refl _ | apply Drawn0.step)⟩
            · rw [if_neg c6] at H
              have c6b0 : ((bt a0 x3_1) == 43) = false := beq_eq_false_iff_ne.mpr c6
              have c6b1 : ((bt a0 x3_1) != 43) = true := bne_iff_ne.mpr c6
              have H' := Aside0.mk H
              clear H
              have p5 : 0 ≤ (x3_1 : Int) := of_decide_eq_true (by first | (with_reducible assumption) | assumption)
              have q5 : x3_1 < (a0.size : Int) := of_decide_eq_true (by first | (with_reducible assumption) | assumption)
              have hx5 := bt_at a0 x3_1
              replace p5 := eq_true p5
              replace q5 := eq_true q5
              go_wp2
              go_roundg k1
              case measure => have := HK1.out; omega
              case rel => exact ⟨(wrap64 (x3_1 + 1)), (by first | rfl | (simp; done) | (simp [*]; done)), H', ⟨by have := HK1.out; omega⟩, by repeat (first | exact Drawn0.refl _ | apply Drawn0.step)⟩
          · rw [if_neg c4] at H
            exact absurd H (by simp)
        · rw [if_neg c3] at H
          have c3b0 : decide (x3_1 < (a0.size : Int)) = false := decide_eq_false c3
          clear c3
          (first | rw [c3b0] | (simp only [i64_w, i32_w]; rw [c3b0]) | skip)
          have H' := Aside0.mk H
          clear H
          go_wp2
          go_meet
          case rel => exact ⟨_, (x3_1), (by first | rfl | (simp; done) | (simp [*]; done)), H', ⟨by have := HK1.out; first | omega | exact Nat.le_refl _⟩, by repeat (first | exact Drawn0.refl _ | apply Drawn0.step)⟩
  case rest =>
    clear HC2
    try clear c2
    try clear p2
    try clear c3
    try clear c3b0
    try clear c4
    try clear c4b0
    try clear p5
    try clear q5
    try clear hx5
    try clear c6
    try clear c6b0
    try clear c6b1
    try clear p6
    try clear p2
    try clear p5
    try clear q5
    obtain ⟨kq, x3_1, rfl, HA, HJ1, ⟨mc1, rfl⟩⟩ := hcut
    cases kq with
    | zero => exact absurd HA.out (by simp [spec_JSemver.j1])
    | succ kj1 =>
      have H := HA.out
      clear HA
      simp only [spec_JSemver.j1] at H
      have HC7 := Aside0.mk H
      clear H
      go_upto_region 4 with (fail)
      go_cut [31] (fun v31 wc => ∃ (kq : Nat) (x31_6 : Bool), v31 = .bool x31_6 ∧ Aside0 (spec_JSemver.j2 kq a0 x3_1 x31_6 = some r) ∧ Aside0 (kq ≤ kj1) ∧ Drawn0 w wc)
      case first =>
        have H := HC7.out
        clear HC7
        by_cases c8 : x3_1 < (a0.size : Int)
        · rw [if_pos c8] at H
          have c8b0 : decide (x3_1 < (a0.size : Int)) = true := decide_eq_true c8
          clear c8
          (first | rw [c8b0] | (simp only [i64_w, i32_w]; rw [c8b0]) | skip)
          obtain ⟨ji9, hji9⟩ : ∃ j_ : Int, (wrap64 (x3_1 + 1)) = j_ := ⟨_, rfl⟩
          replace H : (if 0 ≤ (ji9) then (if (ji9) ≤ (a0.size : Int) then ((spec_jIdentifiers.f kj1 (a0.extract ((ji9) : Int).toNat a0.size) false).bind fun t116 => (spec_JSemver.j2 kj1 a0 x3_1 (!t116))) else (none)) else (none)) = some r := by first | (rw [hji9] at H; exact H) | (simp only [hji9] at H ⊢; exact H)
          have hji9w : (IntKind.i64.wrap (x3_1 + 1)) = ji9 := (i64_w _).trans hji9
          by_cases c10 : 0 ≤ (ji9)
          · rw [if_pos c10] at H
            have c10b0 := eq_true c10
            have c10b1 : decide (0 ≤ (ji9)) = true := decide_eq_true c10
            clear c10
            by_cases c11 : (ji9) ≤ (a0.size : Int)
            · rw [if_pos c11] at H
              have c11b0 := eq_true c11
              have c11b1 : decide ((ji9) ≤ (a0.size : Int)) = true := decide_eq_true c11
              clear c11
              replace H := Option.bind_eq_some_iff.mp H
              obtain ⟨t116, A120, H⟩ := H
              replace H : (spec_JSemver.j2 kj1 a0 x3_1 (!t116)) = some r := H
              have A12 := Aside0.mk A120
              clear A120
              have H' := Aside0.mk H
              clear H
              go_wp2_with (first | (go_at_call 45; (with_reducible refine (spec_jIdentifiers.calls kj1 (a0.extract ((ji9) : Int).toNat a0.size) false t116 _ A12.out).mono ?_); rintro e w' ⟨rfl, ⟨nd, rfl⟩⟩))
              go_meet
              case rel => exact ⟨_, (!t116), (by first | rfl | (simp; done) | (simp [*]; done)), H', ⟨by have := HJ1.out; first | omega | exact Nat.le_refl _⟩, by repeat (first | exact Drawn0.refl _ | apply Drawn0.step)⟩
            · rw [if_neg c11] at H
              exact absurd H (by simp)
          · rw [if_neg c10] at H
            exact absurd H (by simp)
        · rw [if_neg c8] at H
          have c8b0 : decide (x3_1 < (a0.size : Int)) = false := decide_eq_false c8
          clear c8
          (first | rw [c8b0] | (simp only [i64_w, i32_w]; rw [c8b0]) | skip)
          have H' := Aside0.mk H
          clear H
          go_wp2
          go_meet
          case rel => exact ⟨_, (false), (by first | rfl | (simp; done) | (simp [*]; done)), H', ⟨by have := HJ1.out; first | omega | exact Nat.le_refl _⟩, by repeat (first | exact Drawn0.refl _ | apply Drawn0.step)⟩
      case rest =>
        clear HC7
        try clear c1
        try clear c2
        try clear p2
        try clear c3
        try clear c3b0
        try clear c4
        try clear c4b0
        try clear p5
        try clear q5
        try clear hx5
        try clear c6
        try clear c6b0
        try clear c6b1
        try clear p6
        try clear c8
        try clear c8b0
        try clear c10
        try clear c10b0
        try clear c10b1
        try clear c11
        try clear c11b0
        try clear c11b1
        try clear p2
        try clear p5
        try clear p6
        try clear q5
        obtain ⟨kq, x31_6, rfl, HA, HJ6, ⟨mc6, rfl⟩⟩ := hcut
        cases kq with
        | zero => exact absurd HA.out (by simp [spec_JSemver.j2])
        | succ kj6 =>
          have H := HA.out
          clear HA
          simp only [spec_JSemver.j2] at H
          by_cases c13 : x31_6 = true
          · subst c13
            have H1 : (some false) = some r := by rw [if_pos rfl] at H; exact H
            clear H
            have H := H1
            clear H1
            obtain rfl := Option.some.inj H
            go_wp2
            go_ret
            exact ⟨by first | rfl | (simp; done) | (simp [*]; done), by repeat (first | exact Drawn0.refl _ | apply Drawn0.step)⟩
          · replace c13 := Bool.eq_false_iff.mpr c13
            subst c13
            have H1 : (spec_JSemver.l1 kj6 a0 x3_1 0) = some r := by rw [if_neg (show ¬ (false = true) by decide)] at H; exact H
            clear H
            have H := H1
            clear H1
            have HC14 := Aside0.mk H
            clear H
            go_upto_block 2 with (fail)
            go_cut [4] (fun v4 wc => ∃ (kq : Nat) (x4_13 : Int), v4 = .int .i64 x4_13 ∧ Aside0 (spec_JSemver.j4 kq a0 x3_1 x4_13 = some r) ∧ Aside0 (kq ≤ kj6) ∧ Drawn0 w wc)
            case first =>
              have H := HC14.out
              clear HC14
              have H' := Aside0.mk H
              clear H
              go_wp2
              go_loopg [4] kj6 (fun kq v4 w' => ∃ (x4_3 : Int), v4 = .int .i64 x4_3 ∧ Aside0 (spec_JSemver.l1 kq a0 x3_1 x4_3 = some r) ∧ Aside0 (kq ≤ kj6) ∧ Drawn0 w w')
              case atStart => exact ⟨(0), (by first | rfl | (simp; done) | (simp [*]; done)), H', ⟨Nat.le_refl _⟩, by repeat (first | exact Drawn0.refl _ | apply Drawn0.step)⟩
              case round =>
                clear H'
                try clear c1
                try clear c2
                try clear p2
                try clear c3
                try clear c3b0
                try clear c4
                try clear c4b0
                try clear p5
                try clear q5
                try clear hx5
                try clear c6
                try clear c6b0
                try clear c6b1
                try clear p6
                try clear c8
                try clear c8b0
                try clear c10
                try clear c10b0
                try clear c10b1
                try clear c11
                try clear c11b0
                try clear c11b1
                try clear c13
                try clear p2
                try clear p5
                try clear p6
                try clear q5
                obtain ⟨x4_3, rfl, HA, HK3, ⟨m3, rfl⟩⟩ := hrel
                cases gk with
                | zero => exact absurd HA.out (by simp [spec_JSemver.l1])
                | succ k3 =>
                  have H := HA.out
                  clear HA
                  simp only [spec_JSemver.l1] at H
                  by_cases c15 : x4_3 < x3_1
                  · rw [if_pos c15] at H
                    have c15b0 : decide (x4_3 < x3_1) = true := decide_eq_true c15
                    clear c15
                    (first | rw [c15b0] | (simp only [i64_w, i32_w]; rw [c15b0]) | skip)
                    by_cases c16 : 0 ≤ x4_3
                    · rw [if_pos c16] at H
                      have c16b0 : decide (0 ≤ x4_3) = true := decide_eq_true c16
                      clear c16
                      by_cases c17 : x4_3 < (a0.size : Int)
                      · rw [if_pos c17] at H
                        have c17b0 : decide (x4_3 < (a0.size : Int)) = true := decide_eq_true c17
                        clear c17
                        by_cases c19 : (bt a0 x4_3) = 45
                        · rw [if_pos c19] at H
                          have c19b0 : ((bt a0 x4_3) == 45) = true := beq_iff_eq.mpr c19
                          have c19b1 : ((bt a0 x4_3) != 45) = false := bne_eq_false_iff_eq.mpr c19
                          clear c19
                          have H' := Aside0.mk H
                          clear H
                          have p18 : 0 ≤ (x4_3 : Int) := of_decide_eq_true (by first | (with_reducible assumption) | assumption)
                          have q18 : x4_3 < (a0.size : Int) := of_decide_eq_true (by first | (with_reducible assumption) | assumption)
                          have hx18 := bt_at a0 x4_3
                          replace p18 := eq_true p18
                          replace q18 := eq_true q18
                          go_wp2
                          go_meet
                          case rel => exact ⟨_, (x4_3), (by first | rfl | (simp; done) | (simp [*]; done)), H', ⟨by have := HJ1.out; have := HJ6.out; have := HK3.out; first | omega | exact Nat.le_refl _⟩, by repeat (first | exact Drawn0.refl _ | apply Drawn0.step)⟩
                        · rw [if_neg c19] at H
                          have c19b0 : ((bt a0 x4_3) == 45) = false := beq_eq_false_iff_ne.mpr c19
                          have c19b1 : ((bt a0 x4_3) != 45) = true := bne_iff_ne.mpr c19
                          have H' := Aside0.mk H
                          clear H
                          have p18 : 0 ≤ (x4_3 : Int) := of_decide_eq_true (by first | (with_reducible assumption) | assumption)
                          have q18 : x4_3 < (a0.size : Int) := of_decide_eq_true (by first | (with_reducible assumption) | assumption)
                          have hx18 := bt_at a0 x4_3
                          replace p18 := eq_true p18
                          replace q18 := eq_true q18
                          go_wp2
                          go_roundg k3
                          case measure => have := HJ1.out; have := HJ6.out; have := HK3.out; omega
                          case rel => exact ⟨(wrap64 (x4_3 + 1)), (by first | rfl | (simp; done) | (simp [*]; done)), H', ⟨by have := HJ1.out; have := HJ6.out; have := HK3.out; omega⟩, by repeat (first | exact Drawn0.refl _ | apply Drawn0.step)⟩
                      · rw [if_neg c17] at H
                        exact absurd H (by simp)
                    · rw [if_neg c16] at H
                      exact absurd H (by simp)
                  · rw [if_neg c15] at H
                    have c15b0 : decide (x4_3 < x3_1) = false := decide_eq_false c15
                    clear c15
                    (first | rw [c15b0] | (simp only [i64_w, i32_w]; rw [c15b0]) | skip)
                    have H' := Aside0.mk H
                    clear H
                    go_wp2
                    go_meet
                    case rel => exact ⟨_, (x4_3), (by first | rfl | (simp; done) | (simp [*]; done)), H', ⟨by have := HJ1.out; have := HJ6.out; have := HK3.out; first | omega | exact Nat.le_refl _⟩, by repeat (first | exact Drawn0.refl _ | apply Drawn0.step)⟩
            case rest =>
              clear HC14
              try clear c1
              try clear p1
              try clear q1
              try clear hx1
              try clear c2
              try clear p2
              try clear c3
              try clear c3b0
              try clear c4
              try clear c4b0
              try clear p5
              try clear q5
              try clear hx5
              try clear c6
              try clear c6b0
              try clear c6b1
              try clear p6
              try clear c8
              try clear c8b0
              try clear c10
              try clear c10b0
              try clear c10b1
              try clear c11
              try clear c11b0
              try clear c11b1
              try clear c13
              try clear c15
              try clear c15b0
              try clear c16
              try clear c16b0
              try clear c17
              try clear c17b0
              try clear p18
              try clear q18
              try clear hx18
              try clear c19
              try clear c19b0
              try clear c19b1
              try clear p18
              try clear p2
              try clear p5
              try clear p6
              try clear q18
              try clear q5
              obtain ⟨kq, x4_13, rfl, HA, HJ13, ⟨mc13, rfl⟩⟩ := hcut
              cases kq with
              | zero => exact absurd HA.out (by simp [spec_JSemver.j4])
              | succ kj13 =>
                have H := HA.out
                clear HA
                simp only [spec_JSemver.j4] at H
                have HC20 := Aside0.mk H
                clear H
                go_upto_region 9 with (fail)
                go_cut [54] (fun v54 wc => ∃ (kq : Nat) (x54_19 : Bool), v54 = .bool x54_19 ∧ Aside0 (spec_JSemver.j5 kq a0 x4_13 x54_19 = some r) ∧ Aside0 (kq ≤ kj13) ∧ Drawn0 w wc)
                case first =>
                  have H := HC20.out
                  clear HC20
                  by_cases c21 : x4_13 < x3_1
                  · rw [if_pos c21] at H
                    have c21b0 : decide (x4_13 < x3_1) = true := decide_eq_true c21
                    clear c21
                    (first | rw [c21b0] | (simp only [i64_w, i32_w]; rw [c21b0]) | skip)
                    obtain ⟨ji22, hji22⟩ : ∃ j_ : Int, (wrap64 (x4_13 + 1)) = j_ := ⟨_, rfl⟩
                    replace H : (if 0 ≤ (ji22) then (if (ji22) ≤ x3_1 then (if x3_1 ≤ (a0.size : Int) then ((spec_jIdentifiers.f kj13 (a0.extract ((ji22) : Int).toNat (x3_1 : Int).toNat) true).bind fun t117 => (spec_JSemver.j5 kj13 a0 x4_13 (!t117))) else (none)) else (none)) else (none)) = some r := by first | (rw [hji22] at H; exact H) | (simp only [hji22] at H ⊢; exact H)
                    have hji22w : (IntKind.i64.wrap (x4_13 + 1)) = ji22 := (i64_w _).trans hji22
                    by_cases c23 : 0 ≤ (ji22)
                    · rw [if_pos c23] at H
                      have c23b0 := eq_true c23
                      have c23b1 : decide (0 ≤ (ji22)) = true := decide_eq_true c23
                      clear c23
                      by_cases c24 : (ji22) ≤ x3_1
                      · rw [if_pos c24] at H
                        have c24b0 := eq_true c24
                        have c24b1 : decide ((ji22) ≤ x3_1) = true := decide_eq_true c24
                        clear c24
                        by_cases c25 : x3_1 ≤ (a0.size : Int)
                        · rw [if_pos c25] at H
                          have c25b0 := eq_true c25
                          have c25b1 : decide (x3_1 ≤ (a0.size : Int)) = true := decide_eq_true c25
                          clear c25
                          replace H := Option.bind_eq_some_iff.mp H
                          obtain ⟨t117, A260, H⟩ := H
                          replace H : (spec_JSemver.j5 kj13 a0 x4_13 (!t117)) = some r := H
                          have A26 := Aside0.mk A260
                          clear A260
                          have H' := Aside0.mk H
                          clear H
                          go_wp2_with (first | (go_at_call 45; (with_reducible refine (spec_jIdentifiers.calls kj13 (a0.extract ((ji22) : Int).toNat (x3_1 : Int).toNat) true t117 _ A26.out).mono ?_); rintro e w' ⟨rfl, ⟨nd, rfl⟩⟩))
                          go_meet
                          case rel => exact ⟨_, (!t117), (by first | rfl | (simp; done) | (simp [*]; done)), H', ⟨by have := HJ1.out; have := HJ6.out; have := HJ13.out; first | omega | exact Nat.le_refl _⟩, by repeat (first | exact Drawn0.refl _ | apply Drawn0.step)⟩
                        · rw [if_neg c25] at H
                          exact absurd H (by simp)
                      · rw [if_neg c24] at H
                        exact absurd H (by simp)
                    · rw [if_neg c23] at H
                      exact absurd H (by simp)
                  · rw [if_neg c21] at H
                    have c21b0 : decide (x4_13 < x3_1) = false := decide_eq_false c21
                    clear c21
                    (first | rw [c21b0] | (simp only [i64_w, i32_w]; rw [c21b0]) | skip)
                    have H' := Aside0.mk H
                    clear H
                    go_wp2
                    go_meet
                    case rel => exact ⟨_, (false), (by first | rfl | (simp; done) | (simp [*]; done)), H', ⟨by have := HJ1.out; have := HJ6.out; have := HJ13.out; first | omega | exact Nat.le_refl _⟩, by repeat (first | exact Drawn0.refl _ | apply Drawn0.step)⟩
                case rest =>
                  clear HC20
                  try clear c1
                  try clear p1
                  try clear q1
                  try clear hx1
                  try clear c2
                  try clear p2
                  try clear c3
                  try clear c3b0
                  try clear c4
                  try clear c4b0
                  try clear p5
                  try clear q5
                  try clear hx5
                  try clear c6
                  try clear c6b0
                  try clear c6b1
                  try clear p6
                  try clear c8
                  try clear c8b0
                  try clear c10
                  try clear c10b0
                  try clear c10b1
                  try clear c11
                  try clear c11b0
                  try clear c11b1
                  try clear c13
                  try clear c15
                  try clear c15b0
                  try clear c16
                  try clear c16b0
                  try clear c17
                  try clear c17b0
                  try clear p18
                  try clear q18
                  try clear hx18
                  try clear c19
                  try clear c19b0
                  try clear c19b1
                  try clear c21
                  try clear c21b0
                  try clear c23
                  try clear c23b0
                  try clear c23b1
                  try clear c24
                  try clear c24b0
                  try clear c24b1
                  try clear c25
                  try clear c25b0
                  try clear c25b1
                  try clear p1
                  try clear p18
                  try clear p2
                  try clear p5
                  try clear p6
                  try clear q1
                  try clear q18
                  try clear q5
                  obtain ⟨kq, x54_19, rfl, HA, HJ19, ⟨mc19, rfl⟩⟩ := hcut
                  cases kq with
                  | zero => exact absurd HA.out (by simp [spec_JSemver.j5])
                  | succ kj19 =>
                    have H := HA.out
                    clear HA
                    simp only [spec_JSemver.j5] at H
                    by_cases c27 : x54_19 = true
                    · subst c27
                      have H1 : (some false) = some r := by rw [if_pos rfl] at H; exact H
                      clear H
                      have H := H1
                      clear H1
                      obtain rfl := Option.some.inj H
                      go_wp2
                      go_ret
                      exact ⟨by first | rfl | (simp; done) | (simp [*]; done), by repeat (first | exact Drawn0.refl _ | apply Drawn0.step)⟩
                    · replace c27 := Bool.eq_false_iff.mpr c27
                      subst c27
                      have H1 : (spec_JSemver.l2 kj19 a0 x4_13 0 0 0) = some r := by rw [if_neg (show ¬ (false = true) by decide)] at H; exact H
                      clear H
                      have H := H1
                      clear H1
                      have H' := Aside0.mk H
                      clear H
                      go_wp2
                      go_loopg [5, 6, 7] kj19 (fun kq v5 v6 v7 w' => ∃ (x5_5 : Int) (x6_5 : Int) (x7_5 : Int), v5 = .int .i64 x5_5 ∧ v6 = .int .i64 x6_5 ∧ v7 = .int .i64 x7_5 ∧ Aside0 (spec_JSemver.l2 kq a0 x4_13 x5_5 x6_5 x7_5 = some r) ∧ Aside0 (kq ≤ kj19) ∧ Drawn0 w w')
                      case atStart => exact ⟨(0), (0), (0), (by first | rfl | (simp; done) | (simp [*]; done)), (by first | rfl | (simp; done) | (simp [*]; done)), (by first | rfl | (simp; done) | (simp [*]; done)), H', ⟨Nat.le_refl _⟩, by repeat (first | exact Drawn0.refl _ | apply Drawn0.step)⟩
                      case round =>
                        clear H'
                        try clear c1
                        try clear p1
                        try clear q1
                        try clear hx1
                        try clear c2
                        try clear p2
                        try clear c3
                        try clear c3b0
                        try clear c4
                        try clear c4b0
                        try clear p5
                        try clear q5
                        try clear hx5
                        try clear c6
                        try clear c6b0
                        try clear c6b1
                        try clear p6
                        try clear c8
                        try clear c8b0
                        try clear c10
                        try clear c10b0
                        try clear c10b1
                        try clear c11
                        try clear c11b0
                        try clear c11b1
                        try clear c13
                        try clear c15
                        try clear c15b0
                        try clear c16
                        try clear c16b0
                        try clear c17
                        try clear c17b0
                        try clear p18
                        try clear q18
                        try clear hx18
                        try clear c19
                        try clear c19b0
                        try clear c19b1
                        try clear c21
                        try clear c21b0
                        try clear c23
                        try clear c23b0
                        try clear c23b1
                        try clear c24
                        try clear c24b0
                        try clear c24b1
                        try clear c25
                        try clear c25b0
                        try clear c25b1
                        try clear c27
                        try clear p1
                        try clear p18
                        try clear p2
                        try clear p5
                        try clear p6
                        try clear q1
                        try clear q18
                        try clear q5
                        obtain ⟨x5_5, x6_5, x7_5, rfl, rfl, rfl, HA, HK5, ⟨m5, rfl⟩⟩ := hrel
                        cases gk with
                        | zero => exact absurd HA.out (by simp [spec_JSemver.l2])
                        | succ k5 =>
                          have H := HA.out
                          clear HA
                          simp only [spec_JSemver.l2] at H
                          by_cases c28 : x7_5 ≤ x4_13
                          · rw [if_pos c28] at H
                            have c28b0 : decide (x7_5 ≤ x4_13) = true := decide_eq_true c28
                            clear c28
                            have HC29 := Aside0.mk H
                            clear H
                            go_upto_region 15 with (fail)
                            go_cut [68] (fun v68 wc => ∃ (kq : Nat) (x68_28 : Bool), v68 = .bool x68_28 ∧ Aside0 (spec_JSemver.j7 kq a0 x4_13 x5_5 x6_5 x7_5 x68_28 = some r) ∧ Aside0 (kq ≤ k5) ∧ Drawn0 w wc)
                            case first =>
                              have H := HC29.out
                              clear HC29
                              by_cases c30 : x7_5 = x4_13
                              · rw [if_pos c30] at H
                                have c30b0 : (x7_5 == x4_13) = true := beq_iff_eq.mpr c30
                                have c30b1 : (x7_5 != x4_13) = false := bne_eq_false_iff_eq.mpr c30
                                clear c30
                                (first | rw [c30b0] | (simp only [i64_w, i32_w]; rw [c30b0]) | skip)
                                have H' := Aside0.mk H
                                clear H
                                go_wp2
                                go_meet
                                case rel => exact ⟨_, (true), (by first | rfl | (simp; done) | (simp [*]; done)), H', ⟨by have := HJ1.out; have := HJ6.out; have := HJ13.out; have := HJ19.out; have := HK5.out; first | omega | exact Nat.le_refl _⟩, by repeat (first | exact Drawn0.refl _ | apply Drawn0.step)⟩
                              · rw [if_neg c30] at H
                                have c30b0 : (x7_5 == x4_13) = false := beq_eq_false_iff_ne.mpr c30
                                have c30b1 : (x7_5 != x4_13) = true := bne_iff_ne.mpr c30
                                (first | rw [c30b0] | (simp only [i64_w, i32_w]; rw [c30b0]) | skip)
                                by_cases c31 : 0 ≤ x7_5
                                · rw [if_pos c31] at H
                                  have c31b0 : decide (0 ≤ x7_5) = true := decide_eq_true c31
                                  clear c31
                                  by_cases c32 : x7_5 < (a0.size : Int)
                                  · rw [if_pos c32] at H
                                    have c32b0 : decide (x7_5 < (a0.size : Int)) = true := decide_eq_true c32
                                    clear c32
                                    have H' := Aside0.mk H
                                    clear H
                                    have p33 : 0 ≤ (x7_5 : Int) := of_decide_eq_true (by first | (with_reducible assumption) | assumption)
                                    have q33 : x7_5 < (a0.size : Int) := of_decide_eq_true (by first | (with_reducible assumption) | assumption)
                                    have hx33 := bt_at a0 x7_5
                                    replace p33 := eq_true p33
                                    replace q33 := eq_true q33
                                    go_wp2
                                    go_meet
                                    case rel => exact ⟨_, (((bt a0 x7_5) == 46)), (by first | rfl | (simp; done) | (simp [*]; done)), H', ⟨by have := HJ1.out; have := HJ6.out; have := HJ13.out; have := HJ19.out; have := HK5.out; first | omega | exact Nat.le_refl _⟩, by repeat (first | exact Drawn0.refl _ | apply Drawn0.step)⟩
                                  · rw [if_neg c32] at H
                                    exact absurd H (by simp)
                                · rw [if_neg c31] at H
                                  exact absurd H (by simp)
                            case rest =>
                              clear HC29
                              try clear c1
                              try clear p1
                              try clear q1
                              try clear hx1
                              try clear c2
                              try clear p2
                              try clear c3
                              try clear c3b0
                              try clear p3
                              try clear q3
                              try clear hx3
                              try clear c4
                              try clear c4b0
                              try clear p5
                              try clear q5
                              try clear hx5
                              try clear c6
                              try clear c6b0
                              try clear c6b1
                              try clear p6
                              try clear c8
                              try clear c8b0
                              try clear c10
                              try clear c10b0
                              try clear c10b1
                              try clear c11
                              try clear c11b0
                              try clear c11b1
                              try clear c13
                              try clear c15
                              try clear c15b0
                              try clear c16
                              try clear c16b0
                              try clear c17
                              try clear c17b0
                              try clear p18
                              try clear q18
                              try clear hx18
                              try clear c19
                              try clear c19b0
                              try clear c19b1
                              try clear c21
                              try clear c21b0
                              try clear c23
                              try clear c23b0
                              try clear c23b1
                              try clear c24
                              try clear c24b0
                              try clear c24b1
                              try clear c25
                              try clear c25b0
                              try clear c25b1
                              try clear c27
                              try clear c28
                              try clear c28b0
                              try clear c30
                              try clear c30b0
                              try clear c30b1
                              try clear c31
                              try clear c31b0
                              try clear c32
                              try clear c32b0
                              try clear p33
                              try clear q33
                              try clear hx33
                              try clear p1
                              try clear p18
                              try clear p2
                              try clear p33
                              try clear p5
                              try clear p6
                              try clear q1
                              try clear q18
                              try clear q33
                              try clear q5
                              obtain ⟨kq, x68_28, rfl, HA, HJ28, ⟨mc28, rfl⟩⟩ := hcut
                              cases kq with
                              | zero => exact absurd HA.out (by simp [spec_JSemver.j7])
                              | succ kj28 =>
                                have H := HA.out
                                clear HA
                                simp only [spec_JSemver.j7] at H
                                by_cases c34 : x68_28 = true
                                · subst c34
                                  have H1 : (if 0 ≤ x5_5 then (if x5_5 ≤ x7_5 then (if x7_5 ≤ (a0.size : Int) then ((spec_jPlain.f kj28 (a0.extract (x5_5 : Int).toNat (x7_5 : Int).toNat)).bind fun t118 => (if t118 = true then (spec_JSemver.l2 kj28 a0 x4_13 (wrap64 (x7_5 + 1)) (wrap64 (x6_5 + 1)) (wrap64 (x7_5 + 1))) else (some false))) else (none)) else (none)) else (none)) = some r := by rw [if_pos rfl] at H; exact H
                                  clear H
                                  have H := H1
                                  clear H1
                                  by_cases c35 : 0 ≤ x5_5
                                  · rw [if_pos c35] at H
                                    have c35b0 := eq_true c35
                                    have c35b1 : decide (0 ≤ x5_5) = true := decide_eq_true c35
                                    clear c35
                                    by_cases c36 : x5_5 ≤ x7_5
                                    · rw [if_pos c36] at H
                                      have c36b0 := eq_true c36
                                      have c36b1 : decide (x5_5 ≤ x7_5) = true := decide_eq_true c36
                                      clear c36
                                      by_cases c37 : x7_5 ≤ (a0.size : Int)
                                      · rw [if_pos c37] at H
                                        have c37b0 := eq_true c37
                                        have c37b1 : decide (x7_5 ≤ (a0.size : Int)) = true := decide_eq_true c37
                                        clear c37
                                        replace H := Option.bind_eq_some_iff.mp H
                                        obtain ⟨t118, A380, H⟩ := H
                                        replace H : (if t118 = true then (spec_JSemver.l2 kj28 a0 x4_13 (wrap64 (x7_5 + 1)) (wrap64 (x6_5 + 1)) (wrap64 (x7_5 + 1))) else (some false)) = some r := H
                                        have A38 := Aside0.mk A380
                                        clear A380
                                        by_cases c39 : t118 = true
                                        · subst c39
                                          have H1 : (spec_JSemver.l2 kj28 a0 x4_13 (wrap64 (x7_5 + 1)) (wrap64 (x6_5 + 1)) (wrap64 (x7_5 + 1))) = some r := by rw [if_pos rfl] at H; exact H
                                          clear H
                                          have H := H1
                                          clear H1
                                          have H' := Aside0.mk H
                                          clear H
                                          go_wp2_with (first | ((with_reducible refine gate_callee (f := 46) rfl ?_); refine goesL_ (some 73) rfl rfl Try.func46 (by kernel_rfl) rfl #[.string (a0.extract (x5_5 : Int).toNat (x7_5 : Int).toNat)] rfl (by (try simp only [List.map_toArray, List.map_cons, List.map_nil]); first | done | rfl | (simp only [List.length_drop, List.length_take]; rfl)) ?_; (with_reducible refine (spec_jPlain.calls kj28 (a0.extract (x5_5 : Int).toNat (x7_5 : Int).toNat) true _ A38.out).mono ?_); rintro e w' ⟨rfl, ⟨nd, rfl⟩⟩; refine ⟨_, rfl, ?_⟩))
                                          go_roundg kj28
                                          case measure => have := HJ1.out; have := HJ6.out; have := HJ13.out; have := HJ19.out; have := HK5.out; have := HJ28.out; omega
                                          case rel => exact ⟨(wrap64 (x7_5 + 1)), (wrap64 (x6_5 + 1)), (wrap64 (x7_5 + 1)), (by first | rfl | (simp; done) | (simp [*]; done)), (by first | rfl | (simp; done) | (simp [*]; done)), (by first | rfl | (simp; done) | (simp [*]; done)), H', ⟨by have := HJ1.out; have := HJ6.out; have := HJ13.out; have := HJ19.out; have := HK5.out; have := HJ28.out; omega⟩, by repeat (first | exact Drawn0.refl _ | apply Drawn0.step)⟩
                                        · replace c39 := Bool.eq_false_iff.mpr c39
                                          subst c39
                                          have H1 : (some false) = some r := by rw [if_neg (show ¬ (false = true) by decide)] at H; exact H
                                          clear H
                                          have H := H1
                                          clear H1
                                          obtain rfl := Option.some.inj H
                                          go_wp2_with (first | ((with_reducible refine gate_callee (f := 46) rfl ?_); refine goesL_ (some 73) rfl rfl Try.func46 (by kernel_rfl) rfl #[.string (a0.extract (x5_5 : Int).toNat (x7_5 : Int).toNat)] rfl (by (try simp only [List.map_toArray, List.map_cons, List.map_nil]); first | done | rfl | (simp only [List.length_drop, List.length_take]; rfl)) ?_; (with_reducible refine (spec_jPlain.calls kj28 (a0.extract (x5_5 : Int).toNat (x7_5 : Int).toNat) false _ A38.out).mono ?_); rintro e w' ⟨rfl, ⟨nd, rfl⟩⟩; refine ⟨_, rfl, ?_⟩))
                                          go_ret
                                          exact ⟨by first | rfl | (simp; done) | (simp [*]; done), by repeat (first | exact Drawn0.refl _ | apply Drawn0.step)⟩
                                      · rw [if_neg c37] at H
                                        exact absurd H (by simp)
                                    · rw [if_neg c36] at H
                                      exact absurd H (by simp)
                                  · rw [if_neg c35] at H
                                    exact absurd H (by simp)
                                · replace c34 := Bool.eq_false_iff.mpr c34
                                  subst c34
                                  have H1 : (spec_JSemver.l2 kj28 a0 x4_13 x5_5 x6_5 (wrap64 (x7_5 + 1))) = some r := by rw [if_neg (show ¬ (false = true) by decide)] at H; exact H
                                  clear H
                                  have H := H1
                                  clear H1
                                  have H' := Aside0.mk H
                                  clear H
                                  go_wp2
                                  go_roundg kj28
                                  case measure => have := HJ1.out; have := HJ6.out; have := HJ13.out; have := HJ19.out; have := HK5.out; have := HJ28.out; omega
                                  case rel => exact ⟨(x5_5), (x6_5), (wrap64 (x7_5 + 1)), (by first | rfl | (simp; done) | (simp [*]; done)), (by first | rfl | (simp; done) | (simp [*]; done)), (by first | rfl | (simp; done) | (simp [*]; done)), H', ⟨by have := HJ1.out; have := HJ6.out; have := HJ13.out; have := HJ19.out; have := HK5.out; have := HJ28.out; omega⟩, by repeat (first | exact Drawn0.refl _ | apply Drawn0.step)⟩
                          · rw [if_neg c28] at H
                            have c28b0 : decide (x7_5 ≤ x4_13) = false := decide_eq_false c28
                            clear c28
                            obtain rfl := Option.some.inj H
                            go_wp2
                            go_ret
                            exact ⟨by first | rfl | (simp; done) | (simp [*]; done), by repeat (first | exact Drawn0.refl _ | apply Drawn0.step)⟩

end Go.Proofs.Ytdjmjgdafghdgaa.PFnJSemver
