-- PRINTED by print.py (a twelfth state) out of the translation. Not trusted: Lean checks it.
import Derived.Test.YtdleegmdpgefmaaPJx0
namespace Go.Proofs.Ytdleegmdpgefmaa.PJ
open Go.RowKit Go.Proofs.YtdleegmdpgefmaaW.PrintWords Go.Proofs.YtdleegmdpgefmaaW.PrintLast Go.Proofs.YtdleegmdpgefmaaW.PrintMore
attribute [local go_sem] max2_int min2_int max_two min_two max_three min_three max_four min_four   -- for this text's walks alone
set_option linter.unusedVariables false
set_option linter.unusedSimpArgs false

/-! ### spec_jWidth: function 30 -/
mutual
def spec_jWidth.j3 : Nat → ByteArray → Int → Int → Int → Int → Option (Int)
  | 0, _, _, _, _, _ => none
  | k + 1, x0, x1, x6, x7, x8 => if (wrap64 (x1 + x6)) > (x0.size : Int) then (spec_jWidth.j4 k x0 x1 x6 true) else (if 0 ≤ (wrap64 (x1 + 1)) then (if (wrap64 (x1 + 1)) < (x0.size : Int) then (if (bt x0 (wrap64 (x1 + 1))) < x7 then (spec_jWidth.j4 k x0 x1 x6 true) else (spec_jWidth.j4 k x0 x1 x6 (decide ((bt x0 (wrap64 (x1 + 1))) > x8)))) else (none)) else (none))
def spec_jWidth.j4 : Nat → ByteArray → Int → Int → Bool → Option (Int)
  | 0, _, _, _, _ => none
  | k + 1, x0, x1, x6, x66 => if x66 = true then (some 0) else (spec_jWidth.l0 k x0 x1 x6 2)
def spec_jWidth.l0 : Nat → ByteArray → Int → Int → Int → Option (Int)
  | 0, _, _, _, _ => none
  | k + 1, x0, x1, x6, x9 => if x9 < x6 then (if 0 ≤ (wrap64 (x1 + x9)) then (if (wrap64 (x1 + x9)) < (x0.size : Int) then (if (bt x0 (wrap64 (x1 + x9))) < 128 then (some 0) else (if (bt x0 (wrap64 (x1 + x9))) > 191 then (some 0) else (spec_jWidth.l0 k x0 x1 x6 (wrap64 (x9 + 1))))) else (none)) else (none)) else (some x6)
def spec_jWidth.j0 : Nat → ByteArray → Int → Int → Int → Int → Bool → Option (Int)
  | 0, _, _, _, _, _, _ => none
  | k + 1, x0, x1, x5, x7, x8, x16 => if x16 = true then (spec_jWidth.j3 k x0 x1 2 x7 x8) else (if x5 ≥ 224 then (spec_jWidth.j1 k x0 x1 x5 x7 x8 (decide (x5 ≤ 239))) else (spec_jWidth.j1 k x0 x1 x5 x7 x8 false))
def spec_jWidth.j1 : Nat → ByteArray → Int → Int → Int → Int → Bool → Option (Int)
  | 0, _, _, _, _, _, _ => none
  | k + 1, x0, x1, x5, x7, x8, x23 => if x23 = true then (if x5 = 224 then (if x5 = 237 then (spec_jWidth.j3 k x0 x1 3 160 159) else (spec_jWidth.j3 k x0 x1 3 160 x8)) else (if x5 = 237 then (spec_jWidth.j3 k x0 x1 3 x7 159) else (spec_jWidth.j3 k x0 x1 3 x7 x8))) else (if x5 ≥ 240 then (spec_jWidth.j2 k x0 x1 x5 x7 x8 (decide (x5 ≤ 244))) else (spec_jWidth.j2 k x0 x1 x5 x7 x8 false))
def spec_jWidth.j2 : Nat → ByteArray → Int → Int → Int → Int → Bool → Option (Int)
  | 0, _, _, _, _, _, _ => none
  | k + 1, x0, x1, x5, x7, x8, x34 => if x34 = true then (if x5 = 240 then (if x5 = 244 then (spec_jWidth.j3 k x0 x1 4 144 143) else (spec_jWidth.j3 k x0 x1 4 144 x8)) else (if x5 = 244 then (spec_jWidth.j3 k x0 x1 4 x7 143) else (spec_jWidth.j3 k x0 x1 4 x7 x8))) else (some 0)
end
def spec_jWidth.f (k : Nat) (a0 : ByteArray) (a1 : Int) : Option (Int) := if 0 ≤ a1 then (if a1 < (a0.size : Int) then (if (bt a0 a1) < 128 then (some 1) else (if (bt a0 a1) ≥ 194 then (spec_jWidth.j0 k a0 a1 (bt a0 a1) 128 191 (decide ((bt a0 a1) ≤ 223))) else (spec_jWidth.j0 k a0 a1 (bt a0 a1) 128 191 false))) else (none)) else (none)
theorem spec_jWidth.mono_l : ∀ k, (∀ y0 y1 y2 y3 y4, LeO (spec_jWidth.j3 k y0 y1 y2 y3 y4) (spec_jWidth.j3 (k + 1) y0 y1 y2 y3 y4)) ∧ (∀ y0 y1 y2 y3, LeO (spec_jWidth.j4 k y0 y1 y2 y3) (spec_jWidth.j4 (k + 1) y0 y1 y2 y3)) ∧ (∀ y0 y1 y2 y3, LeO (spec_jWidth.l0 k y0 y1 y2 y3) (spec_jWidth.l0 (k + 1) y0 y1 y2 y3)) ∧ (∀ y0 y1 y2 y3 y4 y5, LeO (spec_jWidth.j0 k y0 y1 y2 y3 y4 y5) (spec_jWidth.j0 (k + 1) y0 y1 y2 y3 y4 y5)) ∧ (∀ y0 y1 y2 y3 y4 y5, LeO (spec_jWidth.j1 k y0 y1 y2 y3 y4 y5) (spec_jWidth.j1 (k + 1) y0 y1 y2 y3 y4 y5)) ∧ (∀ y0 y1 y2 y3 y4 y5, LeO (spec_jWidth.j2 k y0 y1 y2 y3 y4 y5) (spec_jWidth.j2 (k + 1) y0 y1 y2 y3 y4 y5))
  | 0 => ⟨fun _ _ _ _ _ r h => by simp [spec_jWidth.j3] at h, fun _ _ _ _ r h => by simp [spec_jWidth.j4] at h, fun _ _ _ _ r h => by simp [spec_jWidth.l0] at h, fun _ _ _ _ _ _ r h => by simp [spec_jWidth.j0] at h, fun _ _ _ _ _ _ r h => by simp [spec_jWidth.j1] at h, fun _ _ _ _ _ _ r h => by simp [spec_jWidth.j2] at h⟩
  | k + 1 => by
    obtain ⟨ih0, ih1, ih2, ih3, ih4, ih5⟩ := spec_jWidth.mono_l k
    refine ⟨?_, ?_, ?_, ?_, ?_, ?_⟩
    · intro y0 y1 y2 y3 y4
      unfold spec_jWidth.j3
      repeat' first
      | (with_reducible exact ih0 _ _ _ _ _)
      | (with_reducible exact ih1 _ _ _ _)
      | (with_reducible exact ih2 _ _ _ _)
      | (with_reducible exact ih3 _ _ _ _ _ _)
      | (with_reducible exact ih4 _ _ _ _ _ _)
      | (with_reducible exact ih5 _ _ _ _ _ _)
      | (with_reducible exact LeO.refl _)
      | (with_reducible exact LeO.none _)
      | (with_reducible refine LeO.ite ?_ ?_)
      | (with_reducible refine LeO.bind ?_ (fun _ => ?_))
      | exact ih0 _ _ _ _ _
      | exact ih1 _ _ _ _
      | exact ih2 _ _ _ _
      | exact ih3 _ _ _ _ _ _
      | exact ih4 _ _ _ _ _ _
      | exact ih5 _ _ _ _ _ _
      | exact LeO.none _
      | refine LeO.ite ?_ ?_
      | refine LeO.bind ?_ (fun _ => ?_)
    · intro y0 y1 y2 y3
      unfold spec_jWidth.j4
      repeat' first
      | (with_reducible exact ih0 _ _ _ _ _)
      | (with_reducible exact ih1 _ _ _ _)
      | (with_reducible exact ih2 _ _ _ _)
      | (with_reducible exact ih3 _ _ _ _ _ _)
      | (with_reducible exact ih4 _ _ _ _ _ _)
      | (with_reducible exact ih5 _ _ _ _ _ _)
      | (with_reducible exact LeO.refl _)
      | (with_reducible exact LeO.none _)
      | (with_reducible refine LeO.ite ?_ ?_)
      | (with_reducible refine LeO.bind ?_ (fun _ => ?_))
      | exact ih0 _ _ _ _ _
      | exact ih1 _ _ _ _
      | exact ih2 _ _ _ _
      | exact ih3 _ _ _ _ _ _
      | exact ih4 _ _ _ _ _ _
      | exact ih5 _ _ _ _ _ _
      | exact LeO.none _
      | refine LeO.ite ?_ ?_
      | refine LeO.bind ?_ (fun _ => ?_)
    · intro y0 y1 y2 y3
      unfold spec_jWidth.l0
      repeat' first
      | (with_reducible exact ih0 _ _ _ _ _)
      | (with_reducible exact ih1 _ _ _ _)
      | (with_reducible exact ih2 _ _ _ _)
      | (with_reducible exact ih3 _ _ _ _ _ _)
      | (with_reducible exact ih4 _ _ _ _ _ _)
      | (with_reducible exact ih5 _ _ _ _ _ _)
      | (with_reducible exact LeO.refl _)
      | (with_reducible exact LeO.none _)
      | (with_reducible refine LeO.ite ?_ ?_)
      | (with_reducible refine LeO.bind ?_ (fun _ => ?_))
      | exact ih0 _ _ _ _ _
      | exact ih1 _ _ _ _
      | exact ih2 _ _ _ _
      | exact ih3 _ _ _ _ _ _
      | exact ih4 _ _ _ _ _ _
      | exact ih5 _ _ _ _ _ _
      | exact LeO.none _
      | refine LeO.ite ?_ ?_
      | refine LeO.bind ?_ (fun _ => ?_)
    · intro y0 y1 y2 y3 y4 y5
      unfold spec_jWidth.j0
      repeat' first
      | (with_reducible exact ih0 _ _ _ _ _)
      | (with_reducible exact ih1 _ _ _ _)
      | (with_reducible exact ih2 _ _ _ _)
      | (with_reducible exact ih3 _ _ _ _ _ _)
      | (with_reducible exact ih4 _ _ _ _ _ _)
      | (with_reducible exact ih5 _ _ _ _ _ _)
      | (with_reducible exact LeO.refl _)
      | (with_reducible exact LeO.none _)
      | (with_reducible refine LeO.ite ?_ ?_)
      | (with_reducible refine LeO.bind ?_ (fun _ => ?_))
      | exact ih0 _ _ _ _ _
      | exact ih1 _ _ _ _
      | exact ih2 _ _ _ _
      | exact ih3 _ _ _ _ _ _
      | exact ih4 _ _ _ _ _ _
      | exact ih5 _ _ _ _ _ _
      | exact LeO.none _
      | refine LeO.ite ?_ ?_
      | refine LeO.bind ?_ (fun _ => ?_)
    · intro y0 y1 y2 y3 y4 y5
      unfold spec_jWidth.j1
      repeat' first
      | (with_reducible exact ih0 _ _ _ _ _)
      | (with_reducible exact ih1 _ _ _ _)
      | (with_reducible exact ih2 _ _ _ _)
      | (with_reducible exact ih3 _ _ _ _ _ _)
      | (with_reducible exact ih4 _ _ _ _ _ _)
      | (with_reducible exact ih5 _ _ _ _ _ _)
      | (with_reducible exact LeO.refl _)
      | (with_reducible exact LeO.none _)
      | (with_reducible refine LeO.ite ?_ ?_)
      | (with_reducible refine LeO.bind ?_ (fun _ => ?_))
      | exact ih0 _ _ _ _ _
      | exact ih1 _ _ _ _
      | exact ih2 _ _ _ _
      | exact ih3 _ _ _ _ _ _
      | exact ih4 _ _ _ _ _ _
      | exact ih5 _ _ _ _ _ _
      | exact LeO.none _
      | refine LeO.ite ?_ ?_
      | refine LeO.bind ?_ (fun _ => ?_)
    · intro y0 y1 y2 y3 y4 y5
      unfold spec_jWidth.j2
      repeat' first
      | (with_reducible exact ih0 _ _ _ _ _)
      | (with_reducible exact ih1 _ _ _ _)
      | (with_reducible exact ih2 _ _ _ _)
      | (with_reducible exact ih3 _ _ _ _ _ _)
      | (with_reducible exact ih4 _ _ _ _ _ _)
      | (with_reducible exact ih5 _ _ _ _ _ _)
      | (with_reducible exact LeO.refl _)
      | (with_reducible exact LeO.none _)
      | (with_reducible refine LeO.ite ?_ ?_)
      | (with_reducible refine LeO.bind ?_ (fun _ => ?_))
      | exact ih0 _ _ _ _ _
      | exact ih1 _ _ _ _
      | exact ih2 _ _ _ _
      | exact ih3 _ _ _ _ _ _
      | exact ih4 _ _ _ _ _ _
      | exact ih5 _ _ _ _ _ _
      | exact LeO.none _
      | refine LeO.ite ?_ ?_
      | refine LeO.bind ?_ (fun _ => ?_)
theorem spec_jWidth.mono : ∀ a0 a1 k, LeO (spec_jWidth.f k a0 a1) (spec_jWidth.f (k + 1) a0 a1) := by
  intro a0 a1 k
  obtain ⟨ih0, ih1, ih2, ih3, ih4, ih5⟩ := spec_jWidth.mono_l k
  unfold spec_jWidth.f
  repeat' first
      | (with_reducible exact ih0 _ _ _ _ _)
      | (with_reducible exact ih1 _ _ _ _)
      | (with_reducible exact ih2 _ _ _ _)
      | (with_reducible exact ih3 _ _ _ _ _ _)
      | (with_reducible exact ih4 _ _ _ _ _ _)
      | (with_reducible exact ih5 _ _ _ _ _ _)
      | (with_reducible exact LeO.refl _)
      | (with_reducible exact LeO.none _)
      | (with_reducible refine LeO.ite ?_ ?_)
      | (with_reducible refine LeO.bind ?_ (fun _ => ?_))
      | exact ih0 _ _ _ _ _
      | exact ih1 _ _ _ _
      | exact ih2 _ _ _ _
      | exact ih3 _ _ _ _ _ _
      | exact ih4 _ _ _ _ _ _
      | exact ih5 _ _ _ _ _ _
      | exact LeO.none _
      | refine LeO.ite ?_ ?_
      | refine LeO.bind ?_ (fun _ => ?_)
set_option maxHeartbeats 8000000 in
set_option maxRecDepth 100000 in
theorem spec_jWidth.calls (k : Nat) (a0 : ByteArray) (a1 : Int) (r : Int) (w : World) (h : spec_jWidth.f k a0 a1 = some r) :
    Calls Try.prog 30 #[.string a0, .int .i64 a1] w fun e w' => e = .returned (.int .i64 r) ∧ Drawn0 w w' := by
  have H : (if 0 ≤ a1 then (if a1 < (a0.size : Int) then (if (bt a0 a1) < 128 then (some 1) else (if (bt a0 a1) ≥ 194 then (spec_jWidth.j0 k a0 a1 (bt a0 a1) 128 191 (decide ((bt a0 a1) ≤ 223))) else (spec_jWidth.j0 k a0 a1 (bt a0 a1) 128 191 false))) else (none)) else (none)) = some r := h
  clear h
  by_cases c3 : 0 ≤ a1
  · rw [if_pos c3] at H
    have c3b0 : decide (0 ≤ a1) = true := decide_eq_true c3
    clear c3
    by_cases c4 : a1 < (a0.size : Int)
    · rw [if_pos c4] at H
      have c4b0 : decide (a1 < (a0.size : Int)) = true := decide_eq_true c4
      clear c4
      have HC6 := Aside0.mk H
      clear H
      have p5 : 0 ≤ (a1 : Int) := of_decide_eq_true (by first | (with_reducible assumption) | assumption)
      have q5 : a1 < (a0.size : Int) := of_decide_eq_true (by first | (with_reducible assumption) | assumption)
      have hx5 := bt_at a0 a1
      replace p5 := eq_true p5
      replace q5 := eq_true q5
      go_enter Try.func30, Try.ntmps30
      go_upto_block 0 with (fail)
      go_cut [6, 7, 8] (fun v6 v7 v8 wc => ∃ (kq : Nat) (x6_5 : Int) (x7_5 : Int) (x8_5 : Int), v6 = .int .i64 x6_5 ∧ v7 = .int .u8 x7_5 ∧ v8 = .int .u8 x8_5 ∧ Aside0 (spec_jWidth.j3 kq a0 a1 x6_5 x7_5 x8_5 = some r) ∧ Aside0 (kq ≤ k) ∧ Drawn0 w wc)
      case first =>
        have H := HC6.out
        clear HC6
        by_cases c7 : (bt a0 a1) < 128
        · rw [if_pos c7] at H
          have c7b0 : decide ((bt a0 a1) < 128) = true := decide_eq_true c7
          clear c7
          (first | rw [c7b0] | (simp only [i64_w, i32_w]; rw [c7b0]) | skip)
          obtain rfl := Option.some.inj H
          go_wp2
          go_ret
          exact ⟨by first | rfl | (simp; done) | (simp [*]; done), by repeat (first | exact Drawn0.refl _ | apply Drawn0.step)⟩
        · rw [if_neg c7] at H
          have c7b0 : decide ((bt a0 a1) < 128) = false := decide_eq_false c7
          clear c7
          (first | rw [c7b0] | (simp only [i64_w, i32_w]; rw [c7b0]) | skip)
          have HC8 := Aside0.mk H
          clear H
          go_upto_region 7 with (fail)
          go_cut [16] (fun v16 wc => ∃ (kq : Nat) (x16_7 : Bool), v16 = .bool x16_7 ∧ Aside0 (spec_jWidth.j0 kq a0 a1 (bt a0 a1) 128 191 x16_7 = some r) ∧ Aside0 (kq ≤ k) ∧ Drawn0 w wc)
          case first =>
            have H := HC8.out
            clear HC8
            by_cases c9 : (bt a0 a1) ≥ 194
            · rw [if_pos c9] at H
              have c9b0 : decide (194 ≤ (bt a0 a1)) = true := decide_eq_true c9
              clear c9
              (first | rw [c9b0] | (simp only [i64_w, i32_w]; rw [c9b0]) | skip)
              have H' := Aside0.mk H
              clear H
              go_wp2
              go_meet
              case rel => exact ⟨_, (decide ((bt a0 a1) ≤ 223)), (by first | rfl | (simp; done) | (simp [*]; done)), H', ⟨by first | omega | exact Nat.le_refl _⟩, by repeat (first | exact Drawn0.refl _ | apply Drawn0.step)⟩
            · rw [if_neg c9] at H
              have c9b0 : decide (194 ≤ (bt a0 a1)) = false := decide_eq_false c9
              clear c9
              (first | rw [c9b0] | (simp only [i64_w, i32_w]; rw [c9b0]) | skip)
              have H' := Aside0.mk H
              clear H
              go_wp2
              go_meet
              case rel => exact ⟨_, (false), (by first | rfl | (simp; done) | (simp [*]; done)), H', ⟨by first | omega | exact Nat.le_refl _⟩, by repeat (first | exact Drawn0.refl _ | apply Drawn0.step)⟩
          case rest =>
            clear HC8
            try clear p2
            try clear c3
            try clear c3b0
            try clear c4
            try clear c4b0
            try clear p5
            try clear q5
            try clear hx5
            try clear c7
            try clear c7b0
            try clear c9
            try clear c9b0
            try clear p5
            try clear q5
            obtain ⟨kq, x16_7, rfl, HA, HJ7, ⟨mc7, rfl⟩⟩ := hcut
            cases kq with
            | zero => exact absurd HA.out (by simp [spec_jWidth.j0])
            | succ kj7 =>
              have H := HA.out
              clear HA
              simp only [spec_jWidth.j0] at H
              by_cases c10 : x16_7 = true
              · subst c10
                have H1 : (spec_jWidth.j3 kj7 a0 a1 2 128 191) = some r := by rw [if_pos rfl] at H; exact H
                clear H
                have H := H1
                clear H1
                have H' := Aside0.mk H
                clear H
                go_wp2
                go_meet
                case rel => exact ⟨_, (2), (128), (191), (by first | rfl | (simp; done) | (simp [*]; done)), (by first | rfl | (simp; done) | (simp [*]; done)), (by first | rfl | (simp; done) | (simp [*]; done)), H', ⟨by have := HJ7.out; first | omega | exact Nat.le_refl _⟩, by repeat (first | exact Drawn0.refl _ | apply Drawn0.step)⟩
              · replace c10 := Bool.eq_false_iff.mpr c10
                subst c10
                have H1 : (if (bt a0 a1) ≥ 224 then (spec_jWidth.j1 kj7 a0 a1 (bt a0 a1) 128 191 (decide ((bt a0 a1) ≤ 239))) else (spec_jWidth.j1 kj7 a0 a1 (bt a0 a1) 128 191 false)) = some r := by rw [if_neg (show ¬ (false = true) by decide)] at H; exact H
                clear H
                have H := H1
                clear H1
                have HC11 := Aside0.mk H
                clear H
                go_upto_region 9 with (fail)
                go_cut [23] (fun v23 wc => ∃ (kq : Nat) (x23_10 : Bool), v23 = .bool x23_10 ∧ Aside0 (spec_jWidth.j1 kq a0 a1 (bt a0 a1) 128 191 x23_10 = some r) ∧ Aside0 (kq ≤ kj7) ∧ Drawn0 w wc)
                case first =>
                  have H := HC11.out
                  clear HC11
                  by_cases c12 : (bt a0 a1) ≥ 224
                  · rw [if_pos c12] at H
                    have c12b0 : decide (224 ≤ (bt a0 a1)) = true := decide_eq_true c12
                    clear c12
                    (first | rw [c12b0] | (simp only [i64_w, i32_w]; rw [c12b0]) | skip)
                    have H' := Aside0.mk H
                    clear H
                    go_wp2
                    go_meet
                    case rel => exact ⟨_, (decide ((bt a0 a1) ≤ 239)), (by first | rfl | (simp; done) | (simp [*]; done)), H', ⟨by have := HJ7.out; first | omega | exact Nat.le_refl _⟩, by repeat (first | exact Drawn0.refl _ | apply Drawn0.step)⟩
                  · rw [if_neg c12] at H
                    have c12b0 : decide (224 ≤ (bt a0 a1)) = false := decide_eq_false c12
                    clear c12
                    (first | rw [c12b0] | (simp only [i64_w, i32_w]; rw [c12b0]) | skip)
                    have H' := Aside0.mk H
                    clear H
                    go_wp2
                    go_meet
                    case rel => exact ⟨_, (false), (by first | rfl | (simp; done) | (simp [*]; done)), H', ⟨by have := HJ7.out; first | omega | exact Nat.le_refl _⟩, by repeat (first | exact Drawn0.refl _ | apply Drawn0.step)⟩
                case rest =>
                  clear HC11
                  try clear c1
                  try clear p2
                  try clear c3
                  try clear c3b0
                  try clear c4
                  try clear c4b0
                  try clear p5
                  try clear q5
                  try clear hx5
                  try clear c7
                  try clear c7b0
                  try clear c9
                  try clear c9b0
                  try clear c10
                  try clear c12
                  try clear c12b0
                  try clear p2
                  try clear p5
                  try clear q5
                  obtain ⟨kq, x23_10, rfl, HA, HJ10, ⟨mc10, rfl⟩⟩ := hcut
                  cases kq with
                  | zero => exact absurd HA.out (by simp [spec_jWidth.j1])
                  | succ kj10 =>
                    have H := HA.out
                    clear HA
                    simp only [spec_jWidth.j1] at H
                    by_cases c13 : x23_10 = true
                    · subst c13
                      have H1 : (if (bt a0 a1) = 224 then (if (bt a0 a1) = 237 then (spec_jWidth.j3 kj10 a0 a1 3 160 159) else (spec_jWidth.j3 kj10 a0 a1 3 160 191)) else (if (bt a0 a1) = 237 then (spec_jWidth.j3 kj10 a0 a1 3 128 159) else (spec_jWidth.j3 kj10 a0 a1 3 128 191))) = some r := by rw [if_pos rfl] at H; exact H
                      clear H
                      have H := H1
                      clear H1
                      by_cases c14 : (bt a0 a1) = 224
                      · rw [if_pos c14] at H
                        have c14b0 : ((bt a0 a1) == 224) = true := beq_iff_eq.mpr c14
                        have c14b1 : ((bt a0 a1) != 224) = false := bne_eq_false_iff_eq.mpr c14
                        clear c14
                        by_cases c15 : (bt a0 a1) = 237
                        · rw [if_pos c15] at H
                          have c15b0 : ((bt a0 a1) == 237) = true := beq_iff_eq.mpr c15
                          have c15b1 : ((bt a0 a1) != 237) = false := bne_eq_false_iff_eq.mpr c15
                          clear c15
                          have H' := Aside0.mk H
                          clear H
                          go_wp2
                          go_meet
                          case rel => exact ⟨_, (3), (160), (159), (by first | rfl | (simp; done) | (simp [*]; done)), (by first | rfl | (simp; done) | (simp [*]; done)), (by first | rfl | (simp; done) | (simp [*]; done)), H', ⟨by have := HJ7.out; have := HJ10.out; first | omega | exact Nat.le_refl _⟩, by repeat (first | exact Drawn0.refl _ | apply Drawn0.step)⟩
                        · rw [if_neg c15] at H
                          have c15b0 : ((bt a0 a1) == 237) = false := beq_eq_false_iff_ne.mpr c15
                          have c15b1 : ((bt a0 a1) != 237) = true := bne_iff_ne.mpr c15
                          have H' := Aside0.mk H
                          clear H
                          go_wp2
                          go_meet
                          case rel => exact ⟨_, (3), (160), (191), (by first | rfl | (simp; done) | (simp [*]; done)), (by first | rfl | (simp; done) | (simp [*]; done)), (by first | rfl | (simp; done) | (simp [*]; done)), H', ⟨by have := HJ7.out; have := HJ10.out; first | omega | exact Nat.le_refl _⟩, by repeat (first | exact Drawn0.refl _ | apply Drawn0.step)⟩
                      · rw [if_neg c14] at H
                        have c14b0 : ((bt a0 a1) == 224) = false := beq_eq_false_iff_ne.mpr c14
                        have c14b1 : ((bt a0 a1) != 224) = true := bne_iff_ne.mpr c14
                        by_cases c16 : (bt a0 a1) = 237
                        · rw [if_pos c16] at H
                          have c16b0 : ((bt a0 a1) == 237) = true := beq_iff_eq.mpr c16
                          have c16b1 : ((bt a0 a1) != 237) = false := bne_eq_false_iff_eq.mpr c16
                          clear c16
                          have H' := Aside0.mk H
                          clear H
                          go_wp2
                          go_meet
                          case rel => exact ⟨_, (3), (128), (159), (by first | rfl | (simp; done) | (simp [*]; done)), (by first | rfl | (simp; done) | (simp [*]; done)), (by first | rfl | (simp; done) | (simp [*]; done)), H', ⟨by have := HJ7.out; have := HJ10.out; first | omega | exact Nat.le_refl _⟩, by repeat (first | exact Drawn0.refl _ | apply Drawn0.step)⟩
                        · rw [if_neg c16] at H
                          have c16b0 : ((bt a0 a1) == 237) = false := beq_eq_false_iff_ne.mpr c16
                          have c16b1 : ((bt a0 a1) != 237) = true := bne_iff_ne.mpr c16
                          have H' := Aside0.mk H
                          clear H
                          go_wp2
                          go_meet
                          case rel => exact ⟨_, (3), (128), (191), (by first | rfl | (simp; done) | (simp [*]; done)), (by first | rfl | (simp; done) | (simp [*]; done)), (by first | rfl | (simp; done) | (simp [*]; done)), H', ⟨by have := HJ7.out; have := HJ10.out; first | omega | exact Nat.le_refl _⟩, by repeat (first | exact Drawn0.refl _ | apply Drawn0.step)⟩
                    · replace c13 := Bool.eq_false_iff.mpr c13
                      subst c13
                      have H1 : (if (bt a0 a1) ≥ 240 then (spec_jWidth.j2 kj10 a0 a1 (bt a0 a1) 128 191 (decide ((bt a0 a1) ≤ 244))) else (spec_jWidth.j2 kj10 a0 a1 (bt a0 a1) 128 191 false)) = some r := by rw [if_neg (show ¬ (false = true) by decide)] at H; exact H
                      clear H
                      have H := H1
                      clear H1
                      have HC17 := Aside0.mk H
                      clear H
                      go_upto_region 15 with (fail)
                      go_cut [34] (fun v34 wc => ∃ (kq : Nat) (x34_16 : Bool), v34 = .bool x34_16 ∧ Aside0 (spec_jWidth.j2 kq a0 a1 (bt a0 a1) 128 191 x34_16 = some r) ∧ Aside0 (kq ≤ kj10) ∧ Drawn0 w wc)
                      case first =>
                        have H := HC17.out
                        clear HC17
                        by_cases c18 : (bt a0 a1) ≥ 240
                        · rw [if_pos c18] at H
                          have c18b0 : decide (240 ≤ (bt a0 a1)) = true := decide_eq_true c18
                          clear c18
                          (first | rw [c18b0] | (simp only [i64_w, i32_w]; rw [c18b0]) | skip)
                          have H' := Aside0.mk H
                          clear H
                          go_wp2
                          go_meet
                          case rel => exact ⟨_, (decide ((bt a0 a1) ≤ 244)), (by first | rfl | (simp; done) | (simp [*]; done)), H', ⟨by have := HJ7.out; have := HJ10.out; first | omega | exact Nat.le_refl _⟩, by repeat (first | exact Drawn0.refl _ | apply Drawn0.step)⟩
                        · rw [if_neg c18] at H
                          have c18b0 : decide (240 ≤ (bt a0 a1)) = false := decide_eq_false c18
                          clear c18
                          (first | rw [c18b0] | (simp only [i64_w, i32_w]; rw [c18b0]) | skip)
                          have H' := Aside0.mk H
                          clear H
                          go_wp2
                          go_meet
                          case rel => exact ⟨_, (false), (by first | rfl | (simp; done) | (simp [*]; done)), H', ⟨by have := HJ7.out; have := HJ10.out; first | omega | exact Nat.le_refl _⟩, by repeat (first | exact Drawn0.refl _ | apply Drawn0.step)⟩
                      case rest =>
                        clear HC17
                        try clear c1
                        try clear p2
                        try clear c3
                        try clear c3b0
                        try clear c4
                        try clear c4b0
                        try clear p5
                        try clear q5
                        try clear hx5
                        try clear c7
                        try clear c7b0
                        try clear c9
                        try clear c9b0
                        try clear c10
                        try clear c12
                        try clear c12b0
                        try clear c13
                        try clear c14
                        try clear c14b0
                        try clear c14b1
                        try clear c15
                        try clear c15b0
                        try clear c15b1
                        try clear c16
                        try clear c16b0
                        try clear c16b1
                        try clear c18
                        try clear c18b0
                        try clear p2
                        try clear p5
                        try clear q5
                        obtain ⟨kq, x34_16, rfl, HA, HJ16, ⟨mc16, rfl⟩⟩ := hcut
                        cases kq with
                        | zero => exact absurd HA.out (by simp [spec_jWidth.j2])
                        | succ kj16 =>
                          have H := HA.out
                          clear HA
                          simp only [spec_jWidth.j2] at H
                          by_cases c19 : x34_16 = true
                          · subst c19
                            have H1 : (if (bt a0 a1) = 240 then (if (bt a0 a1) = 244 then (spec_jWidth.j3 kj16 a0 a1 4 144 143) else (spec_jWidth.j3 kj16 a0 a1 4 144 191)) else (if (bt a0 a1) = 244 then (spec_jWidth.j3 kj16 a0 a1 4 128 143) else (spec_jWidth.j3 kj16 a0 a1 4 128 191))) = some r := by rw [if_pos rfl] at H; exact H
                            clear H
                            have H := H1
                            clear H1
                            by_cases c20 : (bt a0 a1) = 240
                            · rw [if_pos c20] at H
                              have c20b0 : ((bt a0 a1) == 240) = true := beq_iff_eq.mpr c20
                              have c20b1 : ((bt a0 a1) != 240) = false := bne_eq_false_iff_eq.mpr c20
                              clear c20
                              by_cases c21 : (bt a0 a1) = 244
                              · rw [if_pos c21] at H
                                have c21b0 : ((bt a0 a1) == 244) = true := beq_iff_eq.mpr c21
                                have c21b1 : ((bt a0 a1) != 244) = false := bne_eq_false_iff_eq.mpr c21
                                clear c21
                                have H' := Aside0.mk H
                                clear H
                                go_wp2
                                go_meet
                                case rel => exact ⟨_, (4), (144), (143), (by first | rfl | (simp; done) | (simp [*]; done)), (by first | rfl | (simp; done) | (simp [*]; done)), (by first | rfl | (simp; done) | (simp [*]; done)), H', ⟨by have := HJ7.out; have := HJ10.out; have := HJ16.out; first | omega | exact Nat.le_refl _⟩, by repeat (first | exact Drawn0.refl _ | apply Drawn0.step)⟩
                              · rw [if_neg c21] at H
                                have c21b0 : ((bt a0 a1) == 244) = false := beq_eq_false_iff_ne.mpr c21
                                have c21b1 : ((bt a0 a1) != 244) = true := bne_iff_ne.mpr c21
                                have H' := Aside0.mk H
                                clear H
                                go_wp2
                                go_meet
                                case rel => exact ⟨_, (4), (144), (191), (by first | rfl | (simp; done) | (simp [*]; done)), (by first | rfl | (simp; done) | (simp [*]; done)), (by first | rfl | (simp; done) | (simp [*]; done)), H', ⟨by have := HJ7.out; have := HJ10.out; have := HJ16.out; first | omega | exact Nat.le_refl _⟩, by repeat (first | exact Drawn0.refl _ | apply Drawn0.step)⟩
                            · rw [if_neg c20] at H
                              have c20b0 : ((bt a0 a1) == 240) = false := beq_eq_false_iff_ne.mpr c20
                              have c20b1 : ((bt a0 a1) != 240) = true := bne_iff_ne.mpr c20
                              by_cases c22 : (bt a0 a1) = 244
                              · rw [if_pos c22] at H
                                have c22b0 : ((bt a0 a1) == 244) = true := beq_iff_eq.mpr c22
                                have c22b1 : ((bt a0 a1) != 244) = false := bne_eq_false_iff_eq.mpr c22
                                clear c22
                                have H' := Aside0.mk H
                                clear H
                                go_wp2
                                go_meet
                                case rel => exact ⟨_, (4), (128), (143), (by first | rfl | (simp; done) | (simp [*]; done)), (by first | rfl | (simp; done) | (simp [*]; done)), (by first | rfl | (simp; done) | (simp [*]; done)), H', ⟨by have := HJ7.out; have := HJ10.out; have := HJ16.out; first | omega | exact Nat.le_refl _⟩, by repeat (first | exact Drawn0.refl _ | apply Drawn0.step)⟩
                              · rw [if_neg c22] at H
                                have c22b0 : ((bt a0 a1) == 244) = false := beq_eq_false_iff_ne.mpr c22
                                have c22b1 : ((bt a0 a1) != 244) = true := bne_iff_ne.mpr c22
                                have H' := Aside0.mk H
                                clear H
                                go_wp2
                                go_meet
                                case rel => exact ⟨_, (4), (128), (191), (by first | rfl | (simp; done) | (simp [*]; done)), (by first | rfl | (simp; done) | (simp [*]; done)), (by first | rfl | (simp; done) | (simp [*]; done)), H', ⟨by have := HJ7.out; have := HJ10.out; have := HJ16.out; first | omega | exact Nat.le_refl _⟩, by repeat (first | exact Drawn0.refl _ | apply Drawn0.step)⟩
                          · replace c19 := Bool.eq_false_iff.mpr c19
                            subst c19
                            have H1 : (some 0) = some r := by rw [if_neg (show ¬ (false = true) by decide)] at H; exact H
                            clear H
                            have H := H1
                            clear H1
                            obtain rfl := Option.some.inj H
                            go_wp2
                            go_ret
                            exact ⟨by first | rfl | (simp; done) | (simp [*]; done), by repeat (first | exact Drawn0.refl _ | apply Drawn0.step)⟩
      case rest =>
        clear HC6
        try clear c1
        try clear c2
        try clear p2
        try clear c3
        try clear c3b0
        try clear c4
        try clear c4b0
        try clear p5
        try clear q5
        try clear hx5
        try clear c7
        try clear c7b0
        try clear c9
        try clear c9b0
        try clear c10
        try clear c12
        try clear c12b0
        try clear c13
        try clear c14
        try clear c14b0
        try clear c14b1
        try clear c15
        try clear c15b0
        try clear c15b1
        try clear c16
        try clear c16b0
        try clear c16b1
        try clear c18
        try clear c18b0
        try clear c19
        try clear c20
        try clear c20b0
        try clear c20b1
        try clear c21
        try clear c21b0
        try clear c21b1
        try clear c22
        try clear c22b0
        try clear c22b1
        try clear p2
        try clear p5
        try clear q5
        obtain ⟨kq, x6_5, x7_5, x8_5, rfl, rfl, rfl, HA, HJ5, ⟨mc5, rfl⟩⟩ := hcut
        cases kq with
        | zero => exact absurd HA.out (by simp [spec_jWidth.j3])
        | succ kj5 =>
          have H := HA.out
          clear HA
          simp only [spec_jWidth.j3] at H
          have HC23 := Aside0.mk H
          clear H
          go_upto_region 21 with (fail)
          go_cut [66] (fun v66 wc => ∃ (kq : Nat) (x66_22 : Bool), v66 = .bool x66_22 ∧ Aside0 (spec_jWidth.j4 kq a0 a1 x6_5 x66_22 = some r) ∧ Aside0 (kq ≤ kj5) ∧ Drawn0 w wc)
          case first =>
            have H := HC23.out
            clear HC23
            by_cases c24 : (wrap64 (a1 + x6_5)) > (a0.size : Int)
            · rw [if_pos c24] at H
              have c24b0 : decide ((a0.size : Int) < (wrap64 (a1 + x6_5))) = true := decide_eq_true c24
              clear c24
              (first | rw [c24b0] | (simp only [i64_w, i32_w]; rw [c24b0]) | skip)
              have H' := Aside0.mk H
              clear H
              go_wp2
              go_meet
              case rel => exact ⟨_, (true), (by first | rfl | (simp; done) | (simp [*]; done)), H', ⟨by have := HJ5.out; first | omega | exact Nat.le_refl _⟩, by repeat (first | exact Drawn0.refl _ | apply Drawn0.step)⟩
            · rw [if_neg c24] at H
              have c24b0 : decide ((a0.size : Int) < (wrap64 (a1 + x6_5))) = false := decide_eq_false c24
              clear c24
              (first | rw [c24b0] | (simp only [i64_w, i32_w]; rw [c24b0]) | skip)
              obtain ⟨ji25, hji25⟩ : ∃ j_ : Int, (wrap64 (a1 + 1)) = j_ := ⟨_, rfl⟩
              replace H : (if 0 ≤ (ji25) then (if (ji25) < (a0.size : Int) then (if (bt a0 (ji25)) < x7_5 then (spec_jWidth.j4 kj5 a0 a1 x6_5 true) else (spec_jWidth.j4 kj5 a0 a1 x6_5 (decide ((bt a0 (ji25)) > x8_5)))) else (none)) else (none)) = some r := by first | (rw [hji25] at H; exact H) | (simp only [hji25] at H ⊢; exact H)
              have hji25w : (IntKind.i64.wrap (a1 + 1)) = ji25 := (i64_w _).trans hji25
              by_cases c26 : 0 ≤ (ji25)
              · rw [if_pos c26] at H
                have c26b0 : decide (0 ≤ (ji25)) = true := decide_eq_true c26
                clear c26
                by_cases c27 : (ji25) < (a0.size : Int)
                · rw [if_pos c27] at H
                  have c27b0 : decide ((ji25) < (a0.size : Int)) = true := decide_eq_true c27
                  clear c27
                  by_cases c29 : (bt a0 (ji25)) < x7_5
                  · rw [if_pos c29] at H
                    have c29b0 : decide ((bt a0 (ji25)) < x7_5) = true := decide_eq_true c29
                    clear c29
                    have H' := Aside0.mk H
                    clear H
                    have p28 : 0 ≤ ((ji25) : Int) := of_decide_eq_true (by first | (with_reducible assumption) | assumption)
                    have q28 : (ji25) < (a0.size : Int) := of_decide_eq_true (by first | (with_reducible assumption) | assumption)
                    have hx28 := bt_at a0 (ji25)
                    replace p28 := eq_true p28
                    replace q28 := eq_true q28
                    go_wp2
                    go_meet
                    case rel => exact ⟨_, (true), (by first | rfl | (simp; done) | (simp [*]; done)), H', ⟨by have := HJ5.out; first | omega | exact Nat.le_refl _⟩, by repeat (first | exact Drawn0.refl _ | apply Drawn0.step)⟩
                  · rw [if_neg c29] at H
                    have c29b0 : decide ((bt a0 (ji25)) < x7_5) = false := decide_eq_false c29
                    clear c29
                    have H' := Aside0.mk H
                    clear H
                    have p28 : 0 ≤ ((ji25) : Int) := of_decide_eq_true (by first | (with_reducible assumption) | assumption)
                    have q28 : (ji25) < (a0.size : Int) := of_decide_eq_true (by first | (with_reducible assumption) | assumption)
                    have hx28 := bt_at a0 (ji25)
                    replace p28 := eq_true p28
                    replace q28 := eq_true q28
                    have p30 : 0 ≤ ((ji25) : Int) := of_decide_eq_true (by first | (with_reducible assumption) | assumption)
                    have q30 : (ji25) < (a0.size : Int) := of_decide_eq_true (by first | (with_reducible assumption) | assumption)
                    have hx30 := bt_at a0 (ji25)
                    replace p30 := eq_true p30
                    replace q30 := eq_true q30
                    go_wp2
                    go_meet
                    case rel => exact ⟨_, (decide ((bt a0 (ji25)) > x8_5)), (by first | rfl | (simp; done) | (simp only [← hji25] <;> (first | rfl | simp)) | (simp [*]; done)), H', ⟨by have := HJ5.out; first | omega | exact Nat.le_refl _⟩, by repeat (first | exact Drawn0.refl _ | apply Drawn0.step)⟩
                · rw [if_neg c27] at H
                  exact absurd H (by simp)
              · rw [if_neg c26] at H
                exact absurd H (by simp)
          case rest =>
            clear HC23
            try clear c1
            try clear c2
            try clear p2
            try clear q2
            try clear hx2
            try clear c3
            try clear c3b0
            try clear p3
            try clear q3
            try clear hx3
            try clear c4
            try clear c4b0
            try clear c5
            try clear p5
            try clear q5
            try clear hx5
            try clear p6
            try clear c7
            try clear c7b0
            try clear c9
            try clear c9b0
            try clear c10
            try clear c12
            try clear c12b0
            try clear c13
            try clear c14
            try clear c14b0
            try clear c14b1
            try clear c15
            try clear c15b0
            try clear c15b1
            try clear c16
            try clear c16b0
            try clear c16b1
            try clear c18
            try clear c18b0
            try clear c19
            try clear c20
            try clear c20b0
            try clear c20b1
            try clear c21
            try clear c21b0
            try clear c21b1
            try clear c22
            try clear c22b0
            try clear c22b1
            try clear c24
            try clear c24b0
            try clear c26
            try clear c26b0
            try clear c27
            try clear c27b0
            try clear p28
            try clear q28
            try clear hx28
            try clear c29
            try clear c29b0
            try clear c30
            try clear p30
            try clear q30
            try clear hx30
            try clear p2
            try clear p28
            try clear p30
            try clear p5
            try clear q28
            try clear q30
            try clear q5
            obtain ⟨kq, x66_22, rfl, HA, HJ22, ⟨mc22, rfl⟩⟩ := hcut
            cases kq with
            | zero => exact absurd HA.out (by simp [spec_jWidth.j4])
            | succ kj22 =>
              have H := HA.out
              clear HA
              simp only [spec_jWidth.j4] at H
              by_cases c31 : x66_22 = true
              · subst c31
                have H1 : (some 0) = some r := by rw [if_pos rfl] at H; exact H
                clear H
                have H := H1
                clear H1
                obtain rfl := Option.some.inj H
                go_wp2
                go_ret
                exact ⟨by first | rfl | (simp; done) | (simp [*]; done), by repeat (first | exact Drawn0.refl _ | apply Drawn0.step)⟩
              · replace c31 := Bool.eq_false_iff.mpr c31
                subst c31
                have H1 : (spec_jWidth.l0 kj22 a0 a1 x6_5 2) = some r := by rw [if_neg (show ¬ (false = true) by decide)] at H; exact H
                clear H
                have H := H1
                clear H1
                have H' := Aside0.mk H
                clear H
                go_wp2
                go_loopg [9] kj22 (fun kq v9 w' => ∃ (x9_3 : Int), v9 = .int .i64 x9_3 ∧ Aside0 (spec_jWidth.l0 kq a0 a1 x6_5 x9_3 = some r) ∧ Aside0 (kq ≤ kj22) ∧ Drawn0 w w')
                case atStart => exact ⟨(2), (by first | rfl | (simp; done) | (simp [*]; done)), H', ⟨Nat.le_refl _⟩, by repeat (first | exact Drawn0.refl _ | apply Drawn0.step)⟩
                case round =>
                  clear H'
                  try clear c1
                  try clear c2
                  try clear p2
                  try clear q2
                  try clear hx2
                  try clear c3
                  try clear c3b0
                  try clear p3
                  try clear q3
                  try clear hx3
                  try clear c4
                  try clear c4b0
                  try clear c5
                  try clear p5
                  try clear q5
                  try clear hx5
                  try clear p6
                  try clear c7
                  try clear c7b0
                  try clear c9
                  try clear c9b0
                  try clear c10
                  try clear c12
                  try clear c12b0
                  try clear c13
                  try clear c14
                  try clear c14b0
                  try clear c14b1
                  try clear c15
                  try clear c15b0
                  try clear c15b1
                  try clear c16
                  try clear c16b0
                  try clear c16b1
                  try clear c18
                  try clear c18b0
                  try clear c19
                  try clear c20
                  try clear c20b0
                  try clear c20b1
                  try clear c21
                  try clear c21b0
                  try clear c21b1
                  try clear c22
                  try clear c22b0
                  try clear c22b1
                  try clear c24
                  try clear c24b0
                  try clear c26
                  try clear c26b0
                  try clear c27
                  try clear c27b0
                  try clear p28
                  try clear q28
                  try clear hx28
                  try clear c29
                  try clear c29b0
                  try clear c30
                  try clear p30
                  try clear q30
                  try clear hx30
                  try clear c31
                  try clear p2
                  try clear p28
                  try clear p3
                  try clear p30
                  try clear p5
                  try clear p6
                  try clear q2
                  try clear q28
                  try clear q3
                  try clear q30
                  try clear q5
                  obtain ⟨x9_3, rfl, HA, HK3, ⟨m3, rfl⟩⟩ := hrel
                  cases gk with
                  | zero => exact absurd HA.out (by simp [spec_jWidth.l0])
                  | succ k3 =>
                    have H := HA.out
                    clear HA
                    simp only [spec_jWidth.l0] at H
                    by_cases c32 : x9_3 < x6_5
                    · rw [if_pos c32] at H
                      have c32b0 : decide (x9_3 < x6_5) = true := decide_eq_true c32
                      clear c32
                      obtain ⟨ji33, hji33⟩ : ∃ j_ : Int, (wrap64 (a1 + x9_3)) = j_ := ⟨_, rfl⟩
                      replace H : (if 0 ≤ (ji33) then (if (ji33) < (a0.size : Int) then (if (bt a0 (ji33)) < 128 then (some 0) else (if (bt a0 (ji33)) > 191 then (some 0) else (spec_jWidth.l0 k3 a0 a1 x6_5 (wrap64 (x9_3 + 1))))) else (none)) else (none)) = some r := by first | (rw [hji33] at H; exact H) | (simp only [hji33] at H ⊢; exact H)
                      have hji33w : (IntKind.i64.wrap (a1 + x9_3)) = ji33 := (i64_w _).trans hji33
                      by_cases c34 : 0 ≤ (ji33)
                      · rw [if_pos c34] at H
                        have c34b0 : decide (0 ≤ (ji33)) = true := decide_eq_true c34
                        clear c34
                        by_cases c35 : (ji33) < (a0.size : Int)
                        · rw [if_pos c35] at H
                          have c35b0 : decide ((ji33) < (a0.size : Int)) = true := decide_eq_true c35
                          clear c35
                          by_cases c37 : (bt a0 (ji33)) < 128
                          · rw [if_pos c37] at H
                            have c37b0 : decide ((bt a0 (ji33)) < 128) = true := decide_eq_true c37
                            clear c37
                            obtain rfl := Option.some.inj H
                            have p36 : 0 ≤ ((ji33) : Int) := of_decide_eq_true (by first | (with_reducible assumption) | assumption)
                            have q36 : (ji33) < (a0.size : Int) := of_decide_eq_true (by first | (with_reducible assumption) | assumption)
                            have hx36 := bt_at a0 (ji33)
                            replace p36 := eq_true p36
                            replace q36 := eq_true q36
                            go_wp2
                            go_ret
                            exact ⟨by first | rfl | (simp; done) | (simp only [← hji33] <;> (first | rfl | simp)) | (simp [*]; done), by repeat (first | exact Drawn0.refl _ | apply Drawn0.step)⟩
                          · rw [if_neg c37] at H
                            have c37b0 : decide ((bt a0 (ji33)) < 128) = false := decide_eq_false c37
                            clear c37
                            by_cases c39 : (bt a0 (ji33)) > 191
                            · rw [if_pos c39] at H
                              have c39b0 : decide (191 < (bt a0 (ji33))) = true := decide_eq_true c39
                              clear c39
                              obtain rfl := Option.some.inj H
                              have p36 : 0 ≤ ((ji33) : Int) := of_decide_eq_true (by first | (with_reducible assumption) | assumption)
                              have q36 : (ji33) < (a0.size : Int) := of_decide_eq_true (by first | (with_reducible assumption) | assumption)
                              have hx36 := bt_at a0 (ji33)
                              replace p36 := eq_true p36
                              replace q36 := eq_true q36
                              have p38 : 0 ≤ ((ji33) : Int) := of_decide_eq_true (by first | (with_reducible assumption) | assumption)
                              have q38 : (ji33) < (a0.size : Int) := of_decide_eq_true (by first | (with_reducible assumption) | assumption)
                              have hx38 := bt_at a0 (ji33)
                              replace p38 := eq_true p38
                              replace q38 := eq_true q38
                              go_wp2
                              go_ret
                              exact ⟨by first | rfl | (simp; done) | (simp only [← hji33] <;> (first | rfl | simp)) | (simp [*]; done), by repeat (first | exact Drawn0.refl _ | apply Drawn0.step)⟩
                            · rw [if_neg c39] at H
                              have c39b0 : decide (191 < (bt a0 (ji33))) = false := decide_eq_false c39
                              clear c39
                              have H' := Aside0.mk H
                              clear H
                              have p36 : 0 ≤ ((ji33) : Int) := of_decide_eq_true (by first | (with_reducible assumption) | assumption)
                              have q36 : (ji33) < (a0.size : Int) := of_decide_eq_true (by first | (with_reducible assumption) | assumption)
                              have hx36 := bt_at a0 (ji33)
                              replace p36 := eq_true p36
                              replace q36 := eq_true q36
                              have p38 : 0 ≤ ((ji33) : Int) := of_decide_eq_true (by first | (with_reducible assumption) | assumption)
                              have q38 : (ji33) < (a0.size : Int) := of_decide_eq_true (by first | (with_reducible assumption) | assumption)
                              have hx38 := bt_at a0 (ji33)
                              replace p38 := eq_true p38
                              replace q38 := eq_true q38
                              go_wp2
                              go_roundg k3
                              case measure => have := HJ5.out; have := HJ22.out; have := HK3.out; omega
                              case rel => exact ⟨(wrap64 (x9_3 + 1)), (by first | rfl | (simp; done) | (simp [*]; done)), H', ⟨by have := HJ5.out; have := HJ22.out; have := HK3.out; omega⟩, by repeat (first | exact Drawn0.refl _ | apply Drawn0.step)⟩
                        · rw [if_neg c35] at H
                          exact absurd H (by simp)
                      · rw [if_neg c34] at H
                        exact absurd H (by simp)
                    · rw [if_neg c32] at H
                      have c32b0 : decide (x9_3 < x6_5) = false := decide_eq_false c32
                      clear c32
                      obtain rfl := Option.some.inj H
                      go_wp2
                      go_ret
                      exact ⟨by first | rfl | (simp; done) | (simp [*]; done), by repeat (first | exact Drawn0.refl _ | apply Drawn0.step)⟩
    · rw [if_neg c4] at H
      exact absurd H (by simp)
  · rw [if_neg c3] at H
    exact absurd H (by simp)

end Go.Proofs.Ytdleegmdpgefmaa.PJ
