-- PRINTED by print.py (a twelfth state) out of the translation. Not trusted: Lean checks it.
import Derived.Test.YtamajbaojbghcaaDoorPOx0
namespace Go.Proofs.YtamajbaojbghcaaDoor.PO
open Go.RowKit Go.Proofs.YtamajbaojbghcaaDoorW.PrintWords Go.Proofs.YtamajbaojbghcaaDoorW.PrintLast Go.Proofs.YtamajbaojbghcaaDoorW.PrintMore
attribute [local go_sem] max2_int min2_int max_two min_two max_three min_three max_four min_four   -- for this text's walks alone
set_option linter.unusedVariables false
set_option linter.unusedSimpArgs false

/-! ### spec_OrList: function 7 -/
def spec_OrList.l0 : Nat → List ByteArray → ByteArray → List ByteArray → Int → Int → Option (ByteArray)
  | 0, _, _, _, _, _ => none
  | k + 1, x0, x3, x6, x7, x8 => if x8 < x7 then (if 0 ≤ x8 then (if x8 < (x6.length : Int) then (if x8 = 0 then (if x3.size + (rdOf ByteArray.empty x6 x8).size ≤ 9223372036854775807 then (spec_OrList.l0 k x0 (x3 ++ (rdOf ByteArray.empty x6 x8)) x6 x7 (wrap64 (x8 + 1))) else (none)) else (if (x0.length : Int) = 2 then (if x3.size + 4 ≤ 9223372036854775807 then (if (x3 ++ (⟨#[32, 111, 114, 32]⟩ : ByteArray)).size + (rdOf ByteArray.empty x6 x8).size ≤ 9223372036854775807 then (spec_OrList.l0 k x0 ((x3 ++ (⟨#[32, 111, 114, 32]⟩ : ByteArray)) ++ (rdOf ByteArray.empty x6 x8)) x6 x7 (wrap64 (x8 + 1))) else (none)) else (none)) else (if x8 = (wrap64 ((x0.length : Int) - 1)) then (if x3.size + 5 ≤ 9223372036854775807 then (if (x3 ++ (⟨#[44, 32, 111, 114, 32]⟩ : ByteArray)).size + (rdOf ByteArray.empty x6 x8).size ≤ 9223372036854775807 then (spec_OrList.l0 k x0 ((x3 ++ (⟨#[44, 32, 111, 114, 32]⟩ : ByteArray)) ++ (rdOf ByteArray.empty x6 x8)) x6 x7 (wrap64 (x8 + 1))) else (none)) else (none)) else (if x3.size + 2 ≤ 9223372036854775807 then (if (x3 ++ (⟨#[44, 32]⟩ : ByteArray)).size + (rdOf ByteArray.empty x6 x8).size ≤ 9223372036854775807 then (spec_OrList.l0 k x0 ((x3 ++ (⟨#[44, 32]⟩ : ByteArray)) ++ (rdOf ByteArray.empty x6 x8)) x6 x7 (wrap64 (x8 + 1))) else (none)) else (none))))) else (none)) else (none)) else (some x3)
def spec_OrList.f (k : Nat) (l0 : List ByteArray) : Option (ByteArray) := spec_OrList.l0 k l0 (⟨#[]⟩ : ByteArray) l0 (l0.length : Int) 0
theorem spec_OrList.mono_l : ∀ k, (∀ y0 y1 y2 y3 y4, LeO (spec_OrList.l0 k y0 y1 y2 y3 y4) (spec_OrList.l0 (k + 1) y0 y1 y2 y3 y4))
  | 0 => fun _ _ _ _ _ r h => by simp [spec_OrList.l0] at h
  | k + 1 => by
    have ih0 := spec_OrList.mono_l k
    · intro y0 y1 y2 y3 y4
      unfold spec_OrList.l0
      repeat' first
      | (with_reducible exact ih0 _ _ _ _ _)
      | (with_reducible exact LeO.refl _)
      | (with_reducible exact LeO.none _)
      | (with_reducible refine LeO.ite ?_ ?_)
      | (with_reducible refine LeO.bind ?_ (fun _ => ?_))
      | exact ih0 _ _ _ _ _
      | exact LeO.none _
      | refine LeO.ite ?_ ?_
      | refine LeO.bind ?_ (fun _ => ?_)
theorem spec_OrList.mono : ∀ a0 k, LeO (spec_OrList.f k a0) (spec_OrList.f (k + 1) a0) := by
  intro a0 k
  have ih0 := spec_OrList.mono_l k
  unfold spec_OrList.f
  repeat' first
      | (with_reducible exact ih0 _ _ _ _ _)
      | (with_reducible exact LeO.refl _)
      | (with_reducible exact LeO.none _)
      | (with_reducible refine LeO.ite ?_ ?_)
      | (with_reducible refine LeO.bind ?_ (fun _ => ?_))
      | exact ih0 _ _ _ _ _
      | exact LeO.none _
      | refine LeO.ite ?_ ?_
      | refine LeO.bind ?_ (fun _ => ?_)
set_option maxHeartbeats 8000000 in
set_option maxRecDepth 100000 in
theorem spec_OrList.calls (k : Nat) (A0 : Option Addr) (c0 : Nat) (l0 : List ByteArray) (r : ByteArray) (w : World) (hr0 : Kd.C Kd.string w A0 l0.length l0) (hc0 : l0.length ≤ c0) (h : spec_OrList.f k l0 = some r) :
    Calls Tryd.prog 7 #[.slice A0 l0.length c0] w fun e w' => e = .returned (.string r) ∧ Drawn0 w w' := by
  have HR0 := Aside0.mk hr0
  have HC0 := Aside0.mk hc0
  clear hr0 hc0
  have H : (spec_OrList.l0 k l0 (⟨#[]⟩ : ByteArray) l0 (l0.length : Int) 0) = some r := h
  clear h
  have H' := Aside0.mk H
  clear H
  go_enter Tryd.func7, Tryd.ntmps7
  go_wp2
  go_loopg [3, 8] k (fun kq v3 v8 w' => ∃ (x3_1 : ByteArray) (x8_1 : Int), v3 = .string x3_1 ∧ v8 = .int .i64 x8_1 ∧ Aside0 (spec_OrList.l0 kq l0 x3_1 l0 (l0.length : Int) x8_1 = some r) ∧ Aside0 (kq ≤ k) ∧ Drawn0 w w')
  case atStart => exact ⟨((⟨#[]⟩ : ByteArray)), (0), (by first | rfl | (simp; done) | (simp [*]; done)), (by first | rfl | (simp; done) | (simp [*]; done)), H', ⟨Nat.le_refl _⟩, by repeat (first | exact Drawn0.refl _ | apply Drawn0.step)⟩
  case round =>
    clear H'
    obtain ⟨x3_1, x8_1, rfl, rfl, HA, HK1, ⟨m1, rfl⟩⟩ := hrel
    cases gk with
    | zero => exact absurd HA.out (by simp [spec_OrList.l0])
    | succ k1 =>
      have H := HA.out
      clear HA
      simp only [spec_OrList.l0] at H
      by_cases c2 : x8_1 < (l0.length : Int)
      · rw [if_pos c2] at H
        have c2b0 : decide (x8_1 < (l0.length : Int)) = true := decide_eq_true c2
        clear c2
        by_cases c3 : 0 ≤ x8_1
        · rw [if_pos c3] at H
          have c3b0 : decide (0 ≤ x8_1) = true := decide_eq_true c3
          clear c3
          by_cases c4 : x8_1 < (l0.length : Int)
          · rw [if_pos c4] at H
            have c4b0 : decide (x8_1 < (l0.length : Int)) = true := decide_eq_true c4
            clear c4
            by_cases c5 : x8_1 = 0
            · rw [if_pos c5] at H
              have c5b0 : (x8_1 == 0) = true := beq_iff_eq.mpr c5
              have c5b1 : (x8_1 != 0) = false := bne_eq_false_iff_eq.mpr c5
              clear c5
              by_cases c6 : x3_1.size + (rdOf ByteArray.empty l0 x8_1).size ≤ 9223372036854775807
              · rw [if_pos c6] at H
                have c6b0 := eq_true c6
                have c6b1 : decide (x3_1.size + (rdOf ByteArray.empty l0 x8_1).size ≤ 9223372036854775807) = true := decide_eq_true c6
                try have c6b2 : (9223372036854775807 < x3_1.size + (rdOf ByteArray.empty l0 x8_1).size) = False := eq_false (Nat.not_lt.2 c6)
                have H' := Aside0.mk H
                clear H
                have p101 : 0 ≤ (x8_1 : Int) := of_decide_eq_true (by first | (with_reducible assumption) | assumption)
                have q101 : x8_1 < (l0.length : Int) := of_decide_eq_true (by first | (with_reducible assumption) | assumption)
                obtain ⟨ad101, e101, hx101_0⟩ := Kd.at_string HR0.out x8_1 p101 q101
                cases e101
                replace p101 := eq_true p101
                replace q101 := eq_true q101
                go_wp2
                go_roundg k1
                case measure => have := HK1.out; omega
                case rel => exact ⟨(x3_1 ++ (rdOf ByteArray.empty l0 x8_1)), (wrap64 (x8_1 + 1)), (by first | rfl | (simp; done) | (simp [*]; done)), (by first | rfl | (simp; done) | (simp [*]; done)), H', ⟨by have := HK1.out; omega⟩, by repeat (first | exact Drawn0.refl _ | apply Drawn0.step)⟩
              · rw [if_neg c6] at H
                exact absurd H (by simp)
            · rw [if_neg c5] at H
              have c5b0 : (x8_1 == 0) = false := beq_eq_false_iff_ne.mpr c5
              have c5b1 : (x8_1 != 0) = true := bne_iff_ne.mpr c5
              by_cases c7 : (l0.length : Int) = 2
              · rw [if_pos c7] at H
                have c7b0 : ((l0.length : Int) == 2) = true := beq_iff_eq.mpr c7
                have c7b1 : ((l0.length : Int) != 2) = false := bne_eq_false_iff_eq.mpr c7
                clear c7
                by_cases c8 : x3_1.size + 4 ≤ 9223372036854775807
                · rw [if_pos c8] at H
                  have c8b0 := eq_true c8
                  have c8b1 : decide (x3_1.size + 4 ≤ 9223372036854775807) = true := decide_eq_true c8
                  try have c8b2 : (9223372036854775807 < x3_1.size + 4) = False := eq_false (Nat.not_lt.2 c8)
                  by_cases c9 : (x3_1 ++ (⟨#[32, 111, 114, 32]⟩ : ByteArray)).size + (rdOf ByteArray.empty l0 x8_1).size ≤ 9223372036854775807
                  · rw [if_pos c9] at H
                    have c9b0 := eq_true c9
                    have c9b1 : decide ((x3_1 ++ (⟨#[32, 111, 114, 32]⟩ : ByteArray)).size + (rdOf ByteArray.empty l0 x8_1).size ≤ 9223372036854775807) = true := decide_eq_true c9
                    try have c9b2 : (9223372036854775807 < (x3_1 ++ (⟨#[32, 111, 114, 32]⟩ : ByteArray)).size + (rdOf ByteArray.empty l0 x8_1).size) = False := eq_false (Nat.not_lt.2 c9)
                    have H' := Aside0.mk H
                    clear H
                    have p101 : 0 ≤ (x8_1 : Int) := of_decide_eq_true (by first | (with_reducible assumption) | assumption)
                    have q101 : x8_1 < (l0.length : Int) := of_decide_eq_true (by first | (with_reducible assumption) | assumption)
                    obtain ⟨ad101, e101, hx101_0⟩ := Kd.at_string HR0.out x8_1 p101 q101
                    cases e101
                    replace p101 := eq_true p101
                    replace q101 := eq_true q101
                    go_wp2
                    go_roundg k1
                    case measure => have := HK1.out; omega
                    case rel => exact ⟨((x3_1 ++ (⟨#[32, 111, 114, 32]⟩ : ByteArray)) ++ (rdOf ByteArray.empty l0 x8_1)), (wrap64 (x8_1 + 1)), (by first | rfl | (simp; done) | (simp [*]; done)), (by first | rfl | (simp; done) | (simp [*]; done)), H', ⟨by have := HK1.out; omega⟩, by repeat (first | exact Drawn0.refl _ | apply Drawn0.step)⟩
                  · rw [if_neg c9] at H
                    exact absurd H (by simp)
                · rw [if_neg c8] at H
                  exact absurd H (by simp)
              · rw [if_neg c7] at H
                have c7b0 : ((l0.length : Int) == 2) = false := beq_eq_false_iff_ne.mpr c7
                have c7b1 : ((l0.length : Int) != 2) = true := bne_iff_ne.mpr c7
                by_cases c10 : x8_1 = (wrap64 ((l0.length : Int) - 1))
                · rw [if_pos c10] at H
                  have c10b0 : (x8_1 == (wrap64 ((l0.length : Int) - 1))) = true := beq_iff_eq.mpr c10
                  have c10b1 : (x8_1 != (wrap64 ((l0.length : Int) - 1))) = false := bne_eq_false_iff_eq.mpr c10
                  clear c10
                  by_cases c11 : x3_1.size + 5 ≤ 9223372036854775807
                  · rw [if_pos c11] at H
                    have c11b0 := eq_true c11
                    have c11b1 : decide (x3_1.size + 5 ≤ 9223372036854775807) = true := decide_eq_true c11
                    try have c11b2 : (9223372036854775807 < x3_1.size + 5) = False := eq_false (Nat.not_lt.2 c11)
                    by_cases c12 : (x3_1 ++ (⟨#[44, 32, 111, 114, 32]⟩ : ByteArray)).size + (rdOf ByteArray.empty l0 x8_1).size ≤ 9223372036854775807
                    · rw [if_pos c12] at H
                      have c12b0 := eq_true c12
                      have c12b1 : decide ((x3_1 ++ (⟨#[44, 32, 111, 114, 32]⟩ : ByteArray)).size + (rdOf ByteArray.empty l0 x8_1).size ≤ 9223372036854775807) = true := decide_eq_true c12
                      try have c12b2 : (9223372036854775807 < (x3_1 ++ (⟨#[44, 32, 111, 114, 32]⟩ : ByteArray)).size + (rdOf ByteArray.empty l0 x8_1).size) = False := eq_false (Nat.not_lt.2 c12)
                      have H' := Aside0.mk H
                      clear H
                      have p101 : 0 ≤ (x8_1 : Int) := of_decide_eq_true (by first | (with_reducible assumption) | assumption)
                      have q101 : x8_1 < (l0.length : Int) := of_decide_eq_true (by first | (with_reducible assumption) | assumption)
                      obtain ⟨ad101, e101, hx101_0⟩ := Kd.at_string HR0.out x8_1 p101 q101
                      cases e101
                      replace p101 := eq_true p101
                      replace q101 := eq_true q101
                      go_wp2
                      go_roundg k1
                      case measure => have := HK1.out; omega
                      case rel => exact ⟨((x3_1 ++ (⟨#[44, 32, 111, 114, 32]⟩ : ByteArray)) ++ (rdOf ByteArray.empty l0 x8_1)), (wrap64 (x8_1 + 1)), (by first | rfl | (simp; done) | (simp [*]; done)), (by first | rfl | (simp; done) | (simp [*]; done)), H', ⟨by have := HK1.out; omega⟩, by repeat (first | exact Drawn0.refl _ | apply Drawn0.step)⟩
                    · rw [if_neg c12] at H
                      exact absurd H (by simp)
                  · rw [if_neg c11] at H
                    exact absurd H (by simp)
                · rw [if_neg c10] at H
                  have c10b0 : (x8_1 == (wrap64 ((l0.length : Int) - 1))) = false := beq_eq_false_iff_ne.mpr c10
                  have c10b1 : (x8_1 != (wrap64 ((l0.length : Int) - 1))) = true := bne_iff_ne.mpr c10
                  by_cases c13 : x3_1.size + 2 ≤ 9223372036854775807
                  · rw [if_pos c13] at H
                    have c13b0 := eq_true c13
                    have c13b1 : decide (x3_1.size + 2 ≤ 9223372036854775807) = true := decide_eq_true c13
                    try have c13b2 : (9223372036854775807 < x3_1.size + 2) = False := eq_false (Nat.not_lt.2 c13)
                    by_cases c14 : (x3_1 ++ (⟨#[44, 32]⟩ : ByteArray)).size + (rdOf ByteArray.empty l0 x8_1).size ≤ 9223372036854775807
                    · rw [if_pos c14] at H
                      have c14b0 := eq_true c14
                      have c14b1 : decide ((x3_1 ++ (⟨#[44, 32]⟩ : ByteArray)).size + (rdOf ByteArray.empty l0 x8_1).size ≤ 9223372036854775807) = true := decide_eq_true c14
                      try have c14b2 : (9223372036854775807 < (x3_1 ++ (⟨#[44, 32]⟩ : ByteArray)).size + (rdOf ByteArray.empty l0 x8_1).size) = False := eq_false (Nat.not_lt.2 c14)
                      have H' := Aside0.mk H
                      clear H
                      have p101 : 0 ≤ (x8_1 : Int) := of_decide_eq_true (by first | (with_reducible assumption) | assumption)
                      have q101 : x8_1 < (l0.length : Int) := of_decide_eq_true (by first | (with_reducible assumption) | assumption)
                      obtain ⟨ad101, e101, hx101_0⟩ := Kd.at_string HR0.out x8_1 p101 q101
                      cases e101
                      replace p101 := eq_true p101
                      replace q101 := eq_true q101
                      go_wp2
                      go_roundg k1
                      case measure => have := HK1.out; omega
                      case rel => exact ⟨((x3_1 ++ (⟨#[44, 32]⟩ : ByteArray)) ++ (rdOf ByteArray.empty l0 x8_1)), (wrap64 (x8_1 + 1)), (by first | rfl | (simp; done) | (simp [*]; done)), (by first | rfl | (simp; done) | (simp [*]; done)), H', ⟨by have := HK1.out; omega⟩, by repeat (first | exact Drawn0.refl _ | apply Drawn0.step)⟩
                    · rw [if_neg c14] at H
                      exact absurd H (by simp)
                  · rw [if_neg c13] at H
                    exact absurd H (by simp)
          · rw [if_neg c4] at H
            exact absurd H (by simp)
        · rw [if_neg c3] at H
          exact absurd H (by simp)
      · rw [if_neg c2] at H
        have c2b0 : decide (x8_1 < (l0.length : Int)) = false := decide_eq_false c2
        clear c2
        obtain rfl := Option.some.inj H
        go_wp2
        go_ret
        exact ⟨by first | rfl | (simp; done) | (simp [*]; done), by repeat (first | exact Drawn0.refl _ | apply Drawn0.step)⟩

/-! ### spec_QuotedOrList: function 9 -/
def spec_QuotedOrList.l0 : Nat → List ByteArray → List ByteArray → Int → Int → Option (ByteArray)
  | 0, _, _, _, _ => none
  | k + 1, x3, x6, x7, x8 => if x8 < x7 then (if 0 ≤ x8 then (if x8 < (x6.length : Int) then (if 1 + (rdOf ByteArray.empty x6 x8).size ≤ 9223372036854775807 then (if ((⟨#[34]⟩ : ByteArray) ++ (rdOf ByteArray.empty x6 x8)).size + 1 ≤ 9223372036854775807 then (if x3.length < 8796093022208 then (spec_QuotedOrList.l0 k (x3 ++ [((⟨#[34]⟩ : ByteArray) ++ (rdOf ByteArray.empty x6 x8)) ++ (⟨#[34]⟩ : ByteArray)]) x6 x7 (wrap64 (x8 + 1))) else (none)) else (none)) else (none)) else (none)) else (none)) else ((spec_OrList.f k x3).bind fun t106 => (some t106))
def spec_QuotedOrList.f (k : Nat) (l0 : List ByteArray) : Option (ByteArray) := spec_QuotedOrList.l0 k ([] : List ByteArray) l0 (l0.length : Int) 0
theorem spec_QuotedOrList.mono_l : ∀ k, (∀ y0 y1 y2 y3, LeO (spec_QuotedOrList.l0 k y0 y1 y2 y3) (spec_QuotedOrList.l0 (k + 1) y0 y1 y2 y3))
  | 0 => fun _ _ _ _ r h => by simp [spec_QuotedOrList.l0] at h
  | k + 1 => by
    have ih0 := spec_QuotedOrList.mono_l k
    · intro y0 y1 y2 y3
      unfold spec_QuotedOrList.l0
      repeat' first
      | (with_reducible exact ih0 _ _ _ _)
      | (with_reducible exact spec_OrList.mono _ _)
      | (with_reducible exact LeO.refl _)
      | (with_reducible exact LeO.none _)
      | (with_reducible refine LeO.ite ?_ ?_)
      | (with_reducible refine LeO.bind ?_ (fun _ => ?_))
      | exact ih0 _ _ _ _
      | exact spec_OrList.mono _ _
      | exact LeO.none _
      | refine LeO.ite ?_ ?_
      | refine LeO.bind ?_ (fun _ => ?_)
theorem spec_QuotedOrList.mono : ∀ a0 k, LeO (spec_QuotedOrList.f k a0) (spec_QuotedOrList.f (k + 1) a0) := by
  intro a0 k
  have ih0 := spec_QuotedOrList.mono_l k
  unfold spec_QuotedOrList.f
  repeat' first
      | (with_reducible exact ih0 _ _ _ _)
      | (with_reducible exact spec_OrList.mono _ _)
      | (with_reducible exact LeO.refl _)
      | (with_reducible exact LeO.none _)
      | (with_reducible refine LeO.ite ?_ ?_)
      | (with_reducible refine LeO.bind ?_ (fun _ => ?_))
      | exact ih0 _ _ _ _
      | exact spec_OrList.mono _ _
      | exact LeO.none _
      | refine LeO.ite ?_ ?_
      | refine LeO.bind ?_ (fun _ => ?_)
set_option maxHeartbeats 8000000 in
set_option maxRecDepth 100000 in
theorem spec_QuotedOrList.calls (k : Nat) (A0 : Option Addr) (c0 : Nat) (l0 : List ByteArray) (r : ByteArray) (w : World) (hr0 : Kd.C Kd.string w A0 l0.length l0) (hc0 : l0.length ≤ c0) (h : spec_QuotedOrList.f k l0 = some r) :
    Calls Tryd.prog 9 #[.slice A0 l0.length c0] w fun e w' => e = .returned (.string r) ∧ Below w.heap.size w w' := by
  have HR0 := Aside0.mk hr0
  have HC0 := Aside0.mk hc0
  clear hr0 hc0
  have HB := Aside0.mk (Below.refl w.heap.size w)
  have H : (spec_QuotedOrList.l0 k ([] : List ByteArray) l0 (l0.length : Int) 0) = some r := h
  clear h
  have H' := Aside0.mk H
  clear H
  go_enter Tryd.func9, Tryd.ntmps9
  go_wp2
  go_loopg [3, 8] k (fun kq v3 v8 w' => ∃ (x3_1 : List ByteArray) (x8_1 : Int), v8 = .int .i64 x8_1 ∧ Aside0 (spec_QuotedOrList.l0 kq x3_1 l0 (l0.length : Int) x8_1 = some r) ∧ Aside0 (kq ≤ k) ∧ Aside0 (Kd.R Kd.string 9 w' w.heap.size (fun _ => True) v3 x3_1) ∧ Aside0 (Below w.heap.size w w'))
  case atStart => exact ⟨(([] : List ByteArray)), (0), (by first | rfl | (simp; done) | (simp [*]; done)), H', ⟨Nat.le_refl _⟩, ⟨by first | exact Kd.R_nil _ _ _ _ _ | exact Kd.N_nil _ _ _ _ _ | exact Kd.V_nil _ _ _ _ _ | exact Kd.Q_nil _ _ _ _ _ | exact Kd.S_nil _ _ _ _ _⟩, ⟨by repeat (first | (with_reducible first | exact HB.out | apply below_alloc | apply pw_below_drewN | apply below_drew1) | exact HB.out)⟩⟩
  case round =>
    clear H'
    obtain ⟨x3_1, x8_1, rfl, HA, HK1, HO_3, HB⟩ := hrel
    cases gk with
    | zero => exact absurd HA.out (by simp [spec_QuotedOrList.l0])
    | succ k1 =>
      have H := HA.out
      clear HA
      simp only [spec_QuotedOrList.l0] at H
      by_cases c2 : x8_1 < (l0.length : Int)
      · rw [if_pos c2] at H
        have c2b0 : decide (x8_1 < (l0.length : Int)) = true := decide_eq_true c2
        clear c2
        by_cases c3 : 0 ≤ x8_1
        · rw [if_pos c3] at H
          have c3b0 : decide (0 ≤ x8_1) = true := decide_eq_true c3
          clear c3
          by_cases c4 : x8_1 < (l0.length : Int)
          · rw [if_pos c4] at H
            have c4b0 : decide (x8_1 < (l0.length : Int)) = true := decide_eq_true c4
            clear c4
            by_cases c5 : 1 + (rdOf ByteArray.empty l0 x8_1).size ≤ 9223372036854775807
            · rw [if_pos c5] at H
              have c5b0 := eq_true c5
              have c5b1 : decide (1 + (rdOf ByteArray.empty l0 x8_1).size ≤ 9223372036854775807) = true := decide_eq_true c5
              try have c5b2 : (9223372036854775807 < 1 + (rdOf ByteArray.empty l0 x8_1).size) = False := eq_false (Nat.not_lt.2 c5)
              by_cases c6 : ((⟨#[34]⟩ : ByteArray) ++ (rdOf ByteArray.empty l0 x8_1)).size + 1 ≤ 9223372036854775807
              · rw [if_pos c6] at H
                have c6b0 := eq_true c6
                have c6b1 : decide (((⟨#[34]⟩ : ByteArray) ++ (rdOf ByteArray.empty l0 x8_1)).size + 1 ≤ 9223372036854775807) = true := decide_eq_true c6
                try have c6b2 : (9223372036854775807 < ((⟨#[34]⟩ : ByteArray) ++ (rdOf ByteArray.empty l0 x8_1)).size + 1) = False := eq_false (Nat.not_lt.2 c6)
                have c6b3 : (9223372036854775807 < 1 + (rdOf ByteArray.empty l0 x8_1).size + 1) = False := eq_false (by have h := c6; (repeat rw [ByteArray.size_append] at h); have h2 : 1 + (rdOf ByteArray.empty l0 x8_1).size + 1 ≤ 9223372036854775807 := h; omega)
                by_cases c7 : x3_1.length < 8796093022208
                · rw [if_pos c7] at H
                  have LMc7 := Aside0.mk c7
                  clear c7
                  obtain ⟨y103, hy103⟩ : ∃ y_ : List ByteArray, y_ = (x3_1 ++ [((⟨#[34]⟩ : ByteArray) ++ (rdOf ByteArray.empty l0 x8_1)) ++ (⟨#[34]⟩ : ByteArray)]) := ⟨_, rfl⟩
                  replace H : (spec_QuotedOrList.l0 k1 y103 l0 (l0.length : Int) (wrap64 (x8_1 + 1))) = some r := by first | (rw [hy103]; with_reducible exact H) | (have H2_ := (Option.bind_some _ _).symm.trans H; rw [hy103]; with_reducible exact H2_) | (have H2_ := (Option.bind_some _ _).symm.trans H; with_reducible exact H2_) | with_reducible exact H | (rw [hy103]; exact H) | exact H
                  have Ny103 := Aside0.mk hy103
                  clear hy103
                  have H' := Aside0.mk H
                  clear H
                  have p102 : 0 ≤ (x8_1 : Int) := of_decide_eq_true (by first | (with_reducible assumption) | assumption)
                  have q102 : x8_1 < (l0.length : Int) := of_decide_eq_true (by first | (with_reducible assumption) | assumption)
                  obtain ⟨ad102, e102, hx102_0⟩ := Kd.at_string HR0.out x8_1 p102 q102
                  cases e102
                  replace hx102_0 := (HB.out.cell (World.block_lt_of_cell? w _ hx102_0)).trans hx102_0
                  replace p102 := eq_true p102
                  replace q102 := eq_true q102
                  go_wp2_with (first | ((with_reducible refine gate_builtin (b := .append) (xs := #[.tmp 12, .tmp 16]) rfl ?_); at_builtin; refine Kd.R_append Kd.string (w0 := w) w.heap.size rfl (.tmp 12) (.tmp 16) 22 9 (.string ⟨#[]⟩) 16 rfl Tryd.underlying22 info9 rfl (by decide) (by omega) u3 x3_1 (((⟨#[34]⟩ : ByteArray) ++ (rdOf ByteArray.empty l0 x8_1)) ++ (⟨#[34]⟩ : ByteArray)) [.string (((⟨#[34]⟩ : ByteArray) ++ (rdOf ByteArray.empty l0 x8_1)) ++ (⟨#[34]⟩ : ByteArray))] (fun _ => True) (fun _ => False) rfl rfl ?aP (fun _ hk => hk.elim) ?aF ?aO ?aB ?aS ?aL ?_; (case aP => exact rfl); (case aB => exact (by repeat (first | (with_reducible first | exact HB.out | apply below_alloc | apply pw_below_drewN | apply below_drew1) | exact HB.out))); (case aF => exact (fun _ _ => trivial)); (case aO => exact (by (with_reducible repeat (first | apply Kd.R_alloc | apply Kd.R_drewN | apply Kd.R_drew)); exact HO_3.out)); (case aS => exact (below_size (by repeat (first | (with_reducible first | exact HB.out | apply below_alloc | apply pw_below_drewN | apply below_drew1) | exact HB.out)))); (case aL => have := LMc7.out; omega); intro v104 w8 ho hb hg hat; rw [← Ny103.out] at ho; have n0_ := Aside0.mk (hb); have n1_ := Aside0.mk (ho); clear HB; clear HO_3; have HB := n0_; have HO105 := n1_; clear n0_ n1_; clear ho hb hg hat))
                  go_roundg k1
                  case measure => have := HK1.out; omega
                  case rel => exact ⟨(y103), (wrap64 (x8_1 + 1)), (by first | rfl | (simp; done) | (simp [*]; done)), H', ⟨by have := HK1.out; omega⟩, ⟨by (with_reducible repeat (first | apply Kd.R_alloc | apply Kd.R_drewN | apply Kd.R_drew)); exact HO105.out⟩, ⟨by repeat (first | (with_reducible first | exact HB.out | apply below_alloc | apply pw_below_drewN | apply below_drew1) | exact HB.out)⟩⟩
                · rw [if_neg c7] at H
                  exact absurd H (by simp)
              · rw [if_neg c6] at H
                exact absurd H (by simp)
            · rw [if_neg c5] at H
              exact absurd H (by simp)
          · rw [if_neg c4] at H
            exact absurd H (by simp)
        · rw [if_neg c3] at H
          exact absurd H (by simp)
      · rw [if_neg c2] at H
        have c2b0 : decide (x8_1 < (l0.length : Int)) = false := decide_eq_false c2
        clear c2
        replace H := Option.bind_eq_some_iff.mp H
        obtain ⟨t106, A90, H⟩ := H
        replace H : (some t106) = some r := H
        have A9 := Aside0.mk A90
        clear A90
        obtain rfl := Option.some.inj H
        obtain ⟨Ao10, co10, eo10⟩ := Kd.R_slice HO_3.out
        subst eo10
        go_wp2_with (first | ((with_reducible refine gate_callee (f := 7) rfl ?_); refine goesL_ (some 20) rfl rfl Tryd.func7 (by kernel_rfl) rfl #[.slice Ao10 x3_1.length co10] rfl (by (try simp only [List.map_toArray, List.map_cons, List.map_nil]); first | done | rfl | (simp only [List.length_drop, List.length_take]; rfl)) ?_; (with_reducible refine (spec_OrList.calls k1 _ _ x3_1 t106 _ ?side1 ?side2 A9.out).mono ?_); (case side1 => repeat (first | exact (Kd.R_reads' HO_3.out).2.2 | (with_reducible refine Kd.C_alloc ?_ _) | (with_reducible refine Kd.C_drewN ?_ _) | (with_reducible refine Kd.C_drew ?_))); (case side2 => exact (Kd.R_reads' HO_3.out).2.1); rintro e w' ⟨rfl, ⟨nd, rfl⟩⟩; refine ⟨_, rfl, ?_⟩))
        go_ret
        exact ⟨by first | rfl | (simp [errW_none, errW_some] <;> rfl) | (simp [*, errW_none, errW_some] <;> rfl), by repeat (first | (with_reducible first | exact HB.out | apply below_alloc | apply pw_below_drewN | apply below_drew1) | exact HB.out)⟩

/-! ### laws_zzFits4: function 5 -/
def laws_zzFits4.l0 : Nat → List ByteArray → Int → Int → Option (Bool)
  | 0, _, _, _ => none
  | k + 1, x8, x9, x10 => if x10 < x9 then (if 0 ≤ x10 then (if x10 < (x8.length : Int) then (if ((rdOf ByteArray.empty x8 x10).size : Int) > 2147483647 then (some false) else (laws_zzFits4.l0 k x8 x9 (wrap64 (x10 + 1)))) else (none)) else (none)) else (some true)
def laws_zzFits4.f (k : Nat) (l0 : List ByteArray) : Option (Bool) := if (l0.length : Int) > 2147483647 then (some false) else (laws_zzFits4.l0 k l0 (l0.length : Int) 0)
theorem laws_zzFits4.mono_l : ∀ k, (∀ y0 y1 y2, LeO (laws_zzFits4.l0 k y0 y1 y2) (laws_zzFits4.l0 (k + 1) y0 y1 y2))
  | 0 => fun _ _ _ r h => by simp [laws_zzFits4.l0] at h
  | k + 1 => by
    have ih0 := laws_zzFits4.mono_l k
    · intro y0 y1 y2
      unfold laws_zzFits4.l0
      repeat' first
      | (with_reducible exact ih0 _ _ _)
      | (with_reducible exact LeO.refl _)
      | (with_reducible exact LeO.none _)
      | (with_reducible refine LeO.ite ?_ ?_)
      | (with_reducible refine LeO.bind ?_ (fun _ => ?_))
      | exact ih0 _ _ _
      | exact LeO.none _
      | refine LeO.ite ?_ ?_
      | refine LeO.bind ?_ (fun _ => ?_)
theorem laws_zzFits4.mono : ∀ a0 k, LeO (laws_zzFits4.f k a0) (laws_zzFits4.f (k + 1) a0) := by
  intro a0 k
  have ih0 := laws_zzFits4.mono_l k
  unfold laws_zzFits4.f
  repeat' first
      | (with_reducible exact ih0 _ _ _)
      | (with_reducible exact LeO.refl _)
      | (with_reducible exact LeO.none _)
      | (with_reducible refine LeO.ite ?_ ?_)
      | (with_reducible refine LeO.bind ?_ (fun _ => ?_))
      | exact ih0 _ _ _
      | exact LeO.none _
      | refine LeO.ite ?_ ?_
      | refine LeO.bind ?_ (fun _ => ?_)
set_option maxHeartbeats 8000000 in
set_option maxRecDepth 100000 in
theorem laws_zzFits4.calls (k : Nat) (A0 : Option Addr) (c0 : Nat) (l0 : List ByteArray) (r : Bool) (w : World) (hr0 : Kd.C Kd.string w A0 l0.length l0) (hc0 : l0.length ≤ c0) (h : laws_zzFits4.f k l0 = some r) :
    Calls Tryd.prog 5 #[.slice A0 l0.length c0] w fun e w' => e = .returned (.bool r) ∧ Drawn0 w w' := by
  have HR0 := Aside0.mk hr0
  have HC0 := Aside0.mk hc0
  clear hr0 hc0
  have H : (if (l0.length : Int) > 2147483647 then (some false) else (laws_zzFits4.l0 k l0 (l0.length : Int) 0)) = some r := h
  clear h
  by_cases c2 : (l0.length : Int) > 2147483647
  · rw [if_pos c2] at H
    have c2b0 : decide (2147483647 < (l0.length : Int)) = true := decide_eq_true c2
    have c2b1 : decide (2147483647 < l0.length) = true := decide_eq_true (by omega)
    clear c2
    obtain rfl := Option.some.inj H
    go_enter Tryd.func5, Tryd.ntmps5
    go_wp2
    go_ret
    exact ⟨by first | rfl | (simp; done) | (simp [*]; done), by repeat (first | exact Drawn0.refl _ | apply Drawn0.step)⟩
  · rw [if_neg c2] at H
    have c2b0 : decide (2147483647 < (l0.length : Int)) = false := decide_eq_false c2
    have c2b1 : decide (2147483647 < l0.length) = false := decide_eq_false (by omega)
    clear c2
    have H' := Aside0.mk H
    clear H
    go_enter Tryd.func5, Tryd.ntmps5
    go_wp2
    go_loopg [10] k (fun kq v10 w' => ∃ (x10_1 : Int), v10 = .int .i64 x10_1 ∧ Aside0 (laws_zzFits4.l0 kq l0 (l0.length : Int) x10_1 = some r) ∧ Aside0 (kq ≤ k) ∧ Drawn0 w w')
    case atStart => exact ⟨(0), (by first | rfl | (simp; done) | (simp [*]; done)), H', ⟨Nat.le_refl _⟩, by repeat (first | exact Drawn0.refl _ | apply Drawn0.step)⟩
    case round =>
      clear H'
      try clear c2
      try clear c2b0
      try clear c2b1
      try clear p2
      obtain ⟨x10_1, rfl, HA, HK1, ⟨m1, rfl⟩⟩ := hrel
      cases gk with
      | zero => exact absurd HA.out (by simp [laws_zzFits4.l0])
      | succ k1 =>
        have H := HA.out
        clear HA
        simp only [laws_zzFits4.l0] at H
        by_cases c3 : x10_1 < (l0.length : Int)
        · rw [if_pos c3] at H
          have c3b0 : decide (x10_1 < (l0.length : Int)) = true := decide_eq_true c3
          clear c3
          by_cases c4 : 0 ≤ x10_1
          · rw [if_pos c4] at H
            have c4b0 : decide (0 ≤ x10_1) = true := decide_eq_true c4
            clear c4
            by_cases c5 : x10_1 < (l0.length : Int)
            · rw [if_pos c5] at H
              have c5b0 : decide (x10_1 < (l0.length : Int)) = true := decide_eq_true c5
              clear c5
              by_cases c6 : ((rdOf ByteArray.empty l0 x10_1).size : Int) > 2147483647
              · rw [if_pos c6] at H
                have c6b0 : decide (2147483647 < ((rdOf ByteArray.empty l0 x10_1).size : Int)) = true := decide_eq_true c6
                have c6b1 : decide (2147483647 < (rdOf ByteArray.empty l0 x10_1).size) = true := decide_eq_true (by omega)
                clear c6
                obtain rfl := Option.some.inj H
                have p107 : 0 ≤ (x10_1 : Int) := of_decide_eq_true (by first | (with_reducible assumption) | assumption)
                have q107 : x10_1 < (l0.length : Int) := of_decide_eq_true (by first | (with_reducible assumption) | assumption)
                obtain ⟨ad107, e107, hx107_0⟩ := Kd.at_string HR0.out x10_1 p107 q107
                cases e107
                replace p107 := eq_true p107
                replace q107 := eq_true q107
                go_wp2
                go_ret
                exact ⟨by first | rfl | (simp; done) | (simp [*]; done), by repeat (first | exact Drawn0.refl _ | apply Drawn0.step)⟩
              · rw [if_neg c6] at H
                have c6b0 : decide (2147483647 < ((rdOf ByteArray.empty l0 x10_1).size : Int)) = false := decide_eq_false c6
                have c6b1 : decide (2147483647 < (rdOf ByteArray.empty l0 x10_1).size) = false := decide_eq_false (by omega)
                clear c6
                have H' := Aside0.mk H
                clear H
                have p107 : 0 ≤ (x10_1 : Int) := of_decide_eq_true (by first | (with_reducible assumption) | assumption)
                have q107 : x10_1 < (l0.length : Int) := of_decide_eq_true (by first | (with_reducible assumption) | assumption)
                obtain ⟨ad107, e107, hx107_0⟩ := Kd.at_string HR0.out x10_1 p107 q107
                cases e107
                replace p107 := eq_true p107
                replace q107 := eq_true q107
                go_wp2
                go_roundg k1
                case measure => have := HK1.out; omega
                case rel => exact ⟨(wrap64 (x10_1 + 1)), (by first | rfl | (simp; done) | (simp [*]; done)), H', ⟨by have := HK1.out; omega⟩, by repeat (first | exact Drawn0.refl _ | apply Drawn0.step)⟩
            · rw [if_neg c5] at H
              exact absurd H (by simp)
          · rw [if_neg c4] at H
            exact absurd H (by simp)
        · rw [if_neg c3] at H
          have c3b0 : decide (x10_1 < (l0.length : Int)) = false := decide_eq_false c3
          clear c3
          obtain rfl := Option.some.inj H
          go_wp2
          go_ret
          exact ⟨by first | rfl | (simp; done) | (simp [*]; done), by repeat (first | exact Drawn0.refl _ | apply Drawn0.step)⟩

end Go.Proofs.YtamajbaojbghcaaDoor.PO
