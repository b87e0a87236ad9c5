-- PRINTED by print.py (a twelfth state) out of the translation. Not trusted: Lean checks it.
import Derived.Test.YtdleegmdpgefmaaPJx0
namespace Go.Proofs.Ytdleegmdpgefmaa.PJ
open Go.RowKit Go.Proofs.YtdleegmdpgefmaaW.PrintWords Go.Proofs.YtdleegmdpgefmaaW.PrintLast Go.Proofs.YtdleegmdpgefmaaW.PrintMore
attribute [local go_sem] max2_int min2_int max_two min_two max_three min_three max_four min_four   -- for this text's walks alone
set_option linter.unusedVariables false
set_option linter.unusedSimpArgs false

/-! ### spec_JMember: function 23 -/
def spec_JMember.l0 : Nat → ByteArray → Int → Int → Bool → Int → ByteArray → List ByteArray → List (S25) → Option (Int)
  | 0, _, _, _, _, _, _, _, _ => none
  | k + 1, x1, x5, x109000, x109001, x109002, x109003, x109004, x109005 => if x5 ≥ 0 then (if 0 ≤ x5 then (if x5 < (x109004.length : Int) then (if (rdOf ByteArray.empty x109004 x5).toList = x1.toList then (some x5) else (spec_JMember.l0 k x1 (wrap64 (x5 - 1)) x109000 x109001 x109002 x109003 x109004 x109005)) else (none)) else (none)) else (some (-1))
def spec_JMember.f (k : Nat) (a0_0 : Int) (a0_1 : Bool) (a0_2 : Int) (a0_3 : ByteArray) (l0_4 : List ByteArray) (l0_5 : List (S25)) (a1 : ByteArray) : Option (Int) := spec_JMember.l0 k a1 (wrap64 ((l0_4.length : Int) - 1)) a0_0 a0_1 a0_2 a0_3 l0_4 l0_5
theorem spec_JMember.mono_l : ∀ k, (∀ y0 y1 y2 y3 y4 y5 y6 y7, LeO (spec_JMember.l0 k y0 y1 y2 y3 y4 y5 y6 y7) (spec_JMember.l0 (k + 1) y0 y1 y2 y3 y4 y5 y6 y7))
  | 0 => fun _ _ _ _ _ _ _ _ r h => by simp [spec_JMember.l0] at h
  | k + 1 => by
    have ih0 := spec_JMember.mono_l k
    · intro y0 y1 y2 y3 y4 y5 y6 y7
      unfold spec_JMember.l0
      repeat' first
      | (with_reducible exact ih0 _ _ _ _ _ _ _ _)
      | (with_reducible exact LeO.refl _)
      | (with_reducible exact LeO.none _)
      | (with_reducible refine LeO.ite ?_ ?_)
      | (with_reducible refine LeO.bind ?_ (fun _ => ?_))
      | exact ih0 _ _ _ _ _ _ _ _
      | exact LeO.none _
      | refine LeO.ite ?_ ?_
      | refine LeO.bind ?_ (fun _ => ?_)
theorem spec_JMember.mono : ∀ a0 a1 a2 a3 a4 a5 a6 k, LeO (spec_JMember.f k a0 a1 a2 a3 a4 a5 a6) (spec_JMember.f (k + 1) a0 a1 a2 a3 a4 a5 a6) := by
  intro a0 a1 a2 a3 a4 a5 a6 k
  have ih0 := spec_JMember.mono_l k
  unfold spec_JMember.f
  repeat' first
      | (with_reducible exact ih0 _ _ _ _ _ _ _ _)
      | (with_reducible exact LeO.refl _)
      | (with_reducible exact LeO.none _)
      | (with_reducible refine LeO.ite ?_ ?_)
      | (with_reducible refine LeO.bind ?_ (fun _ => ?_))
      | exact ih0 _ _ _ _ _ _ _ _
      | exact LeO.none _
      | refine LeO.ite ?_ ?_
      | refine LeO.bind ?_ (fun _ => ?_)
set_option maxHeartbeats 8000000 in
set_option maxRecDepth 100000 in
theorem spec_JMember.calls (k : Nat) (a0_0 : Int) (a0_1 : Bool) (a0_2 : Int) (a0_3 : ByteArray) (A0_4 : Option Addr) (c0_4 : Nat) (l0_4 : List ByteArray) (A0_5 : Option Addr) (c0_5 : Nat) (l0_5 : List (S25)) (a1 : ByteArray) (r : Int) (w : World) (hr0_4 : Kd.C Kd.string w A0_4 l0_4.length l0_4) (hc0_4 : l0_4.length ≤ c0_4) (hr0_5 : Kd.C k25 w A0_5 l0_5.length l0_5) (hc0_5 : l0_5.length ≤ c0_5) (h : spec_JMember.f k a0_0 a0_1 a0_2 a0_3 l0_4 l0_5 a1 = some r) :
    Calls Try.prog 23 #[.agg #[.int .i64 a0_0, .bool a0_1, .int .i64 a0_2, .string a0_3, .slice A0_4 l0_4.length c0_4, .slice A0_5 l0_5.length c0_5], .string a1] w fun e w' => e = .returned (.int .i64 r) ∧ Below w.heap.size w w' := by
  have hu25 := Try.underlying25
  have HR0_4 := Aside0.mk hr0_4
  have HC0_4 := Aside0.mk hc0_4
  clear hr0_4 hc0_4
  have HR0_5 := Aside0.mk hr0_5
  have HC0_5 := Aside0.mk hc0_5
  clear hr0_5 hc0_5
  have HB := Aside0.mk (Below.refl w.heap.size w)
  have H : (spec_JMember.l0 k a1 (wrap64 ((l0_4.length : Int) - 1)) a0_0 a0_1 a0_2 a0_3 l0_4 l0_5) = some r := h
  clear h
  have H' := Aside0.mk H
  clear H
  go_enter Try.func23, Try.ntmps23
  go_wp2_with (first | ((with_reducible refine gate_dst (N := 2) rfl ?_); refine box_event ?hg (N := 2) ?hd (cs := #[.int .i64 a0_0, .bool a0_1, .int .i64 a0_2, .string a0_3, .slice A0_4 l0_4.length c0_4, .slice A0_5 l0_5.length c0_5]) (t := 25) ?hr ?_; (case hd => rfl); (case hg => rfl); (case hr => first | (go_simp; done) | (go_simp; rfl)); intro gb108 hg w3 hbox hb; have n0_ := Aside0.mk (below_step (by repeat (first | (with_reducible first | exact HB.out | apply below_alloc | apply pw_below_drewN | apply below_drew1) | exact HB.out)) hb); have n1_ := Aside0.mk (hbox); have n2_ := Aside0.mk ((by rw [hg]; exact (below_size (by repeat (first | (with_reducible first | exact HB.out | apply below_alloc | apply pw_below_drewN | apply below_drew1) | exact HB.out))) : w.heap.size ≤ gb108)); have n3_ := Aside0.mk ((by rw [hg]; exact (below_size (by repeat (first | (with_reducible first | exact HB.out | apply below_alloc | apply pw_below_drewN | apply below_drew1) | exact HB.out))) : w.heap.size ≤ gb108)); clear HB; have HB := n0_; have BK108 := n1_; have GW108 := n2_; have GE108 := n3_; clear n0_ n1_ n2_ n3_; clear hb hbox hg; have hcz4_0 : w3.cell? ⟨gb108, 0, none⟩ = some (.int .i64 a0_0) := (blk_cell BK108.out 0).trans rfl; have hcz4_1 : w3.cell? ⟨gb108, 1, none⟩ = some (.bool a0_1) := (blk_cell BK108.out 1).trans rfl; have hcz4_2 : w3.cell? ⟨gb108, 2, none⟩ = some (.int .i64 a0_2) := (blk_cell BK108.out 2).trans rfl; have hcz4_3 : w3.cell? ⟨gb108, 3, none⟩ = some (.string a0_3) := (blk_cell BK108.out 3).trans rfl; have hcz4_4 : w3.cell? ⟨gb108, 4, none⟩ = some (.slice A0_4 l0_4.length c0_4) := (blk_cell BK108.out 4).trans rfl; have hcz4_5 : w3.cell? ⟨gb108, 5, none⟩ = some (.slice A0_5 l0_5.length c0_5) := (blk_cell BK108.out 5).trans rfl; have hfz4_0 := blk_frozen BK108.out 0; have hfz4_1 := blk_frozen BK108.out 1; have hfz4_2 := blk_frozen BK108.out 2; have hfz4_3 := blk_frozen BK108.out 3; have hfz4_4 := blk_frozen BK108.out 4; have hfz4_5 := blk_frozen BK108.out 5))
  go_loopg [5] k (fun kq v5 w' => ∃ (x5_1 : Int), v5 = .int .i64 x5_1 ∧ Aside0 (spec_JMember.l0 kq a1 x5_1 a0_0 a0_1 a0_2 a0_3 l0_4 l0_5 = some r) ∧ Aside0 (kq ≤ k) ∧ Aside0 (w'.heap[gb108]? = some (.cells #[.int .i64 a0_0, .bool a0_1, .int .i64 a0_2, .string a0_3, (.slice A0_4 l0_4.length c0_4), (.slice A0_5 l0_5.length c0_5)] 25 (0, 0))) ∧ Aside0 (Below w.heap.size w w'))
  case atStart => exact ⟨(wrap64 ((l0_4.length : Int) - 1)), (by first | rfl | (simp; done) | (simp [*]; done)), H', ⟨Nat.le_refl _⟩, ⟨by (with_reducible repeat (first | refine blk_drewN ?_ _ | refine blk_drew ?_ | refine blk_alloc ?_ _)); exact BK108.out⟩, ⟨by repeat (first | (with_reducible first | exact HB.out | apply below_alloc | apply pw_below_drewN | apply below_drew1 | refine below_set ?_ GE108.out) | exact HB.out)⟩⟩
  case round =>
    clear H'
    try clear c2
    try clear p2
    try clear hcz4_0
    try clear hcz4_1
    try clear hcz4_2
    try clear hcz4_3
    try clear hcz4_4
    try clear hcz4_5
    try clear hfz4_0
    try clear hfz4_1
    try clear hfz4_2
    try clear hfz4_3
    try clear hfz4_4
    try clear hfz4_5
    obtain ⟨x5_1, rfl, HA, HK1, BK108, HB⟩ := hrel
    cases gk with
    | zero => exact absurd HA.out (by simp [spec_JMember.l0])
    | succ k1 =>
      have H := HA.out
      clear HA
      simp only [spec_JMember.l0] at H
      by_cases c5 : x5_1 ≥ 0
      · rw [if_pos c5] at H
        have c5b0 : decide (0 ≤ x5_1) = true := decide_eq_true c5
        clear c5
        by_cases c6 : 0 ≤ x5_1
        · rw [if_pos c6] at H
          have c6b0 : decide (0 ≤ x5_1) = true := decide_eq_true c6
          clear c6
          by_cases c7 : x5_1 < (l0_4.length : Int)
          · rw [if_pos c7] at H
            have c7b0 : decide (x5_1 < (l0_4.length : Int)) = true := decide_eq_true c7
            clear c7
            by_cases c8 : (rdOf ByteArray.empty l0_4 x5_1).toList = a1.toList
            · rw [if_pos c8] at H
              have c8b0 : ((rdOf ByteArray.empty l0_4 x5_1).toList == a1.toList) = true := beq_iff_eq.mpr c8
              have c8b1 : ((rdOf ByteArray.empty l0_4 x5_1).toList != a1.toList) = false := bne_eq_false_iff_eq.mpr c8
              clear c8
              obtain rfl := Option.some.inj H
              have hcz9_0 : wr.cell? ⟨gb108, 0, none⟩ = some (.int .i64 a0_0) := (blk_cell BK108.out 0).trans rfl
              have hcz9_1 : wr.cell? ⟨gb108, 1, none⟩ = some (.bool a0_1) := (blk_cell BK108.out 1).trans rfl
              have hcz9_2 : wr.cell? ⟨gb108, 2, none⟩ = some (.int .i64 a0_2) := (blk_cell BK108.out 2).trans rfl
              have hcz9_3 : wr.cell? ⟨gb108, 3, none⟩ = some (.string a0_3) := (blk_cell BK108.out 3).trans rfl
              have hcz9_4 : wr.cell? ⟨gb108, 4, none⟩ = some (.slice A0_4 l0_4.length c0_4) := (blk_cell BK108.out 4).trans rfl
              have hcz9_5 : wr.cell? ⟨gb108, 5, none⟩ = some (.slice A0_5 l0_5.length c0_5) := (blk_cell BK108.out 5).trans rfl
              have hfz9_0 := blk_frozen BK108.out 0
              have hfz9_1 := blk_frozen BK108.out 1
              have hfz9_2 := blk_frozen BK108.out 2
              have hfz9_3 := blk_frozen BK108.out 3
              have hfz9_4 := blk_frozen BK108.out 4
              have hfz9_5 := blk_frozen BK108.out 5
              have p109 : 0 ≤ (x5_1 : Int) := of_decide_eq_true (by first | (with_reducible assumption) | assumption)
              have q109 : x5_1 < (l0_4.length : Int) := of_decide_eq_true (by first | (with_reducible assumption) | assumption)
              obtain ⟨ad109, e109, hx109_0⟩ := Kd.at_string HR0_4.out x5_1 p109 q109
              cases e109
              replace hx109_0 := (HB.out.cell (World.block_lt_of_cell? w _ hx109_0)).trans hx109_0
              replace p109 := eq_true p109
              replace q109 := eq_true q109
              go_wp2
              go_ret
              exact ⟨by first | rfl | (simp [errW_none, errW_some] <;> rfl) | (simp [*, errW_none, errW_some] <;> rfl), by repeat (first | (with_reducible first | exact HB.out | apply below_alloc | apply pw_below_drewN | apply below_drew1 | refine below_set ?_ GE108.out) | exact HB.out)⟩
            · rw [if_neg c8] at H
              have c8b0 : ((rdOf ByteArray.empty l0_4 x5_1).toList == a1.toList) = false := beq_eq_false_iff_ne.mpr c8
              have c8b1 : ((rdOf ByteArray.empty l0_4 x5_1).toList != a1.toList) = true := bne_iff_ne.mpr c8
              have H' := Aside0.mk H
              clear H
              have hcz10_0 : wr.cell? ⟨gb108, 0, none⟩ = some (.int .i64 a0_0) := (blk_cell BK108.out 0).trans rfl
              have hcz10_1 : wr.cell? ⟨gb108, 1, none⟩ = some (.bool a0_1) := (blk_cell BK108.out 1).trans rfl
              have hcz10_2 : wr.cell? ⟨gb108, 2, none⟩ = some (.int .i64 a0_2) := (blk_cell BK108.out 2).trans rfl
              have hcz10_3 : wr.cell? ⟨gb108, 3, none⟩ = some (.string a0_3) := (blk_cell BK108.out 3).trans rfl
              have hcz10_4 : wr.cell? ⟨gb108, 4, none⟩ = some (.slice A0_4 l0_4.length c0_4) := (blk_cell BK108.out 4).trans rfl
              have hcz10_5 : wr.cell? ⟨gb108, 5, none⟩ = some (.slice A0_5 l0_5.length c0_5) := (blk_cell BK108.out 5).trans rfl
              have hfz10_0 := blk_frozen BK108.out 0
              have hfz10_1 := blk_frozen BK108.out 1
              have hfz10_2 := blk_frozen BK108.out 2
              have hfz10_3 := blk_frozen BK108.out 3
              have hfz10_4 := blk_frozen BK108.out 4
              have hfz10_5 := blk_frozen BK108.out 5
              have p109 : 0 ≤ (x5_1 : Int) := of_decide_eq_true (by first | (with_reducible assumption) | assumption)
              have q109 : x5_1 < (l0_4.length : Int) := of_decide_eq_true (by first | (with_reducible assumption) | assumption)
              obtain ⟨ad109, e109, hx109_0⟩ := Kd.at_string HR0_4.out x5_1 p109 q109
              cases e109
              replace hx109_0 := (HB.out.cell (World.block_lt_of_cell? w _ hx109_0)).trans hx109_0
              replace p109 := eq_true p109
              replace q109 := eq_true q109
              go_wp2
              go_roundg k1
              case measure => have := HK1.out; omega
              case rel => exact ⟨(wrap64 (x5_1 - 1)), (by first | rfl | (simp; done) | (simp [*]; done)), H', ⟨by have := HK1.out; omega⟩, ⟨by (with_reducible repeat (first | refine blk_drewN ?_ _ | refine blk_drew ?_ | refine blk_alloc ?_ _)); exact BK108.out⟩, ⟨by repeat (first | (with_reducible first | exact HB.out | apply below_alloc | apply pw_below_drewN | apply below_drew1 | refine below_set ?_ GE108.out) | exact HB.out)⟩⟩
          · rw [if_neg c7] at H
            exact absurd H (by simp)
        · rw [if_neg c6] at H
          exact absurd H (by simp)
      · rw [if_neg c5] at H
        have c5b0 : decide (0 ≤ x5_1) = false := decide_eq_false c5
        clear c5
        obtain rfl := Option.some.inj H
        go_wp2
        go_ret
        exact ⟨by first | rfl | (simp [errW_none, errW_some] <;> rfl) | (simp [*, errW_none, errW_some] <;> rfl), by repeat (first | (with_reducible first | exact HB.out | apply below_alloc | apply pw_below_drewN | apply below_drew1 | refine below_set ?_ GE108.out) | exact HB.out)⟩

/-! ### spec_JMembers: function 18 -/
def spec_JMembers.l0 : Nat → List Int → Int → Int → Bool → Int → ByteArray → List ByteArray → List (S25) → Option (List Int)
  | 0, _, _, _, _, _, _, _, _ => none
  | k + 1, x3, x4, x111000, x111001, x111002, x111003, x111004, x111005 => if x4 < (x111004.length : Int) then (if 0 ≤ x4 then ((spec_JMember.f k x111000 x111001 x111002 x111003 x111004 x111005 (rdOf ByteArray.empty x111004 x4)).bind fun t112 => (if t112 = x4 then (if x3.length < 17592186044416 then (spec_JMembers.l0 k (x3 ++ [x4]) (wrap64 (x4 + 1)) x111000 x111001 x111002 x111003 x111004 x111005) else (none)) else (spec_JMembers.l0 k x3 (wrap64 (x4 + 1)) x111000 x111001 x111002 x111003 x111004 x111005))) else (none)) else (some x3)
def spec_JMembers.f (k : Nat) (a0_0 : Int) (a0_1 : Bool) (a0_2 : Int) (a0_3 : ByteArray) (l0_4 : List ByteArray) (l0_5 : List (S25)) : Option (List Int) := spec_JMembers.l0 k ([] : List Int) 0 a0_0 a0_1 a0_2 a0_3 l0_4 l0_5
theorem spec_JMembers.mono_l : ∀ k, (∀ y0 y1 y2 y3 y4 y5 y6 y7, LeO (spec_JMembers.l0 k y0 y1 y2 y3 y4 y5 y6 y7) (spec_JMembers.l0 (k + 1) y0 y1 y2 y3 y4 y5 y6 y7))
  | 0 => fun _ _ _ _ _ _ _ _ r h => by simp [spec_JMembers.l0] at h
  | k + 1 => by
    have ih0 := spec_JMembers.mono_l k
    · intro y0 y1 y2 y3 y4 y5 y6 y7
      unfold spec_JMembers.l0
      repeat' first
      | (with_reducible exact ih0 _ _ _ _ _ _ _ _)
      | (with_reducible exact spec_JMember.mono _ _ _ _ _ _ _ _)
      | (with_reducible exact LeO.refl _)
      | (with_reducible exact LeO.none _)
      | (with_reducible refine LeO.ite ?_ ?_)
      | (with_reducible refine LeO.bind ?_ (fun _ => ?_))
      | exact ih0 _ _ _ _ _ _ _ _
      | exact spec_JMember.mono _ _ _ _ _ _ _ _
      | exact LeO.none _
      | refine LeO.ite ?_ ?_
      | refine LeO.bind ?_ (fun _ => ?_)
theorem spec_JMembers.mono : ∀ a0 a1 a2 a3 a4 a5 k, LeO (spec_JMembers.f k a0 a1 a2 a3 a4 a5) (spec_JMembers.f (k + 1) a0 a1 a2 a3 a4 a5) := by
  intro a0 a1 a2 a3 a4 a5 k
  have ih0 := spec_JMembers.mono_l k
  unfold spec_JMembers.f
  repeat' first
      | (with_reducible exact ih0 _ _ _ _ _ _ _ _)
      | (with_reducible exact spec_JMember.mono _ _ _ _ _ _ _ _)
      | (with_reducible exact LeO.refl _)
      | (with_reducible exact LeO.none _)
      | (with_reducible refine LeO.ite ?_ ?_)
      | (with_reducible refine LeO.bind ?_ (fun _ => ?_))
      | exact ih0 _ _ _ _ _ _ _ _
      | exact spec_JMember.mono _ _ _ _ _ _ _ _
      | exact LeO.none _
      | refine LeO.ite ?_ ?_
      | refine LeO.bind ?_ (fun _ => ?_)
def spec_JMembers.T5 : Bool × List (List Nat × List Nat) := (true, [([], []), ([], []), ([1], [1]), ([], []), ([2, 3], [2, 3]), ([4], [4]), ([0, 5], [0, 5]), ([], []), ([6, 7], [6, 7])])
def spec_JMembers.B5 : List Nat := [0, 0, 2, 0, 14, 30, 63, 0, 255]
theorem spec_JMembers.tab5 : rtab .any (opsOf Try.f18 5) = spec_JMembers.T5 := by kernel_rfl
theorem spec_JMembers.bits5 : waitsOk spec_JMembers.T5.2 spec_JMembers.B5 = true := by kernel_rfl
set_option maxHeartbeats 8000000 in
set_option maxRecDepth 100000 in
theorem spec_JMembers.calls (k : Nat) (a0_0 : Int) (a0_1 : Bool) (a0_2 : Int) (a0_3 : ByteArray) (A0_4 : Option Addr) (c0_4 : Nat) (l0_4 : List ByteArray) (A0_5 : Option Addr) (c0_5 : Nat) (l0_5 : List (S25)) (r : List Int) (w : World) (hr0_4 : Kd.C Kd.string w A0_4 l0_4.length l0_4) (hc0_4 : l0_4.length ≤ c0_4) (hr0_5 : Kd.C k25 w A0_5 l0_5.length l0_5) (hc0_5 : l0_5.length ≤ c0_5) (h : spec_JMembers.f k a0_0 a0_1 a0_2 a0_3 l0_4 l0_5 = some r) :
    Calls Try.prog 18 #[.agg #[.int .i64 a0_0, .bool a0_1, .int .i64 a0_2, .string a0_3, .slice A0_4 l0_4.length c0_4, .slice A0_5 l0_5.length c0_5]] w fun e w' => ∃ v0_ : Value, e = .returned (v0_) ∧ Kd.R (Kd.int .i64) 3 w' w.heap.size (fun _ => True) v0_ r ∧ Below w.heap.size w w' := by
  have hu25 := Try.underlying25
  have HR0_4 := Aside0.mk hr0_4
  have HC0_4 := Aside0.mk hc0_4
  clear hr0_4 hc0_4
  have HR0_5 := Aside0.mk hr0_5
  have HC0_5 := Aside0.mk hc0_5
  clear hr0_5 hc0_5
  have HB := Aside0.mk (Below.refl w.heap.size w)
  have H : (spec_JMembers.l0 k ([] : List Int) 0 a0_0 a0_1 a0_2 a0_3 l0_4 l0_5) = some r := h
  clear h
  have H' := Aside0.mk H
  clear H
  go_enter Try.func18, Try.ntmps18
  go_wp2_with (first | ((with_reducible refine gate_dst (N := 1) rfl ?_); refine box_event ?hg (N := 1) ?hd (cs := #[.int .i64 a0_0, .bool a0_1, .int .i64 a0_2, .string a0_3, .slice A0_4 l0_4.length c0_4, .slice A0_5 l0_5.length c0_5]) (t := 25) ?hr ?_; (case hd => rfl); (case hg => rfl); (case hr => first | (go_simp; done) | (go_simp; rfl)); intro gb110 hg w2 hbox hb; have n0_ := Aside0.mk (below_step (by repeat (first | (with_reducible first | exact HB.out | apply below_alloc | apply pw_below_drewN | apply below_drew1) | exact HB.out)) hb); have n1_ := Aside0.mk (hbox); have n2_ := Aside0.mk ((by rw [hg]; exact (below_size (by repeat (first | (with_reducible first | exact HB.out | apply below_alloc | apply pw_below_drewN | apply below_drew1) | exact HB.out))) : w.heap.size ≤ gb110)); have n3_ := Aside0.mk ((by rw [hg]; exact (below_size (by repeat (first | (with_reducible first | exact HB.out | apply below_alloc | apply pw_below_drewN | apply below_drew1) | exact HB.out))) : w.heap.size ≤ gb110)); clear HB; have HB := n0_; have BK110 := n1_; have GW110 := n2_; have GE110 := n3_; clear n0_ n1_ n2_ n3_; clear hb hbox hg))
  go_loopg [3, 4] k (fun kq v3 v4 w' => ∃ (x3_1 : List Int) (x4_1 : Int), v4 = .int .i64 x4_1 ∧ Aside0 (spec_JMembers.l0 kq x3_1 x4_1 a0_0 a0_1 a0_2 a0_3 l0_4 l0_5 = some r) ∧ Aside0 (kq ≤ k) ∧ Aside0 (Kd.R (Kd.int .i64) 3 w' w.heap.size (fun _ => True) v3 x3_1) ∧ Aside0 (w'.heap[gb110]? = some (.cells #[.int .i64 a0_0, .bool a0_1, .int .i64 a0_2, .string a0_3, (.slice A0_4 l0_4.length c0_4), (.slice A0_5 l0_5.length c0_5)] 25 (0, 0))) ∧ Aside0 (Below w.heap.size w w'))
  case atStart => exact ⟨(([] : List Int)), (0), (by first | rfl | (simp; done) | (simp [*]; done)), H', ⟨Nat.le_refl _⟩, ⟨by first | exact Kd.R_nil _ _ _ _ _ | exact Kd.N_nil _ _ _ _ _ | exact Kd.V_nil _ _ _ _ _ | exact Kd.Q_nil _ _ _ _ _ | exact Kd.S_nil _ _ _ _ _⟩, ⟨by (with_reducible repeat (first | refine blk_drewN ?_ _ | refine blk_drew ?_ | refine blk_alloc ?_ _)); exact BK110.out⟩, ⟨by repeat (first | (with_reducible first | exact HB.out | apply below_alloc | apply pw_below_drewN | apply below_drew1 | refine below_set ?_ GE110.out) | exact HB.out)⟩⟩
  case round =>
    clear H'
    try clear c1
    try clear p2
    obtain ⟨x3_1, x4_1, rfl, HA, HK1, HO_3, BK110, HB⟩ := hrel
    cases gk with
    | zero => exact absurd HA.out (by simp [spec_JMembers.l0])
    | succ k1 =>
      have H := HA.out
      clear HA
      simp only [spec_JMembers.l0] at H
      by_cases c3 : x4_1 < (l0_4.length : Int)
      · rw [if_pos c3] at H
        have c3b0 : decide (x4_1 < (l0_4.length : Int)) = true := decide_eq_true c3
        clear c3
        by_cases c4 : 0 ≤ x4_1
        · rw [if_pos c4] at H
          have c4b0 : decide (0 ≤ x4_1) = true := decide_eq_true c4
          clear c4
          replace H := Option.bind_eq_some_iff.mp H
          obtain ⟨t112, A50, H⟩ := H
          replace H : (if t112 = x4_1 then (if x3_1.length < 17592186044416 then (spec_JMembers.l0 k1 (x3_1 ++ [x4_1]) (wrap64 (x4_1 + 1)) a0_0 a0_1 a0_2 a0_3 l0_4 l0_5) else (none)) else (spec_JMembers.l0 k1 x3_1 (wrap64 (x4_1 + 1)) a0_0 a0_1 a0_2 a0_3 l0_4 l0_5)) = some r := H
          have A5 := Aside0.mk A50
          clear A50
          by_cases c6 : t112 = x4_1
          · rw [if_pos c6] at H
            have c6b0 : (t112 == x4_1) = true := beq_iff_eq.mpr c6
            have c6b1 : (t112 != x4_1) = false := bne_eq_false_iff_eq.mpr c6
            clear c6
            by_cases c7 : x3_1.length < 17592186044416
            · rw [if_pos c7] at H
              have LMc7 := Aside0.mk c7
              clear c7
              obtain ⟨y113, hy113⟩ : ∃ y_ : List Int, y_ = (x3_1 ++ [x4_1]) := ⟨_, rfl⟩
              replace H : (spec_JMembers.l0 k1 y113 (wrap64 (x4_1 + 1)) a0_0 a0_1 a0_2 a0_3 l0_4 l0_5) = some r := by first | (rw [hy113]; with_reducible exact H) | (have H2_ := (Option.bind_some _ _).symm.trans H; rw [hy113]; with_reducible exact H2_) | (have H2_ := (Option.bind_some _ _).symm.trans H; with_reducible exact H2_) | with_reducible exact H | (rw [hy113]; exact H) | exact H
              have Ny113 := Aside0.mk hy113
              clear hy113
              have H' := Aside0.mk H
              clear H
              have hcz8_0 : wr.cell? ⟨gb110, 0, none⟩ = some (.int .i64 a0_0) := (blk_cell BK110.out 0).trans rfl
              have hcz8_1 : wr.cell? ⟨gb110, 1, none⟩ = some (.bool a0_1) := (blk_cell BK110.out 1).trans rfl
              have hcz8_2 : wr.cell? ⟨gb110, 2, none⟩ = some (.int .i64 a0_2) := (blk_cell BK110.out 2).trans rfl
              have hcz8_3 : wr.cell? ⟨gb110, 3, none⟩ = some (.string a0_3) := (blk_cell BK110.out 3).trans rfl
              have hcz8_4 : wr.cell? ⟨gb110, 4, none⟩ = some (.slice A0_4 l0_4.length c0_4) := (blk_cell BK110.out 4).trans rfl
              have hcz8_5 : wr.cell? ⟨gb110, 5, none⟩ = some (.slice A0_5 l0_5.length c0_5) := (blk_cell BK110.out 5).trans rfl
              have hfz8_0 := blk_frozen BK110.out 0
              have hfz8_1 := blk_frozen BK110.out 1
              have hfz8_2 := blk_frozen BK110.out 2
              have hfz8_3 := blk_frozen BK110.out 3
              have hfz8_4 := blk_frozen BK110.out 4
              have hfz8_5 := blk_frozen BK110.out 5
              try go_wp2
              have n0_ := Aside0.mk (Kd.R_drew HO_3.out)
              have n1_ := Aside0.mk (blk_drew BK110.out)
              have n2_ := Aside0.mk (below_drew1 HB.out)
              clear HO_3
              clear BK110
              clear HB
              have HO_3 := n0_
              have BK110 := n1_
              have HB := n2_
              clear n0_ n1_ n2_
              have p111 : 0 ≤ (x4_1 : Int) := of_decide_eq_true (by first | (with_reducible assumption) | assumption)
              have q111 : x4_1 < (l0_4.length : Int) := of_decide_eq_true (by first | (with_reducible assumption) | assumption)
              obtain ⟨ad111, e111, hx111_0⟩ := Kd.at_string HR0_4.out x4_1 p111 q111
              have hw111_0 := hx111_0
              cases e111
              replace hx111_0 := (HB.out.cell (World.block_lt_of_cell? w _ hx111_0)).trans hx111_0
              replace p111 := eq_true p111
              replace q111 := eq_true q111
              refine start_ (n := 9) (S := fun w' => w'.cell? ⟨gb110, 0, none⟩ = some (.int .i64 a0_0) ∧ w'.cell? ⟨gb110, 1, none⟩ = some (.bool a0_1) ∧ w'.cell? ⟨gb110, 2, none⟩ = some (.int .i64 a0_2) ∧ w'.cell? ⟨gb110, 3, none⟩ = some (.string a0_3) ∧ w'.cell? ⟨gb110, 4, none⟩ = some (.slice (some ad111) l0_4.length c0_4) ∧ w'.cell? ⟨gb110, 5, none⟩ = some (.slice A0_5 l0_5.length c0_5) ∧ w'.cell? (ad111.add (x4_1).toNat) = some (.string (rdOf ByteArray.empty l0_4 x4_1))) (ds := []) #[false, false, false, false, false, false, false, false, false] (by kernel_rfl) rfl rfl ⟨(blk_cell BK110.out 0).trans rfl, (blk_cell BK110.out 1).trans rfl, (blk_cell BK110.out 2).trans rfl, (blk_cell BK110.out 3).trans rfl, (blk_cell BK110.out 4).trans rfl, (blk_cell BK110.out 5).trans rfl, ((HB.out.cell (World.block_lt_of_cell? w _ hw111_0)).trans hw111_0)⟩ (fun hHeld => ?_); refine with_tabW spec_JMembers.tab5 spec_JMembers.bits5 (fun HT_ HW_ => ?_)
              generalize wr.drew = w9 at HO_3 BK110 HB hx111_0 hHeld ⊢
              refine pure_ (i := 1) (N := some 13) (v := ?_) (a' := ?_) #[false, true, false, false, false, false, false, false, false] rfl rfl (any_of HT_.out (by kernel_rfl)) (fun _ _ _ h => h) (Or.inl ⟨by rfl, ?_⟩) ?_ ?_
              rotate_left
              · intro w'
                go_simp
                with_reducible rfl
              rotate_left
              · simp only [Act.put, List.setIfInBounds_toArray, List.set_cons_zero, List.set_cons_succ, i64_w, i32_w]
                rfl
              refine pure_ (i := 3) (N := some 15) (v := ?_) (a' := ?_) #[false, true, false, true, false, false, false, false, false] rfl rfl (any_of HT_.out (by kernel_rfl)) (fun _ _ _ h => h) (Or.inl ⟨by rfl, ?_⟩) ?_ ?_
              rotate_left
              · intro w'
                go_simp
                with_reducible rfl
              rotate_left
              · simp only [Act.put, List.setIfInBounds_toArray, List.set_cons_zero, List.set_cons_succ, i64_w, i32_w]
                rfl
              refine pure_ (i := 7) (N := some 19) (v := ?_) (a' := ?_) #[false, true, false, true, false, false, false, true, false] rfl rfl (any_of HT_.out (by kernel_rfl)) (fun _ _ _ h => h) (Or.inl ⟨by rfl, ?_⟩) ?_ ?_
              rotate_left
              · intro w'
                go_simp
                with_reducible rfl
              rotate_left
              · simp only [Act.put, List.setIfInBounds_toArray, List.set_cons_zero, List.set_cons_succ, i64_w, i32_w]
                rfl
              refine take_ (i := 0) (N := some 12) (v := ?_) (a' := ?_) #[true, true, false, true, false, false, false, true, false] rfl rfl (take_ofW HT_.out HW_.out (by kernel_rfl)) (fun _ _ _ h => h) (Or.inl ⟨by rfl, ?_⟩) hHeld ?_ ?_
              rotate_left
              · rintro w' ⟨s0, s1, s2, s3, s4, s5, s6⟩
                go_simp
                with_reducible rfl
              rotate_left
              · simp only [Act.put, List.setIfInBounds_toArray, List.set_cons_zero, List.set_cons_succ, i64_w, i32_w]
                rfl
              refine take_ (i := 2) (N := some 14) (v := ?_) (a' := ?_) #[true, true, true, true, false, false, false, true, false] rfl rfl (take_ofW HT_.out HW_.out (by kernel_rfl)) (fun _ _ _ h => h) (Or.inl ⟨by rfl, ?_⟩) hHeld ?_ ?_
              rotate_left
              · rintro w' ⟨s0, s1, s2, s3, s4, s5, s6⟩
                go_simp
                with_reducible rfl
              rotate_left
              · simp only [Act.put, List.setIfInBounds_toArray, List.set_cons_zero, List.set_cons_succ, i64_w, i32_w]
                rfl
              refine pure_ (i := 4) (N := some 16) (v := ?_) (a' := ?_) #[true, true, true, true, true, false, false, true, false] rfl rfl (any_of HT_.out (by kernel_rfl)) (fun _ _ _ h => h) (Or.inl ⟨by rfl, ?_⟩) ?_ ?_
              rotate_left
              · intro w'
                go_simp
                with_reducible rfl
              rotate_left
              · simp only [Act.put, List.setIfInBounds_toArray, List.set_cons_zero, List.set_cons_succ, i64_w, i32_w]
                rfl
              refine take_ (i := 5) (N := some 17) (v := ?_) (a' := ?_) #[true, true, true, true, true, true, false, true, false] rfl rfl (take_ofW HT_.out HW_.out (by kernel_rfl)) (fun _ _ _ h => h) (Or.inl ⟨by rfl, ?_⟩) hHeld ?_ ?_
              rotate_left
              · rintro w' ⟨s0, s1, s2, s3, s4, s5, s6⟩
                go_simp
                with_reducible rfl
              rotate_left
              · simp only [Act.put, List.setIfInBounds_toArray, List.set_cons_zero, List.set_cons_succ, i64_w, i32_w]
                rfl
              refine one_ (i := 6) (N := some 18) #[true, true, true, true, true, true, true, true, false] rfl rfl (one_of HT_.out (by kernel_rfl)) (by decide) (fun K hK => ?_)
              refine goes_ Try.func23 (by kernel_rfl) rfl #[.agg #[.int .i64 a0_0, .bool a0_1, .int .i64 a0_2, .string a0_3, .slice (some ad111) l0_4.length c0_4, .slice A0_5 l0_5.length c0_5], .string (rdOf ByteArray.empty l0_4 x4_1)] (by rfl) rfl rfl (by (try simp only [List.map_toArray, List.map_cons, List.map_nil]); first | done | rfl | (simp only [List.length_drop, List.length_take]; rfl)) ?_
              with_reducible refine (spec_JMember.calls k1 a0_0 a0_1 a0_2 a0_3 _ _ l0_4 _ _ l0_5 (rdOf ByteArray.empty l0_4 x4_1) t112 _ ?side1 ?side2 ?side3 ?side4 A5.out).mono ?_
              (case side1 => repeat (first | exact (Kd.C_below HR0_4.out HB.out) | (with_reducible refine Kd.C_alloc ?_ _) | (with_reducible refine Kd.C_drewN ?_ _) | (with_reducible refine Kd.C_drew ?_)))
              (case side2 => exact HC0_4.out)
              (case side3 => repeat (first | exact (Kd.C_below HR0_5.out HB.out) | (with_reducible refine Kd.C_alloc ?_ _) | (with_reducible refine Kd.C_drewN ?_ _) | (with_reducible refine Kd.C_drew ?_)))
              (case side4 => exact HC0_5.out)
              rintro e w10 ⟨rfl, hb⟩
              refine ⟨_, rfl, ?_⟩
              have n0_ := Aside0.mk (Kd.R_below (by (with_reducible repeat (first | apply Kd.R_alloc | apply Kd.R_drewN | apply Kd.R_drew)); exact HO_3.out) hb)
              have n1_ := Aside0.mk (blk_below (g := gb110) (o := .cells #[.int .i64 a0_0, .bool a0_1, .int .i64 a0_2, .string a0_3, .slice (some ad111) l0_4.length c0_4, .slice A0_5 l0_5.length c0_5] 25 (0, 0)) (by (with_reducible repeat (first | refine blk_drewN ?_ _ | refine blk_drew ?_ | refine blk_alloc ?_ _)); exact BK110.out) hb)
              have n2_ := Aside0.mk (below_step (by repeat (first | (with_reducible first | exact HB.out | apply below_alloc | apply pw_below_drewN | apply below_drew1 | refine below_set ?_ GE110.out) | exact HB.out)) hb)
              clear HO_3
              clear BK110
              clear HB
              have HO_3 := n0_
              have BK110 := n1_
              have HB := n2_
              clear n0_ n1_ n2_
              (try clear hb)
              (try clear hb2)
              (try clear hk)
              (try clear hi)
              refine hK.out _ _ ⟨(blk_cell BK110.out 0).trans rfl, (blk_cell BK110.out 1).trans rfl, (blk_cell BK110.out 2).trans rfl, (blk_cell BK110.out 3).trans rfl, (blk_cell BK110.out 4).trans rfl, (blk_cell BK110.out 5).trans rfl, ((HB.out.cell (World.block_lt_of_cell? w _ hw111_0)).trans hw111_0)⟩ (fun hHeld => ?_)
              clear hK K
              refine norm_ (a' := ?_) ?_ ?_
              rotate_left
              · show Act.put _ (some 18) _ = _
                simp only [Act.put, List.setIfInBounds_toArray, List.set_cons_zero, List.set_cons_succ, i64_w, i32_w]
                rfl
              refine pure_ (i := 8) (N := some 20) (v := ?_) (a' := ?_) #[true, true, true, true, true, true, true, true, true] rfl rfl (any_of HT_.out (by kernel_rfl)) (fun _ _ _ h => h) (Or.inl ⟨by rfl, ?_⟩) ?_ ?_
              rotate_left
              · intro w'
                go_simp
                with_reducible rfl
              rotate_left
              · simp only [Act.put, List.setIfInBounds_toArray, List.set_cons_zero, List.set_cons_succ, i64_w, i32_w]
                rfl
              refine done_ (done_of HT_.out (by kernel_rfl)) ?_
              try go_wp2_with (first | ((with_reducible refine gate_builtin (b := .append) (xs := #[.tmp 21, .tmp 23]) rfl ?_); at_builtin; refine Kd.R_append (Kd.int .i64) (w0 := w) w.heap.size rfl (.tmp 21) (.tmp 23) 38 3 (.int .i64 0) 8 rfl Try.underlying38 info3 rfl (by decide) (by omega) u3 x3_1 x4_1 [.int .i64 x4_1] (fun _ => True) (fun _ => False) rfl rfl ?aP (fun _ hk => hk.elim) ?aF ?aO ?aB ?aS ?aL ?_; (case aP => exact rfl); (case aB => exact (by repeat (first | (with_reducible first | exact HB.out | apply below_alloc | apply pw_below_drewN | apply below_drew1 | refine below_set ?_ GE110.out) | exact HB.out))); (case aF => exact (fun _ _ => trivial)); (case aO => exact (by (with_reducible repeat (first | apply Kd.R_alloc | apply Kd.R_drewN | apply Kd.R_drew)); exact HO_3.out)); (case aS => exact (below_size (by repeat (first | (with_reducible first | exact HB.out | apply below_alloc | apply pw_below_drewN | apply below_drew1 | refine below_set ?_ GE110.out) | exact HB.out)))); (case aL => have := LMc7.out; omega); intro v114 w11 ho hb hg hat; rw [← Ny113.out] at ho; have n0_ := Aside0.mk (blk_grown (g := gb110) (o := .cells #[.int .i64 a0_0, .bool a0_1, .int .i64 a0_2, .string a0_3, .slice (some ad111) l0_4.length c0_4, .slice A0_5 l0_5.length c0_5] 25 (0, 0)) (by (with_reducible repeat (first | refine blk_drewN ?_ _ | refine blk_drew ?_ | refine blk_alloc ?_ _)); exact BK110.out) hg (Kd.R_ne HO_3.out BK110.out (by decide))); have n1_ := Aside0.mk (hb); have n2_ := Aside0.mk (ho); clear BK110; clear HB; clear HO_3; have BK110 := n0_; have HB := n1_; have HO115 := n2_; clear n0_ n1_ n2_; clear ho hb hg hat))
              go_roundg k1
              case measure => have := HK1.out; omega
              case rel => exact ⟨(y113), (wrap64 (x4_1 + 1)), (by first | rfl | (simp; done) | (simp [*]; done)), H', ⟨by have := HK1.out; omega⟩, ⟨by (with_reducible repeat (first | apply Kd.R_alloc | apply Kd.R_drewN | apply Kd.R_drew)); exact HO115.out⟩, ⟨by (with_reducible repeat (first | refine blk_drewN ?_ _ | refine blk_drew ?_ | refine blk_alloc ?_ _)); exact BK110.out⟩, ⟨by repeat (first | (with_reducible first | exact HB.out | apply below_alloc | apply pw_below_drewN | apply below_drew1 | refine below_set ?_ GE110.out) | exact HB.out)⟩⟩
            · rw [if_neg c7] at H
              exact absurd H (by simp)
          · rw [if_neg c6] at H
            have c6b0 : (t112 == x4_1) = false := beq_eq_false_iff_ne.mpr c6
            have c6b1 : (t112 != x4_1) = true := bne_iff_ne.mpr c6
            have H' := Aside0.mk H
            clear H
            have hcz12_0 : wr.cell? ⟨gb110, 0, none⟩ = some (.int .i64 a0_0) := (blk_cell BK110.out 0).trans rfl
            have hcz12_1 : wr.cell? ⟨gb110, 1, none⟩ = some (.bool a0_1) := (blk_cell BK110.out 1).trans rfl
            have hcz12_2 : wr.cell? ⟨gb110, 2, none⟩ = some (.int .i64 a0_2) := (blk_cell BK110.out 2).trans rfl
            have hcz12_3 : wr.cell? ⟨gb110, 3, none⟩ = some (.string a0_3) := (blk_cell BK110.out 3).trans rfl
            have hcz12_4 : wr.cell? ⟨gb110, 4, none⟩ = some (.slice A0_4 l0_4.length c0_4) := (blk_cell BK110.out 4).trans rfl
            have hcz12_5 : wr.cell? ⟨gb110, 5, none⟩ = some (.slice A0_5 l0_5.length c0_5) := (blk_cell BK110.out 5).trans rfl
            have hfz12_0 := blk_frozen BK110.out 0
            have hfz12_1 := blk_frozen BK110.out 1
            have hfz12_2 := blk_frozen BK110.out 2
            have hfz12_3 := blk_frozen BK110.out 3
            have hfz12_4 := blk_frozen BK110.out 4
            have hfz12_5 := blk_frozen BK110.out 5
            try go_wp2
            have n0_ := Aside0.mk (Kd.R_drew HO_3.out)
            have n1_ := Aside0.mk (blk_drew BK110.out)
            have n2_ := Aside0.mk (below_drew1 HB.out)
            clear HO_3
            clear BK110
            clear HB
            have HO_3 := n0_
            have BK110 := n1_
            have HB := n2_
            clear n0_ n1_ n2_
            have p111 : 0 ≤ (x4_1 : Int) := of_decide_eq_true (by first | (with_reducible assumption) | assumption)
            have q111 : x4_1 < (l0_4.length : Int) := of_decide_eq_true (by first | (with_reducible assumption) | assumption)
            obtain ⟨ad111, e111, hx111_0⟩ := Kd.at_string HR0_4.out x4_1 p111 q111
            have hw111_0 := hx111_0
            cases e111
            replace hx111_0 := (HB.out.cell (World.block_lt_of_cell? w _ hx111_0)).trans hx111_0
            replace p111 := eq_true p111
            replace q111 := eq_true q111
            refine start_ (n := 9) (S := fun w' => w'.cell? ⟨gb110, 0, none⟩ = some (.int .i64 a0_0) ∧ w'.cell? ⟨gb110, 1, none⟩ = some (.bool a0_1) ∧ w'.cell? ⟨gb110, 2, none⟩ = some (.int .i64 a0_2) ∧ w'.cell? ⟨gb110, 3, none⟩ = some (.string a0_3) ∧ w'.cell? ⟨gb110, 4, none⟩ = some (.slice (some ad111) l0_4.length c0_4) ∧ w'.cell? ⟨gb110, 5, none⟩ = some (.slice A0_5 l0_5.length c0_5) ∧ w'.cell? (ad111.add (x4_1).toNat) = some (.string (rdOf ByteArray.empty l0_4 x4_1))) (ds := []) #[false, false, false, false, false, false, false, false, false] (by kernel_rfl) rfl rfl ⟨(blk_cell BK110.out 0).trans rfl, (blk_cell BK110.out 1).trans rfl, (blk_cell BK110.out 2).trans rfl, (blk_cell BK110.out 3).trans rfl, (blk_cell BK110.out 4).trans rfl, (blk_cell BK110.out 5).trans rfl, ((HB.out.cell (World.block_lt_of_cell? w _ hw111_0)).trans hw111_0)⟩ (fun hHeld => ?_); refine with_tabW spec_JMembers.tab5 spec_JMembers.bits5 (fun HT_ HW_ => ?_)
            generalize wr.drew = w13 at HO_3 BK110 HB hx111_0 hHeld ⊢
            refine pure_ (i := 1) (N := some 13) (v := ?_) (a' := ?_) #[false, true, false, false, false, false, false, false, false] rfl rfl (any_of HT_.out (by kernel_rfl)) (fun _ _ _ h => h) (Or.inl ⟨by rfl, ?_⟩) ?_ ?_
            rotate_left
            · intro w'
              go_simp
              with_reducible rfl
            rotate_left
            · simp only [Act.put, List.setIfInBounds_toArray, List.set_cons_zero, List.set_cons_succ, i64_w, i32_w]
              rfl
            refine pure_ (i := 3) (N := some 15) (v := ?_) (a' := ?_) #[false, true, false, true, false, false, false, false, false] rfl rfl (any_of HT_.out (by kernel_rfl)) (fun _ _ _ h => h) (Or.inl ⟨by rfl, ?_⟩) ?_ ?_
            rotate_left
            · intro w'
              go_simp
              with_reducible rfl
            rotate_left
            · simp only [Act.put, List.setIfInBounds_toArray, List.set_cons_zero, List.set_cons_succ, i64_w, i32_w]
              rfl
            refine pure_ (i := 7) (N := some 19) (v := ?_) (a' := ?_) #[false, true, false, true, false, false, false, true, false] rfl rfl (any_of HT_.out (by kernel_rfl)) (fun _ _ _ h => h) (Or.inl ⟨by rfl, ?_⟩) ?_ ?_
            rotate_left
            · intro w'
              go_simp
              with_reducible rfl
            rotate_left
            · simp only [Act.put, List.setIfInBounds_toArray, List.set_cons_zero, List.set_cons_succ, i64_w, i32_w]
              rfl
            refine take_ (i := 0) (N := some 12) (v := ?_) (a' := ?_) #[true, true, false, true, false, false, false, true, false] rfl rfl (take_ofW HT_.out HW_.out (by kernel_rfl)) (fun _ _ _ h => h) (Or.inl ⟨by rfl, ?_⟩) hHeld ?_ ?_
            rotate_left
            · rintro w' ⟨s0, s1, s2, s3, s4, s5, s6⟩
              go_simp
              with_reducible rfl
            rotate_left
            · simp only [Act.put, List.setIfInBounds_toArray, List.set_cons_zero, List.set_cons_succ, i64_w, i32_w]
              rfl
            refine take_ (i := 2) (N := some 14) (v := ?_) (a' := ?_) #[true, true, true, true, false, false, false, true, false] rfl rfl (take_ofW HT_.out HW_.out (by kernel_rfl)) (fun _ _ _ h => h) (Or.inl ⟨by rfl, ?_⟩) hHeld ?_ ?_
            rotate_left
            · rintro w' ⟨s0, s1, s2, s3, s4, s5, s6⟩
              go_simp
              with_reducible rfl
            rotate_left
            · simp only [Act.put, List.setIfInBounds_toArray, List.set_cons_zero, List.set_cons_succ, i64_w, i32_w]
              rfl
            refine pure_ (i := 4) (N := some 16) (v := ?_) (a' := ?_) #[true, true, true, true, true, false, false, true, false] rfl rfl (any_of HT_.out (by kernel_rfl)) (fun _ _ _ h => h) (Or.inl ⟨by rfl, ?_⟩) ?_ ?_
            rotate_left
            · intro w'
              go_simp
              with_reducible rfl
            rotate_left
            · simp only [Act.put, List.setIfInBounds_toArray, List.set_cons_zero, List.set_cons_succ, i64_w, i32_w]
              rfl
            refine take_ (i := 5) (N := some 17) (v := ?_) (a' := ?_) #[true, true, true, true, true, true, false, true, false] rfl rfl (take_ofW HT_.out HW_.out (by kernel_rfl)) (fun _ _ _ h => h) (Or.inl ⟨by rfl, ?_⟩) hHeld ?_ ?_
            rotate_left
            · rintro w' ⟨s0, s1, s2, s3, s4, s5, s6⟩
              go_simp
              with_reducible rfl
            rotate_left
            · simp only [Act.put, List.setIfInBounds_toArray, List.set_cons_zero, List.set_cons_succ, i64_w, i32_w]
              rfl
            refine one_ (i := 6) (N := some 18) #[true, true, true, true, true, true, true, true, false] rfl rfl (one_of HT_.out (by kernel_rfl)) (by decide) (fun K hK => ?_)
            refine goes_ Try.func23 (by kernel_rfl) rfl #[.agg #[.int .i64 a0_0, .bool a0_1, .int .i64 a0_2, .string a0_3, .slice (some ad111) l0_4.length c0_4, .slice A0_5 l0_5.length c0_5], .string (rdOf ByteArray.empty l0_4 x4_1)] (by rfl) rfl rfl (by (try simp only [List.map_toArray, List.map_cons, List.map_nil]); first | done | rfl | (simp only [List.length_drop, List.length_take]; rfl)) ?_
            with_reducible refine (spec_JMember.calls k1 a0_0 a0_1 a0_2 a0_3 _ _ l0_4 _ _ l0_5 (rdOf ByteArray.empty l0_4 x4_1) t112 _ ?side1 ?side2 ?side3 ?side4 A5.out).mono ?_
            (case side1 => repeat (first | exact (Kd.C_below HR0_4.out HB.out) | (with_reducible refine Kd.C_alloc ?_ _) | (with_reducible refine Kd.C_drewN ?_ _) | (with_reducible refine Kd.C_drew ?_)))
            (case side2 => exact HC0_4.out)
            (case side3 => repeat (first | exact (Kd.C_below HR0_5.out HB.out) | (with_reducible refine Kd.C_alloc ?_ _) | (with_reducible refine Kd.C_drewN ?_ _) | (with_reducible refine Kd.C_drew ?_)))
            (case side4 => exact HC0_5.out)
            rintro e w14 ⟨rfl, hb⟩
            refine ⟨_, rfl, ?_⟩
            have n0_ := Aside0.mk (Kd.R_below (by (with_reducible repeat (first | apply Kd.R_alloc | apply Kd.R_drewN | apply Kd.R_drew)); exact HO_3.out) hb)
            have n1_ := Aside0.mk (blk_below (g := gb110) (o := .cells #[.int .i64 a0_0, .bool a0_1, .int .i64 a0_2, .string a0_3, .slice (some ad111) l0_4.length c0_4, .slice A0_5 l0_5.length c0_5] 25 (0, 0)) (by (with_reducible repeat (first | refine blk_drewN ?_ _ | refine blk_drew ?_ | refine blk_alloc ?_ _)); exact BK110.out) hb)
            have n2_ := Aside0.mk (below_step (by repeat (first | (with_reducible first | exact HB.out | apply below_alloc | apply pw_below_drewN | apply below_drew1 | refine below_set ?_ GE110.out) | exact HB.out)) hb)
            clear HO_3
            clear BK110
            clear HB
            have HO_3 := n0_
            have BK110 := n1_
            have HB := n2_
            clear n0_ n1_ n2_
            (try clear hb)
            (try clear hb2)
            (try clear hk)
            (try clear hi)
            refine hK.out _ _ ⟨(blk_cell BK110.out 0).trans rfl, (blk_cell BK110.out 1).trans rfl, (blk_cell BK110.out 2).trans rfl, (blk_cell BK110.out 3).trans rfl, (blk_cell BK110.out 4).trans rfl, (blk_cell BK110.out 5).trans rfl, ((HB.out.cell (World.block_lt_of_cell? w _ hw111_0)).trans hw111_0)⟩ (fun hHeld => ?_)
            clear hK K
            refine norm_ (a' := ?_) ?_ ?_
            rotate_left
            · show Act.put _ (some 18) _ = _
              simp only [Act.put, List.setIfInBounds_toArray, List.set_cons_zero, List.set_cons_succ, i64_w, i32_w]
              rfl
            refine pure_ (i := 8) (N := some 20) (v := ?_) (a' := ?_) #[true, true, true, true, true, true, true, true, true] rfl rfl (any_of HT_.out (by kernel_rfl)) (fun _ _ _ h => h) (Or.inl ⟨by rfl, ?_⟩) ?_ ?_
            rotate_left
            · intro w'
              go_simp
              with_reducible rfl
            rotate_left
            · simp only [Act.put, List.setIfInBounds_toArray, List.set_cons_zero, List.set_cons_succ, i64_w, i32_w]
              rfl
            refine done_ (done_of HT_.out (by kernel_rfl)) ?_
            try go_wp2
            go_roundg k1
            case measure => have := HK1.out; omega
            case rel => exact ⟨(x3_1), (wrap64 (x4_1 + 1)), (by first | rfl | (simp; done) | (simp [*]; done)), H', ⟨by have := HK1.out; omega⟩, ⟨by (with_reducible repeat (first | apply Kd.R_alloc | apply Kd.R_drewN | apply Kd.R_drew)); exact HO_3.out⟩, ⟨by (with_reducible repeat (first | refine blk_drewN ?_ _ | refine blk_drew ?_ | refine blk_alloc ?_ _)); exact BK110.out⟩, ⟨by repeat (first | (with_reducible first | exact HB.out | apply below_alloc | apply pw_below_drewN | apply below_drew1 | refine below_set ?_ GE110.out) | exact HB.out)⟩⟩
        · rw [if_neg c4] at H
          exact absurd H (by simp)
      · rw [if_neg c3] at H
        have c3b0 : decide (x4_1 < (l0_4.length : Int)) = false := decide_eq_false c3
        clear c3
        obtain rfl := Option.some.inj H
        have hcz15_0 : wr.cell? ⟨gb110, 0, none⟩ = some (.int .i64 a0_0) := (blk_cell BK110.out 0).trans rfl
        have hcz15_1 : wr.cell? ⟨gb110, 1, none⟩ = some (.bool a0_1) := (blk_cell BK110.out 1).trans rfl
        have hcz15_2 : wr.cell? ⟨gb110, 2, none⟩ = some (.int .i64 a0_2) := (blk_cell BK110.out 2).trans rfl
        have hcz15_3 : wr.cell? ⟨gb110, 3, none⟩ = some (.string a0_3) := (blk_cell BK110.out 3).trans rfl
        have hcz15_4 : wr.cell? ⟨gb110, 4, none⟩ = some (.slice A0_4 l0_4.length c0_4) := (blk_cell BK110.out 4).trans rfl
        have hcz15_5 : wr.cell? ⟨gb110, 5, none⟩ = some (.slice A0_5 l0_5.length c0_5) := (blk_cell BK110.out 5).trans rfl
        have hfz15_0 := blk_frozen BK110.out 0
        have hfz15_1 := blk_frozen BK110.out 1
        have hfz15_2 := blk_frozen BK110.out 2
        have hfz15_3 := blk_frozen BK110.out 3
        have hfz15_4 := blk_frozen BK110.out 4
        have hfz15_5 := blk_frozen BK110.out 5
        go_wp2
        go_ret
        exact ⟨_, by first | rfl | (simp [errW_none, errW_some] <;> rfl) | (simp [*, errW_none, errW_some] <;> rfl), by (with_reducible repeat (first | apply Kd.R_alloc | apply Kd.R_drewN | apply Kd.R_drew)); exact HO_3.out, by repeat (first | (with_reducible first | exact HB.out | apply below_alloc | apply pw_below_drewN | apply below_drew1 | refine below_set ?_ GE110.out) | exact HB.out)⟩

/-! ### spec_JKind: function 12 -/
def spec_JKind.f (a0_0 : Int) (a0_1 : Bool) (a0_2 : Int) (a0_3 : ByteArray) (l0_4 : List ByteArray) (l0_5 : List (S25)) : Option (ByteArray) := if a0_0 = 0 then (some (⟨#[110, 117, 108, 108]⟩ : ByteArray)) else (if a0_0 = 1 then (some (⟨#[98, 111, 111, 108, 101, 97, 110]⟩ : ByteArray)) else (if a0_0 = 2 then (some (⟨#[110, 117, 109, 98, 101, 114]⟩ : ByteArray)) else (if a0_0 = 3 then (some (⟨#[115, 116, 114, 105, 110, 103]⟩ : ByteArray)) else (if a0_0 = 4 then (some (⟨#[97, 114, 114, 97, 121]⟩ : ByteArray)) else (some (⟨#[111, 98, 106, 101, 99, 116]⟩ : ByteArray))))))
set_option maxHeartbeats 8000000 in
set_option maxRecDepth 100000 in
theorem spec_JKind.calls (a0_0 : Int) (a0_1 : Bool) (a0_2 : Int) (a0_3 : ByteArray) (A0_4 : Option Addr) (c0_4 : Nat) (l0_4 : List ByteArray) (A0_5 : Option Addr) (c0_5 : Nat) (l0_5 : List (S25)) (r : ByteArray) (w : World) (hr0_4 : Kd.C Kd.string w A0_4 l0_4.length l0_4) (hc0_4 : l0_4.length ≤ c0_4) (hr0_5 : Kd.C k25 w A0_5 l0_5.length l0_5) (hc0_5 : l0_5.length ≤ c0_5) (h : spec_JKind.f a0_0 a0_1 a0_2 a0_3 l0_4 l0_5 = some r) :
    Calls Try.prog 12 #[.agg #[.int .i64 a0_0, .bool a0_1, .int .i64 a0_2, .string a0_3, .slice A0_4 l0_4.length c0_4, .slice A0_5 l0_5.length c0_5]] w fun e w' => e = .returned (.string r) ∧ Below w.heap.size w w' := by
  have hu25 := Try.underlying25
  have HR0_4 := Aside0.mk hr0_4
  have HC0_4 := Aside0.mk hc0_4
  clear hr0_4 hc0_4
  have HR0_5 := Aside0.mk hr0_5
  have HC0_5 := Aside0.mk hc0_5
  clear hr0_5 hc0_5
  have HB := Aside0.mk (Below.refl w.heap.size w)
  have H : (if a0_0 = 0 then (some (⟨#[110, 117, 108, 108]⟩ : ByteArray)) else (if a0_0 = 1 then (some (⟨#[98, 111, 111, 108, 101, 97, 110]⟩ : ByteArray)) else (if a0_0 = 2 then (some (⟨#[110, 117, 109, 98, 101, 114]⟩ : ByteArray)) else (if a0_0 = 3 then (some (⟨#[115, 116, 114, 105, 110, 103]⟩ : ByteArray)) else (if a0_0 = 4 then (some (⟨#[97, 114, 114, 97, 121]⟩ : ByteArray)) else (some (⟨#[111, 98, 106, 101, 99, 116]⟩ : ByteArray))))))) = some r := h
  clear h
  by_cases c2 : a0_0 = 0
  · rw [if_pos c2] at H
    have c2b0 : (a0_0 == 0) = true := beq_iff_eq.mpr c2
    have c2b1 : (a0_0 != 0) = false := bne_eq_false_iff_eq.mpr c2
    clear c2
    obtain rfl := Option.some.inj H
    go_enter Try.func12, Try.ntmps12
    go_wp2_with (first | ((with_reducible refine gate_dst (N := 1) rfl ?_); refine box_event ?hg (N := 1) ?hd (cs := #[.int .i64 a0_0, .bool a0_1, .int .i64 a0_2, .string a0_3, .slice A0_4 l0_4.length c0_4, .slice A0_5 l0_5.length c0_5]) (t := 25) ?hr ?_; (case hd => rfl); (case hg => rfl); (case hr => first | (go_simp; done) | (go_simp; rfl)); intro gb116 hg w3 hbox hb; have n0_ := Aside0.mk (below_step (by repeat (first | (with_reducible first | exact HB.out | apply below_alloc | apply pw_below_drewN | apply below_drew1) | exact HB.out)) hb); have n1_ := Aside0.mk (hbox); have n2_ := Aside0.mk ((by rw [hg]; exact (below_size (by repeat (first | (with_reducible first | exact HB.out | apply below_alloc | apply pw_below_drewN | apply below_drew1) | exact HB.out))) : w.heap.size ≤ gb116)); have n3_ := Aside0.mk ((by rw [hg]; exact (below_size (by repeat (first | (with_reducible first | exact HB.out | apply below_alloc | apply pw_below_drewN | apply below_drew1) | exact HB.out))) : w.heap.size ≤ gb116)); clear HB; have HB := n0_; have BK116 := n1_; have GW116 := n2_; have GE116 := n3_; clear n0_ n1_ n2_ n3_; clear hb hbox hg; have hcz4_0 : w3.cell? ⟨gb116, 0, none⟩ = some (.int .i64 a0_0) := (blk_cell BK116.out 0).trans rfl; have hcz4_1 : w3.cell? ⟨gb116, 1, none⟩ = some (.bool a0_1) := (blk_cell BK116.out 1).trans rfl; have hcz4_2 : w3.cell? ⟨gb116, 2, none⟩ = some (.int .i64 a0_2) := (blk_cell BK116.out 2).trans rfl; have hcz4_3 : w3.cell? ⟨gb116, 3, none⟩ = some (.string a0_3) := (blk_cell BK116.out 3).trans rfl; have hcz4_4 : w3.cell? ⟨gb116, 4, none⟩ = some (.slice A0_4 l0_4.length c0_4) := (blk_cell BK116.out 4).trans rfl; have hcz4_5 : w3.cell? ⟨gb116, 5, none⟩ = some (.slice A0_5 l0_5.length c0_5) := (blk_cell BK116.out 5).trans rfl; have hfz4_0 := blk_frozen BK116.out 0; have hfz4_1 := blk_frozen BK116.out 1; have hfz4_2 := blk_frozen BK116.out 2; have hfz4_3 := blk_frozen BK116.out 3; have hfz4_4 := blk_frozen BK116.out 4; have hfz4_5 := blk_frozen BK116.out 5))
    go_ret
    exact ⟨by first | rfl | (simp [errW_none, errW_some] <;> rfl) | (simp [*, errW_none, errW_some] <;> rfl), by repeat (first | (with_reducible first | exact HB.out | apply below_alloc | apply pw_below_drewN | apply below_drew1 | refine below_set ?_ GE116.out) | exact HB.out)⟩
  · rw [if_neg c2] at H
    have c2b0 : (a0_0 == 0) = false := beq_eq_false_iff_ne.mpr c2
    have c2b1 : (a0_0 != 0) = true := bne_iff_ne.mpr c2
    by_cases c5 : a0_0 = 1
    · rw [if_pos c5] at H
      have c5b0 : (a0_0 == 1) = true := beq_iff_eq.mpr c5
      have c5b1 : (a0_0 != 1) = false := bne_eq_false_iff_eq.mpr c5
      clear c5
      obtain rfl := Option.some.inj H
      go_enter Try.func12, Try.ntmps12
      go_wp2_with (first | ((with_reducible refine gate_dst (N := 1) rfl ?_); refine box_event ?hg (N := 1) ?hd (cs := #[.int .i64 a0_0, .bool a0_1, .int .i64 a0_2, .string a0_3, .slice A0_4 l0_4.length c0_4, .slice A0_5 l0_5.length c0_5]) (t := 25) ?hr ?_; (case hd => rfl); (case hg => rfl); (case hr => first | (go_simp; done) | (go_simp; rfl)); intro gb116 hg w6 hbox hb; have n0_ := Aside0.mk (below_step (by repeat (first | (with_reducible first | exact HB.out | apply below_alloc | apply pw_below_drewN | apply below_drew1) | exact HB.out)) hb); have n1_ := Aside0.mk (hbox); have n2_ := Aside0.mk ((by rw [hg]; exact (below_size (by repeat (first | (with_reducible first | exact HB.out | apply below_alloc | apply pw_below_drewN | apply below_drew1) | exact HB.out))) : w.heap.size ≤ gb116)); have n3_ := Aside0.mk ((by rw [hg]; exact (below_size (by repeat (first | (with_reducible first | exact HB.out | apply below_alloc | apply pw_below_drewN | apply below_drew1) | exact HB.out))) : w.heap.size ≤ gb116)); clear HB; have HB := n0_; have BK116 := n1_; have GW116 := n2_; have GE116 := n3_; clear n0_ n1_ n2_ n3_; clear hb hbox hg; have hcz7_0 : w6.cell? ⟨gb116, 0, none⟩ = some (.int .i64 a0_0) := (blk_cell BK116.out 0).trans rfl; have hcz7_1 : w6.cell? ⟨gb116, 1, none⟩ = some (.bool a0_1) := (blk_cell BK116.out 1).trans rfl; have hcz7_2 : w6.cell? ⟨gb116, 2, none⟩ = some (.int .i64 a0_2) := (blk_cell BK116.out 2).trans rfl; have hcz7_3 : w6.cell? ⟨gb116, 3, none⟩ = some (.string a0_3) := (blk_cell BK116.out 3).trans rfl; have hcz7_4 : w6.cell? ⟨gb116, 4, none⟩ = some (.slice A0_4 l0_4.length c0_4) := (blk_cell BK116.out 4).trans rfl; have hcz7_5 : w6.cell? ⟨gb116, 5, none⟩ = some (.slice A0_5 l0_5.length c0_5) := (blk_cell BK116.out 5).trans rfl; have hfz7_0 := blk_frozen BK116.out 0; have hfz7_1 := blk_frozen BK116.out 1; have hfz7_2 := blk_frozen BK116.out 2; have hfz7_3 := blk_frozen BK116.out 3; have hfz7_4 := blk_frozen BK116.out 4; have hfz7_5 := blk_frozen BK116.out 5))
      go_ret
      exact ⟨by first | rfl | (simp [errW_none, errW_some] <;> rfl) | (simp [*, errW_none, errW_some] <;> rfl), by repeat (first | (with_reducible first | exact HB.out | apply below_alloc | apply pw_below_drewN | apply below_drew1 | refine below_set ?_ GE116.out) | exact HB.out)⟩
    · rw [if_neg c5] at H
      have c5b0 : (a0_0 == 1) = false := beq_eq_false_iff_ne.mpr c5
      have c5b1 : (a0_0 != 1) = true := bne_iff_ne.mpr c5
      by_cases c8 : a0_0 = 2
      · rw [if_pos c8] at H
        have c8b0 : (a0_0 == 2) = true := beq_iff_eq.mpr c8
        have c8b1 : (a0_0 != 2) = false := bne_eq_false_iff_eq.mpr c8
        clear c8
        obtain rfl := Option.some.inj H
        go_enter Try.func12, Try.ntmps12
        go_wp2_with (first | ((with_reducible refine gate_dst (N := 1) rfl ?_); refine box_event ?hg (N := 1) ?hd (cs := #[.int .i64 a0_0, .bool a0_1, .int .i64 a0_2, .string a0_3, .slice A0_4 l0_4.length c0_4, .slice A0_5 l0_5.length c0_5]) (t := 25) ?hr ?_; (case hd => rfl); (case hg => rfl); (case hr => first | (go_simp; done) | (go_simp; rfl)); intro gb116 hg w9 hbox hb; have n0_ := Aside0.mk (below_step (by repeat (first | (with_reducible first | exact HB.out | apply below_alloc | apply pw_below_drewN | apply below_drew1) | exact HB.out)) hb); have n1_ := Aside0.mk (hbox); have n2_ := Aside0.mk ((by rw [hg]; exact (below_size (by repeat (first | (with_reducible first | exact HB.out | apply below_alloc | apply pw_below_drewN | apply below_drew1) | exact HB.out))) : w.heap.size ≤ gb116)); have n3_ := Aside0.mk ((by rw [hg]; exact (below_size (by repeat (first | (with_reducible first | exact HB.out | apply below_alloc | apply pw_below_drewN | apply below_drew1) | exact HB.out))) : w.heap.size ≤ gb116)); clear HB; have HB := n0_; have BK116 := n1_; have GW116 := n2_; have GE116 := n3_; clear n0_ n1_ n2_ n3_; clear hb hbox hg; have hcz10_0 : w9.cell? ⟨gb116, 0, none⟩ = some (.int .i64 a0_0) := (blk_cell BK116.out 0).trans rfl; have hcz10_1 : w9.cell? ⟨gb116, 1, none⟩ = some (.bool a0_1) := (blk_cell BK116.out 1).trans rfl; have hcz10_2 : w9.cell? ⟨gb116, 2, none⟩ = some (.int .i64 a0_2) := (blk_cell BK116.out 2).trans rfl; have hcz10_3 : w9.cell? ⟨gb116, 3, none⟩ = some (.string a0_3) := (blk_cell BK116.out 3).trans rfl; have hcz10_4 : w9.cell? ⟨gb116, 4, none⟩ = some (.slice A0_4 l0_4.length c0_4) := (blk_cell BK116.out 4).trans rfl; have hcz10_5 : w9.cell? ⟨gb116, 5, none⟩ = some (.slice A0_5 l0_5.length c0_5) := (blk_cell BK116.out 5).trans rfl; have hfz10_0 := blk_frozen BK116.out 0; have hfz10_1 := blk_frozen BK116.out 1; have hfz10_2 := blk_frozen BK116.out 2; have hfz10_3 := blk_frozen BK116.out 3; have hfz10_4 := blk_frozen BK116.out 4; have hfz10_5 := blk_frozen BK116.out 5))
        go_ret
        exact ⟨by first | rfl | (simp [errW_none, errW_some] <;> rfl) | (simp [*, errW_none, errW_some] <;> rfl), by repeat (first | (with_reducible first | exact HB.out | apply below_alloc | apply pw_below_drewN | apply below_drew1 | refine below_set ?_ GE116.out) | exact HB.out)⟩
      · rw [if_neg c8] at H
        have c8b0 : (a0_0 == 2) = false := beq_eq_false_iff_ne.mpr c8
        have c8b1 : (a0_0 != 2) = true := bne_iff_ne.mpr c8
        by_cases c11 : a0_0 = 3
        · rw [if_pos c11] at H
          have c11b0 : (a0_0 == 3) = true := beq_iff_eq.mpr c11
          have c11b1 : (a0_0 != 3) = false := bne_eq_false_iff_eq.mpr c11
          clear c11
          obtain rfl := Option.some.inj H
          go_enter Try.func12, Try.ntmps12
          go_wp2_with (first | ((with_reducible refine gate_dst (N := 1) rfl ?_); refine box_event ?hg (N := 1) ?hd (cs := #[.int .i64 a0_0, .bool a0_1, .int .i64 a0_2, .string a0_3, .slice A0_4 l0_4.length c0_4, .slice A0_5 l0_5.length c0_5]) (t := 25) ?hr ?_; (case hd => rfl); (case hg => rfl); (case hr => first | (go_simp; done) | (go_simp; rfl)); intro gb116 hg w12 hbox hb; have n0_ := Aside0.mk (below_step (by repeat (first | (with_reducible first | exact HB.out | apply below_alloc | apply pw_below_drewN | apply below_drew1) | exact HB.out)) hb); have n1_ := Aside0.mk (hbox); have n2_ := Aside0.mk ((by rw [hg]; exact (below_size (by repeat (first | (with_reducible first | exact HB.out | apply below_alloc | apply pw_below_drewN | apply below_drew1) | exact HB.out))) : w.heap.size ≤ gb116)); have n3_ := Aside0.mk ((by rw [hg]; exact (below_size (by repeat (first | (with_reducible first | exact HB.out | apply below_alloc | apply pw_below_drewN | apply below_drew1) | exact HB.out))) : w.heap.size ≤ gb116)); clear HB; have HB := n0_; have BK116 := n1_; have GW116 := n2_; have GE116 := n3_; clear n0_ n1_ n2_ n3_; clear hb hbox hg; have hcz13_0 : w12.cell? ⟨gb116, 0, none⟩ = some (.int .i64 a0_0) := (blk_cell BK116.out 0).trans rfl; have hcz13_1 : w12.cell? ⟨gb116, 1, none⟩ = some (.bool a0_1) := (blk_cell BK116.out 1).trans rfl; have hcz13_2 : w12.cell? ⟨gb116, 2, none⟩ = some (.int .i64 a0_2) := (blk_cell BK116.out 2).trans rfl; have hcz13_3 : w12.cell? ⟨gb116, 3, none⟩ = some (.string a0_3) := (blk_cell BK116.out 3).trans rfl; have hcz13_4 : w12.cell? ⟨gb116, 4, none⟩ = some (.slice A0_4 l0_4.length c0_4) := (blk_cell BK116.out 4).trans rfl; have hcz13_5 : w12.cell? ⟨gb116, 5, none⟩ = some (.slice A0_5 l0_5.length c0_5) := (blk_cell BK116.out 5).trans rfl; have hfz13_0 := blk_frozen BK116.out 0; have hfz13_1 := blk_frozen BK116.out 1; have hfz13_2 := blk_frozen BK116.out 2; have hfz13_3 := blk_frozen BK116.out 3; have hfz13_4 := blk_frozen BK116.out 4; have hfz13_5 := blk_frozen BK116.out 5))
          go_ret
          exact ⟨by first | rfl | (simp [errW_none, errW_some] <;> rfl) | (simp [*, errW_none, errW_some] <;> rfl), by repeat (first | (with_reducible first | exact HB.out | apply below_alloc | apply pw_below_drewN | apply below_drew1 | refine below_set ?_ GE116.out) | exact HB.out)⟩
        · rw [if_neg c11] at H
          have c11b0 : (a0_0 == 3) = false := beq_eq_false_iff_ne.mpr c11
          have c11b1 : (a0_0 != 3) = true := bne_iff_ne.mpr c11
          by_cases c14 : a0_0 = 4
          · rw [if_pos c14] at H
            have c14b0 : (a0_0 == 4) = true := beq_iff_eq.mpr c14
            have c14b1 : (a0_0 != 4) = false := bne_eq_false_iff_eq.mpr c14
            clear c14
            obtain rfl := Option.some.inj H
            go_enter Try.func12, Try.ntmps12
            go_wp2_with (first | ((with_reducible refine gate_dst (N := 1) rfl ?_); refine box_event ?hg (N := 1) ?hd (cs := #[.int .i64 a0_0, .bool a0_1, .int .i64 a0_2, .string a0_3, .slice A0_4 l0_4.length c0_4, .slice A0_5 l0_5.length c0_5]) (t := 25) ?hr ?_; (case hd => rfl); (case hg => rfl); (case hr => first | (go_simp; done) | (go_simp; rfl)); intro gb116 hg w15 hbox hb; have n0_ := Aside0.mk (below_step (by repeat (first | (with_reducible first | exact HB.out | apply below_alloc | apply pw_below_drewN | apply below_drew1) | exact HB.out)) hb); have n1_ := Aside0.mk (hbox); have n2_ := Aside0.mk ((by rw [hg]; exact (below_size (by repeat (first | (with_reducible first | exact HB.out | apply below_alloc | apply pw_below_drewN | apply below_drew1) | exact HB.out))) : w.heap.size ≤ gb116)); have n3_ := Aside0.mk ((by rw [hg]; exact (below_size (by repeat (first | (with_reducible first | exact HB.out | apply below_alloc | apply pw_below_drewN | apply below_drew1) | exact HB.out))) : w.heap.size ≤ gb116)); clear HB; have HB := n0_; have BK116 := n1_; have GW116 := n2_; have GE116 := n3_; clear n0_ n1_ n2_ n3_; clear hb hbox hg; have hcz16_0 : w15.cell? ⟨gb116, 0, none⟩ = some (.int .i64 a0_0) := (blk_cell BK116.out 0).trans rfl; have hcz16_1 : w15.cell? ⟨gb116, 1, none⟩ = some (.bool a0_1) := (blk_cell BK116.out 1).trans rfl; have hcz16_2 : w15.cell? ⟨gb116, 2, none⟩ = some (.int .i64 a0_2) := (blk_cell BK116.out 2).trans rfl; have hcz16_3 : w15.cell? ⟨gb116, 3, none⟩ = some (.string a0_3) := (blk_cell BK116.out 3).trans rfl; have hcz16_4 : w15.cell? ⟨gb116, 4, none⟩ = some (.slice A0_4 l0_4.length c0_4) := (blk_cell BK116.out 4).trans rfl; have hcz16_5 : w15.cell? ⟨gb116, 5, none⟩ = some (.slice A0_5 l0_5.length c0_5) := (blk_cell BK116.out 5).trans rfl; have hfz16_0 := blk_frozen BK116.out 0; have hfz16_1 := blk_frozen BK116.out 1; have hfz16_2 := blk_frozen BK116.out 2; have hfz16_3 := blk_frozen BK116.out 3; have hfz16_4 := blk_frozen BK116.out 4; have hfz16_5 := blk_frozen BK116.out 5))
            go_ret
            exact ⟨by first | rfl | (simp [errW_none, errW_some] <;> rfl) | (simp [*, errW_none, errW_some] <;> rfl), by repeat (first | (with_reducible first | exact HB.out | apply below_alloc | apply pw_below_drewN | apply below_drew1 | refine below_set ?_ GE116.out) | exact HB.out)⟩
          · rw [if_neg c14] at H
            have c14b0 : (a0_0 == 4) = false := beq_eq_false_iff_ne.mpr c14
            have c14b1 : (a0_0 != 4) = true := bne_iff_ne.mpr c14
            obtain rfl := Option.some.inj H
            go_enter Try.func12, Try.ntmps12
            go_wp2_with (first | ((with_reducible refine gate_dst (N := 1) rfl ?_); refine box_event ?hg (N := 1) ?hd (cs := #[.int .i64 a0_0, .bool a0_1, .int .i64 a0_2, .string a0_3, .slice A0_4 l0_4.length c0_4, .slice A0_5 l0_5.length c0_5]) (t := 25) ?hr ?_; (case hd => rfl); (case hg => rfl); (case hr => first | (go_simp; done) | (go_simp; rfl)); intro gb116 hg w17 hbox hb; have n0_ := Aside0.mk (below_step (by repeat (first | (with_reducible first | exact HB.out | apply below_alloc | apply pw_below_drewN | apply below_drew1) | exact HB.out)) hb); have n1_ := Aside0.mk (hbox); have n2_ := Aside0.mk ((by rw [hg]; exact (below_size (by repeat (first | (with_reducible first | exact HB.out | apply below_alloc | apply pw_below_drewN | apply below_drew1) | exact HB.out))) : w.heap.size ≤ gb116)); have n3_ := Aside0.mk ((by rw [hg]; exact (below_size (by repeat (first | (with_reducible first | exact HB.out | apply below_alloc | apply pw_below_drewN | apply below_drew1) | exact HB.out))) : w.heap.size ≤ gb116)); clear HB; have HB := n0_; have BK116 := n1_; have GW116 := n2_; have GE116 := n3_; clear n0_ n1_ n2_ n3_; clear hb hbox hg; have hcz18_0 : w17.cell? ⟨gb116, 0, none⟩ = some (.int .i64 a0_0) := (blk_cell BK116.out 0).trans rfl; have hcz18_1 : w17.cell? ⟨gb116, 1, none⟩ = some (.bool a0_1) := (blk_cell BK116.out 1).trans rfl; have hcz18_2 : w17.cell? ⟨gb116, 2, none⟩ = some (.int .i64 a0_2) := (blk_cell BK116.out 2).trans rfl; have hcz18_3 : w17.cell? ⟨gb116, 3, none⟩ = some (.string a0_3) := (blk_cell BK116.out 3).trans rfl; have hcz18_4 : w17.cell? ⟨gb116, 4, none⟩ = some (.slice A0_4 l0_4.length c0_4) := (blk_cell BK116.out 4).trans rfl; have hcz18_5 : w17.cell? ⟨gb116, 5, none⟩ = some (.slice A0_5 l0_5.length c0_5) := (blk_cell BK116.out 5).trans rfl; have hfz18_0 := blk_frozen BK116.out 0; have hfz18_1 := blk_frozen BK116.out 1; have hfz18_2 := blk_frozen BK116.out 2; have hfz18_3 := blk_frozen BK116.out 3; have hfz18_4 := blk_frozen BK116.out 4; have hfz18_5 := blk_frozen BK116.out 5))
            go_ret
            exact ⟨by first | rfl | (simp [errW_none, errW_some] <;> rfl) | (simp [*, errW_none, errW_some] <;> rfl), by repeat (first | (with_reducible first | exact HB.out | apply below_alloc | apply pw_below_drewN | apply below_drew1 | refine below_set ?_ GE116.out) | exact HB.out)⟩

/-! ### jsonschema_jsonType_String: function 25 -/
def jsonschema_jsonType_String.f (a0 : Int) : Option (ByteArray) := if a0 = 2 then (some (⟨#[110, 117, 108, 108]⟩ : ByteArray)) else (if a0 = 4 then (some (⟨#[98, 111, 111, 108, 101, 97, 110]⟩ : ByteArray)) else (if a0 = 8 then (some (⟨#[110, 117, 109, 98, 101, 114]⟩ : ByteArray)) else (if a0 = 16 then (some (⟨#[105, 110, 116, 101, 103, 101, 114]⟩ : ByteArray)) else (if a0 = 32 then (some (⟨#[115, 116, 114, 105, 110, 103]⟩ : ByteArray)) else (if a0 = 64 then (some (⟨#[97, 114, 114, 97, 121]⟩ : ByteArray)) else (if a0 = 128 then (some (⟨#[111, 98, 106, 101, 99, 116]⟩ : ByteArray)) else (some (⟨#[]⟩ : ByteArray))))))))
set_option maxHeartbeats 8000000 in
set_option maxRecDepth 100000 in
theorem jsonschema_jsonType_String.calls (a0 : Int) (r : ByteArray) (w : World) (h : jsonschema_jsonType_String.f a0 = some r) :
    Calls Try.prog 25 #[.int .i64 a0] w fun e w' => e = .returned (.string r) ∧ Drawn0 w w' := by
  have H : (if a0 = 2 then (some (⟨#[110, 117, 108, 108]⟩ : ByteArray)) else (if a0 = 4 then (some (⟨#[98, 111, 111, 108, 101, 97, 110]⟩ : ByteArray)) else (if a0 = 8 then (some (⟨#[110, 117, 109, 98, 101, 114]⟩ : ByteArray)) else (if a0 = 16 then (some (⟨#[105, 110, 116, 101, 103, 101, 114]⟩ : ByteArray)) else (if a0 = 32 then (some (⟨#[115, 116, 114, 105, 110, 103]⟩ : ByteArray)) else (if a0 = 64 then (some (⟨#[97, 114, 114, 97, 121]⟩ : ByteArray)) else (if a0 = 128 then (some (⟨#[111, 98, 106, 101, 99, 116]⟩ : ByteArray)) else (some (⟨#[]⟩ : ByteArray))))))))) = some r := h
  clear h
  by_cases c2 : a0 = 2
  · rw [if_pos c2] at H
    have c2b0 : (a0 == 2) = true := beq_iff_eq.mpr c2
    have c2b1 : (a0 != 2) = false := bne_eq_false_iff_eq.mpr c2
    clear c2
    obtain rfl := Option.some.inj H
    go_enter Try.func25, Try.ntmps25
    go_wp2
    go_ret
    exact ⟨by first | rfl | (simp; done) | (simp [*]; done), by repeat (first | exact Drawn0.refl _ | apply Drawn0.step)⟩
  · rw [if_neg c2] at H
    have c2b0 : (a0 == 2) = false := beq_eq_false_iff_ne.mpr c2
    have c2b1 : (a0 != 2) = true := bne_iff_ne.mpr c2
    by_cases c3 : a0 = 4
    · rw [if_pos c3] at H
      have c3b0 : (a0 == 4) = true := beq_iff_eq.mpr c3
      have c3b1 : (a0 != 4) = false := bne_eq_false_iff_eq.mpr c3
      clear c3
      obtain rfl := Option.some.inj H
      go_enter Try.func25, Try.ntmps25
      go_wp2
      go_ret
      exact ⟨by first | rfl | (simp; done) | (simp [*]; done), by repeat (first | exact Drawn0.refl _ | apply Drawn0.step)⟩
    · rw [if_neg c3] at H
      have c3b0 : (a0 == 4) = false := beq_eq_false_iff_ne.mpr c3
      have c3b1 : (a0 != 4) = true := bne_iff_ne.mpr c3
      by_cases c4 : a0 = 8
      · rw [if_pos c4] at H
        have c4b0 : (a0 == 8) = true := beq_iff_eq.mpr c4
        have c4b1 : (a0 != 8) = false := bne_eq_false_iff_eq.mpr c4
        clear c4
        obtain rfl := Option.some.inj H
        go_enter Try.func25, Try.ntmps25
        go_wp2
        go_ret
        exact ⟨by first | rfl | (simp; done) | (simp [*]; done), by repeat (first | exact Drawn0.refl _ | apply Drawn0.step)⟩
      · rw [if_neg c4] at H
        have c4b0 : (a0 == 8) = false := beq_eq_false_iff_ne.mpr c4
        have c4b1 : (a0 != 8) = true := bne_iff_ne.mpr c4
        by_cases c5 : a0 = 16
        · rw [if_pos c5] at H
          have c5b0 : (a0 == 16) = true := beq_iff_eq.mpr c5
          have c5b1 : (a0 != 16) = false := bne_eq_false_iff_eq.mpr c5
          clear c5
          obtain rfl := Option.some.inj H
          go_enter Try.func25, Try.ntmps25
          go_wp2
          go_ret
          exact ⟨by first | rfl | (simp; done) | (simp [*]; done), by repeat (first | exact Drawn0.refl _ | apply Drawn0.step)⟩
        · rw [if_neg c5] at H
          have c5b0 : (a0 == 16) = false := beq_eq_false_iff_ne.mpr c5
          have c5b1 : (a0 != 16) = true := bne_iff_ne.mpr c5
          by_cases c6 : a0 = 32
          · rw [if_pos c6] at H
            have c6b0 : (a0 == 32) = true := beq_iff_eq.mpr c6
            have c6b1 : (a0 != 32) = false := bne_eq_false_iff_eq.mpr c6
            clear c6
            obtain rfl := Option.some.inj H
            go_enter Try.func25, Try.ntmps25
            go_wp2
            go_ret
            exact ⟨by first | rfl | (simp; done) | (simp [*]; done), by repeat (first | exact Drawn0.refl _ | apply Drawn0.step)⟩
          · rw [if_neg c6] at H
            have c6b0 : (a0 == 32) = false := beq_eq_false_iff_ne.mpr c6
            have c6b1 : (a0 != 32) = true := bne_iff_ne.mpr c6
            by_cases c7 : a0 = 64
            · rw [if_pos c7] at H
              have c7b0 : (a0 == 64) = true := beq_iff_eq.mpr c7
              have c7b1 : (a0 != 64) = false := bne_eq_false_iff_eq.mpr c7
              clear c7
              obtain rfl := Option.some.inj H
              go_enter Try.func25, Try.ntmps25
              go_wp2
              go_ret
              exact ⟨by first | rfl | (simp; done) | (simp [*]; done), by repeat (first | exact Drawn0.refl _ | apply Drawn0.step)⟩
            · rw [if_neg c7] at H
              have c7b0 : (a0 == 64) = false := beq_eq_false_iff_ne.mpr c7
              have c7b1 : (a0 != 64) = true := bne_iff_ne.mpr c7
              by_cases c8 : a0 = 128
              · rw [if_pos c8] at H
                have c8b0 : (a0 == 128) = true := beq_iff_eq.mpr c8
                have c8b1 : (a0 != 128) = false := bne_eq_false_iff_eq.mpr c8
                clear c8
                obtain rfl := Option.some.inj H
                go_enter Try.func25, Try.ntmps25
                go_wp2
                go_ret
                exact ⟨by first | rfl | (simp; done) | (simp [*]; done), by repeat (first | exact Drawn0.refl _ | apply Drawn0.step)⟩
              · rw [if_neg c8] at H
                have c8b0 : (a0 == 128) = false := beq_eq_false_iff_ne.mpr c8
                have c8b1 : (a0 != 128) = true := bne_iff_ne.mpr c8
                obtain rfl := Option.some.inj H
                go_enter Try.func25, Try.ntmps25
                go_wp2
                go_ret
                exact ⟨by first | rfl | (simp; done) | (simp [*]; done), by repeat (first | exact Drawn0.refl _ | apply Drawn0.step)⟩

/-! ### laws_zzFits4: function 13 -/
def laws_zzFits4.l0 : Nat → List ByteArray → Int → Int → Option (Bool)
  | 0, _, _, _ => none
  | k + 1, x8, x9, x10 => if x10 < x9 then (if 0 ≤ x10 then (if x10 < (x8.length : Int) then (if ((rdOf ByteArray.empty x8 x10).size : Int) > 2147483647 then (some false) else (laws_zzFits4.l0 k x8 x9 (wrap64 (x10 + 1)))) else (none)) else (none)) else (some true)
def laws_zzFits4.f (k : Nat) (l0 : List ByteArray) : Option (Bool) := if (l0.length : Int) > 2147483647 then (some false) else (laws_zzFits4.l0 k l0 (l0.length : Int) 0)
theorem laws_zzFits4.mono_l : ∀ k, (∀ y0 y1 y2, LeO (laws_zzFits4.l0 k y0 y1 y2) (laws_zzFits4.l0 (k + 1) y0 y1 y2))
  | 0 => fun _ _ _ r h => by simp [laws_zzFits4.l0] at h
  | k + 1 => by
    have ih0 := laws_zzFits4.mono_l k
    · intro y0 y1 y2
      unfold laws_zzFits4.l0
      repeat' first
      | (with_reducible exact ih0 _ _ _)
      | (with_reducible exact LeO.refl _)
      | (with_reducible exact LeO.none _)
      | (with_reducible refine LeO.ite ?_ ?_)
      | (with_reducible refine LeO.bind ?_ (fun _ => ?_))
      | exact ih0 _ _ _
      | exact LeO.none _
      | refine LeO.ite ?_ ?_
      | refine LeO.bind ?_ (fun _ => ?_)
theorem laws_zzFits4.mono : ∀ a0 k, LeO (laws_zzFits4.f k a0) (laws_zzFits4.f (k + 1) a0) := by
  intro a0 k
  have ih0 := laws_zzFits4.mono_l k
  unfold laws_zzFits4.f
  repeat' first
      | (with_reducible exact ih0 _ _ _)
      | (with_reducible exact LeO.refl _)
      | (with_reducible exact LeO.none _)
      | (with_reducible refine LeO.ite ?_ ?_)
      | (with_reducible refine LeO.bind ?_ (fun _ => ?_))
      | exact ih0 _ _ _
      | exact LeO.none _
      | refine LeO.ite ?_ ?_
      | refine LeO.bind ?_ (fun _ => ?_)
set_option maxHeartbeats 8000000 in
set_option maxRecDepth 100000 in
theorem laws_zzFits4.calls (k : Nat) (A0 : Option Addr) (c0 : Nat) (l0 : List ByteArray) (r : Bool) (w : World) (hr0 : Kd.C Kd.string w A0 l0.length l0) (hc0 : l0.length ≤ c0) (h : laws_zzFits4.f k l0 = some r) :
    Calls Try.prog 13 #[.slice A0 l0.length c0] w fun e w' => e = .returned (.bool r) ∧ Drawn0 w w' := by
  have HR0 := Aside0.mk hr0
  have HC0 := Aside0.mk hc0
  clear hr0 hc0
  have H : (if (l0.length : Int) > 2147483647 then (some false) else (laws_zzFits4.l0 k l0 (l0.length : Int) 0)) = some r := h
  clear h
  by_cases c2 : (l0.length : Int) > 2147483647
  · rw [if_pos c2] at H
    have c2b0 : decide (2147483647 < (l0.length : Int)) = true := decide_eq_true c2
    have c2b1 : decide (2147483647 < l0.length) = true := decide_eq_true (by omega)
    clear c2
    obtain rfl := Option.some.inj H
    go_enter Try.func13, Try.ntmps13
    go_wp2
    go_ret
    exact ⟨by first | rfl | (simp; done) | (simp [*]; done), by repeat (first | exact Drawn0.refl _ | apply Drawn0.step)⟩
  · rw [if_neg c2] at H
    have c2b0 : decide (2147483647 < (l0.length : Int)) = false := decide_eq_false c2
    have c2b1 : decide (2147483647 < l0.length) = false := decide_eq_false (by omega)
    clear c2
    have H' := Aside0.mk H
    clear H
    go_enter Try.func13, Try.ntmps13
    go_wp2
    go_loopg [10] k (fun kq v10 w' => ∃ (x10_1 : Int), v10 = .int .i64 x10_1 ∧ Aside0 (laws_zzFits4.l0 kq l0 (l0.length : Int) x10_1 = some r) ∧ Aside0 (kq ≤ k) ∧ Drawn0 w w')
    case atStart => exact ⟨(0), (by first | rfl | (simp; done) | (simp [*]; done)), H', ⟨Nat.le_refl _⟩, by repeat (first | exact Drawn0.refl _ | apply Drawn0.step)⟩
    case round =>
      clear H'
      try clear c1
      try clear c2
      try clear c2b0
      try clear c2b1
      try clear p2
      obtain ⟨x10_1, rfl, HA, HK1, ⟨m1, rfl⟩⟩ := hrel
      cases gk with
      | zero => exact absurd HA.out (by simp [laws_zzFits4.l0])
      | succ k1 =>
        have H := HA.out
        clear HA
        simp only [laws_zzFits4.l0] at H
        by_cases c3 : x10_1 < (l0.length : Int)
        · rw [if_pos c3] at H
          have c3b0 : decide (x10_1 < (l0.length : Int)) = true := decide_eq_true c3
          clear c3
          by_cases c4 : 0 ≤ x10_1
          · rw [if_pos c4] at H
            have c4b0 : decide (0 ≤ x10_1) = true := decide_eq_true c4
            clear c4
            by_cases c5 : x10_1 < (l0.length : Int)
            · rw [if_pos c5] at H
              have c5b0 : decide (x10_1 < (l0.length : Int)) = true := decide_eq_true c5
              clear c5
              by_cases c6 : ((rdOf ByteArray.empty l0 x10_1).size : Int) > 2147483647
              · rw [if_pos c6] at H
                have c6b0 : decide (2147483647 < ((rdOf ByteArray.empty l0 x10_1).size : Int)) = true := decide_eq_true c6
                have c6b1 : decide (2147483647 < (rdOf ByteArray.empty l0 x10_1).size) = true := decide_eq_true (by omega)
                clear c6
                obtain rfl := Option.some.inj H
                have p117 : 0 ≤ (x10_1 : Int) := of_decide_eq_true (by first | (with_reducible assumption) | assumption)
                have q117 : x10_1 < (l0.length : Int) := of_decide_eq_true (by first | (with_reducible assumption) | assumption)
                obtain ⟨ad117, e117, hx117_0⟩ := Kd.at_string HR0.out x10_1 p117 q117
                cases e117
                replace p117 := eq_true p117
                replace q117 := eq_true q117
                go_wp2
                go_ret
                exact ⟨by first | rfl | (simp; done) | (simp [*]; done), by repeat (first | exact Drawn0.refl _ | apply Drawn0.step)⟩
              · rw [if_neg c6] at H
                have c6b0 : decide (2147483647 < ((rdOf ByteArray.empty l0 x10_1).size : Int)) = false := decide_eq_false c6
                have c6b1 : decide (2147483647 < (rdOf ByteArray.empty l0 x10_1).size) = false := decide_eq_false (by omega)
                clear c6
                have H' := Aside0.mk H
                clear H
                have p117 : 0 ≤ (x10_1 : Int) := of_decide_eq_true (by first | (with_reducible assumption) | assumption)
                have q117 : x10_1 < (l0.length : Int) := of_decide_eq_true (by first | (with_reducible assumption) | assumption)
                obtain ⟨ad117, e117, hx117_0⟩ := Kd.at_string HR0.out x10_1 p117 q117
                cases e117
                replace p117 := eq_true p117
                replace q117 := eq_true q117
                go_wp2
                go_roundg k1
                case measure => have := HK1.out; omega
                case rel => exact ⟨(wrap64 (x10_1 + 1)), (by first | rfl | (simp; done) | (simp [*]; done)), H', ⟨by have := HK1.out; omega⟩, by repeat (first | exact Drawn0.refl _ | apply Drawn0.step)⟩
            · rw [if_neg c5] at H
              exact absurd H (by simp)
          · rw [if_neg c4] at H
            exact absurd H (by simp)
        · rw [if_neg c3] at H
          have c3b0 : decide (x10_1 < (l0.length : Int)) = false := decide_eq_false c3
          clear c3
          obtain rfl := Option.some.inj H
          go_wp2
          go_ret
          exact ⟨by first | rfl | (simp; done) | (simp [*]; done), by repeat (first | exact Drawn0.refl _ | apply Drawn0.step)⟩

end Go.Proofs.Ytdleegmdpgefmaa.PJ
