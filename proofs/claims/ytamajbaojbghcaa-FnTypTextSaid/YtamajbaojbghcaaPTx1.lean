-- PRINTED by print.py (a twelfth state) out of the translation. Not trusted: Lean checks it.
import Derived.Test.YtamajbaojbghcaaPTx0
namespace Go.Proofs.Ytamajbaojbghcaa.PT
open Go.RowKit Go.Proofs.YtamajbaojbghcaaW.PrintWords Go.Proofs.YtamajbaojbghcaaW.PrintLast Go.Proofs.YtamajbaojbghcaaW.PrintMore
attribute [local go_sem] max2_int min2_int max_two min_two max_three min_three max_four min_four   -- for this text's walks alone
set_option linter.unusedVariables false
set_option linter.unusedSimpArgs false

/-! ### spec_Fits: function 14 -/
def spec_Fits.f : Nat → ByteArray → List (S24) → Bool → ByteArray → List (S24) → Bool → Option (Bool)
  | 0, _, _, _, _, _, _ => none
  | k + 1, a0_0, l0_1, a0_2, a1_0, l1_1, a1_2 => if a1_2 = true then (if a0_2 = true then ((spec_Fits.f k a0_0 l0_1 false a1_0 l1_1 false).bind fun t103 => (some t103)) else (some false)) else (if a0_2 = true then ((spec_Fits.f k a0_0 l0_1 false a1_0 l1_1 a1_2).bind fun t104 => (some t104)) else (if (l0_1.length : Int) = 0 then (if (wrap64 ((l0_1.length : Int) + (l1_1.length : Int))) = 0 then (some (a0_0.toList == a1_0.toList)) else (some false)) else (if (l1_1.length : Int) = 0 then (if (wrap64 ((l0_1.length : Int) + (l1_1.length : Int))) = 0 then (some (a0_0.toList == a1_0.toList)) else (some false)) else (if 0 < (l0_1.length : Int) then (if 0 < (l1_1.length : Int) then ((spec_Fits.f k ((rd_T24 l0_1 0).f0) ((rd_T24 l0_1 0).f1) ((rd_T24 l0_1 0).f2) ((rd_T24 l1_1 0).f0) ((rd_T24 l1_1 0).f1) ((rd_T24 l1_1 0).f2)).bind fun t107 => (some t107)) else (none)) else (none)))))
theorem spec_Fits.mono_l : ∀ k, (∀ y0 y1 y2 y3 y4 y5, LeO (spec_Fits.f k y0 y1 y2 y3 y4 y5) (spec_Fits.f (k + 1) y0 y1 y2 y3 y4 y5))
  | 0 => fun _ _ _ _ _ _ r h => by simp [spec_Fits.f] at h
  | k + 1 => by
    have ih0 := spec_Fits.mono_l k
    · intro y0 y1 y2 y3 y4 y5
      unfold spec_Fits.f
      repeat' first
      | (with_reducible exact ih0 _ _ _ _ _ _)
      | (with_reducible exact LeO.refl _)
      | (with_reducible exact LeO.none _)
      | (with_reducible refine LeO.ite ?_ ?_)
      | (with_reducible refine LeO.bind ?_ (fun _ => ?_))
      | exact ih0 _ _ _ _ _ _
      | exact LeO.none _
      | refine LeO.ite ?_ ?_
      | refine LeO.bind ?_ (fun _ => ?_)
theorem spec_Fits.mono : ∀ a0 a1 a2 a3 a4 a5 k, LeO (spec_Fits.f k a0 a1 a2 a3 a4 a5) (spec_Fits.f (k + 1) a0 a1 a2 a3 a4 a5) := by
  intro a0 a1 a2 a3 a4 a5 k
  have ih0 := spec_Fits.mono_l k
  exact ih0 a0 a1 a2 a3 a4 a5
def spec_Fits.T11 : Bool × List (List Nat × List Nat) := (true, [([], []), ([0], [0]), ([1], [1]), ([2], [2]), ([], []), ([4], [4]), ([5], [5]), ([6], [6]), ([3, 7], [3, 7]), ([8, 8, 0, 1, 2, 3, 4, 5, 6, 7, 8], [8])])
def spec_Fits.B11 : List Nat := [0, 1, 3, 7, 0, 16, 48, 112, 255, 511]
theorem spec_Fits.tab11 : rtab .any (opsOf Try.f14 11) = spec_Fits.T11 := by kernel_rfl
theorem spec_Fits.bits11 : waitsOk spec_Fits.T11.2 spec_Fits.B11 = true := by kernel_rfl
set_option maxHeartbeats 8000000 in
set_option maxRecDepth 100000 in
theorem spec_Fits.calls (k : Nat) : ∀ (a0_0 : ByteArray) (A0_1 : Option Addr) (c0_1 : Nat) (l0_1 : List (S24)) (a0_2 : Bool) (a1_0 : ByteArray) (A1_1 : Option Addr) (c1_1 : Nat) (l1_1 : List (S24)) (a1_2 : Bool) (r : Bool) (w : World) (hr0_1 : Kd.C k24 w A0_1 l0_1.length l0_1) (hc0_1 : l0_1.length ≤ c0_1) (hr1_1 : Kd.C k24 w A1_1 l1_1.length l1_1) (hc1_1 : l1_1.length ≤ c1_1) (h : spec_Fits.f k a0_0 l0_1 a0_2 a1_0 l1_1 a1_2 = some r),
    Calls Try.prog 14 #[.agg #[.string a0_0, .slice A0_1 l0_1.length c0_1, .bool a0_2], .agg #[.string a1_0, .slice A1_1 l1_1.length c1_1, .bool a1_2]] w fun e w' => e = .returned (.bool r) ∧ Below w.heap.size w w' := by
  induction k using Nat.strongRecOn with
  | _ k ih =>
  intro a0_0 A0_1 c0_1 l0_1 a0_2 a1_0 A1_1 c1_1 l1_1 a1_2 r w hr0_1 hc0_1 hr1_1 hc1_1 h
  cases k with
  | zero => exact absurd h (by simp [spec_Fits.f])
  | succ k =>
  simp only [spec_Fits.f] at h
  have hu24 := Try.underlying24
  have HR0_1 := Aside0.mk hr0_1
  have HC0_1 := Aside0.mk hc0_1
  clear hr0_1 hc0_1
  have HR1_1 := Aside0.mk hr1_1
  have HC1_1 := Aside0.mk hc1_1
  clear hr1_1 hc1_1
  have HB := Aside0.mk (Below.refl w.heap.size w)
  have H : (if a1_2 = true then (if a0_2 = true then ((spec_Fits.f k a0_0 l0_1 false a1_0 l1_1 false).bind fun t103 => (some t103)) else (some false)) else (if a0_2 = true then ((spec_Fits.f k a0_0 l0_1 false a1_0 l1_1 a1_2).bind fun t104 => (some t104)) else (if (l0_1.length : Int) = 0 then (if (wrap64 ((l0_1.length : Int) + (l1_1.length : Int))) = 0 then (some (a0_0.toList == a1_0.toList)) else (some false)) else (if (l1_1.length : Int) = 0 then (if (wrap64 ((l0_1.length : Int) + (l1_1.length : Int))) = 0 then (some (a0_0.toList == a1_0.toList)) else (some false)) else (if 0 < (l0_1.length : Int) then (if 0 < (l1_1.length : Int) then ((spec_Fits.f k ((rd_T24 l0_1 0).f0) ((rd_T24 l0_1 0).f1) ((rd_T24 l0_1 0).f2) ((rd_T24 l1_1 0).f0) ((rd_T24 l1_1 0).f1) ((rd_T24 l1_1 0).f2)).bind fun t107 => (some t107)) else (none)) else (none)))))) = some r := h
  clear h
  by_cases c3 : a1_2 = true
  · subst c3
    have H1 : (if a0_2 = true then ((spec_Fits.f k a0_0 l0_1 false a1_0 l1_1 false).bind fun t103 => (some t103)) else (some false)) = some r := by rw [if_pos rfl] at H; exact H
    clear H
    have H := H1
    clear H1
    by_cases c4 : a0_2 = true
    · subst c4
      have H1 : ((spec_Fits.f k a0_0 l0_1 false a1_0 l1_1 false).bind fun t103 => (some t103)) = some r := by rw [if_pos rfl] at H; exact H
      clear H
      have H := H1
      clear H1
      replace H := Option.bind_eq_some_iff.mp H
      obtain ⟨t103, A50, H⟩ := H
      replace H : (some t103) = some r := H
      have A5 := Aside0.mk A50
      clear A50
      obtain rfl := Option.some.inj H
      go_enter Try.func14, Try.ntmps14
      go_wp2_with (first | ((with_reducible refine gate_dst (N := 2) rfl ?_); (try (refine gate_guard (by rfl) ?_; dsimp only)); refine box_event ?hg (N := 2) ?hd (cs := #[.string a0_0, .slice A0_1 l0_1.length c0_1, .bool true]) (t := 24) ?hr ?_; (case hd => rfl); (case hg => rfl); (case hr => first | (go_simp; done) | (go_simp; rfl)); intro gb101 hg w6 hbox hb; have n0_ := Aside0.mk (below_step (by repeat (first | (with_reducible first | exact HB.out | apply below_alloc | apply pw_below_drewN | apply below_drew1) | exact HB.out)) hb); have n1_ := Aside0.mk (hbox); have n2_ := Aside0.mk ((by rw [hg]; exact (below_size (by repeat (first | (with_reducible first | exact HB.out | apply below_alloc | apply pw_below_drewN | apply below_drew1) | exact HB.out))) : w.heap.size ≤ gb101)); have n3_ := Aside0.mk ((by rw [hg]; exact (below_size (by repeat (first | (with_reducible first | exact HB.out | apply below_alloc | apply pw_below_drewN | apply below_drew1) | exact HB.out))) : w.heap.size ≤ gb101)); clear HB; have HB := n0_; have BK101 := n1_; have GW101 := n2_; have GE101 := n3_; clear n0_ n1_ n2_ n3_; clear hb hbox hg) | ((with_reducible refine gate_dst (N := 3) rfl ?_); (try (refine gate_guard (by rfl) ?_; dsimp only)); refine box_event ?hg (N := 3) ?hd (cs := #[.string a1_0, .slice A1_1 l1_1.length c1_1, .bool true]) (t := 24) ?hr ?_; (case hd => rfl); (case hg => rfl); (case hr => first | (go_simp; done) | (go_simp; rfl)); intro gb102 hg w7 hbox hb; have n0_ := Aside0.mk (blk_below (g := gb101) (o := .cells #[.string a0_0, .slice A0_1 l0_1.length c0_1, .bool true] 24 (0, 0)) (by (with_reducible repeat (first | refine blk_drewN ?_ _ | refine blk_drew ?_ | refine blk_alloc ?_ _)); exact BK101.out) hb); have n1_ := Aside0.mk (below_step (by repeat (first | (with_reducible first | exact HB.out | apply below_alloc | apply pw_below_drewN | apply below_drew1 | refine below_set ?_ GE101.out) | exact HB.out)) hb); have n2_ := Aside0.mk (hbox); have n3_ := Aside0.mk ((by rw [hg]; exact (below_size (by repeat (first | (with_reducible first | exact HB.out | apply below_alloc | apply pw_below_drewN | apply below_drew1 | refine below_set ?_ GE101.out) | exact HB.out))) : w.heap.size ≤ gb102)); have n4_ := Aside0.mk ((by rw [hg]; exact (below_size (by repeat (first | (with_reducible first | exact HB.out | apply below_alloc | apply pw_below_drewN | apply below_drew1 | refine below_set ?_ GE101.out) | exact HB.out))) : w.heap.size ≤ gb102)); have n5_ := Aside0.mk ((by rw [hg]; exact Nat.ne_of_lt (blk_lt (g := gb101) (o := .cells #[.string a0_0, .slice A0_1 l0_1.length c0_1, .bool true] 24 (0, 0)) (by (with_reducible repeat (first | refine blk_drewN ?_ _ | refine blk_drew ?_ | refine blk_alloc ?_ _)); exact BK101.out)) : gb101 ≠ gb102)); have n6_ := Aside0.mk ((by rw [hg]; exact Nat.ne_of_gt (blk_lt (g := gb101) (o := .cells #[.string a0_0, .slice A0_1 l0_1.length c0_1, .bool true] 24 (0, 0)) (by (with_reducible repeat (first | refine blk_drewN ?_ _ | refine blk_drew ?_ | refine blk_alloc ?_ _)); exact BK101.out)) : gb102 ≠ gb101)); clear BK101; clear HB; have BK101 := n0_; have HB := n1_; have BK102 := n2_; have GW102 := n3_; have GE102 := n4_; have NB101_102 := n5_; have NB102_101 := n6_; clear n0_ n1_ n2_ n3_ n4_ n5_ n6_; clear hb hbox hg; have hnb8 := NB102_101.out; have hnc8 := NB101_102.out; have hcz9_0 : w7.cell? ⟨gb102, 0, none⟩ = some (.string a1_0) := (blk_cell BK102.out 0).trans rfl; have hcz9_1 : w7.cell? ⟨gb102, 1, none⟩ = some (.slice A1_1 l1_1.length c1_1) := (blk_cell BK102.out 1).trans rfl; have hcz9_2 : w7.cell? ⟨gb102, 2, none⟩ = some (.bool true) := (blk_cell BK102.out 2).trans rfl; have hfz9_0 := blk_frozen BK102.out 0; have hfz9_1 := blk_frozen BK102.out 1; have hfz9_2 := blk_frozen BK102.out 2; have hcz10_0 : w7.cell? ⟨gb101, 0, none⟩ = some (.string a0_0) := (blk_cell BK101.out 0).trans rfl; have hcz10_1 : w7.cell? ⟨gb101, 1, none⟩ = some (.slice A0_1 l0_1.length c0_1) := (blk_cell BK101.out 1).trans rfl; have hcz10_2 : w7.cell? ⟨gb101, 2, none⟩ = some (.bool true) := (blk_cell BK101.out 2).trans rfl; have hfz10_0 := blk_frozen BK101.out 0; have hfz10_1 := blk_frozen BK101.out 1; have hfz10_2 := blk_frozen BK101.out 2) | ((with_reducible refine gate_callee (f := 14) rfl ?_); refine goesL_ (some 14) rfl rfl Try.func14 (by kernel_rfl) rfl #[.agg #[.string a0_0, .slice A0_1 l0_1.length c0_1, .bool false], .agg #[.string a1_0, .slice A1_1 l1_1.length c1_1, .bool false]] rfl (by (try simp only [List.map_toArray, List.map_cons, List.map_nil]); first | done | rfl | (simp only [List.length_drop, List.length_take]; rfl)) ?_; (with_reducible refine (ih k (by omega) a0_0 _ _ l0_1 false a1_0 _ _ l1_1 false t103 _ ?side1 ?side2 ?side3 ?side4 A5.out).mono ?_); (case side1 => exact Kd.C_below HR0_1.out (by repeat (first | (with_reducible first | exact HB.out | apply below_alloc | apply pw_below_drewN | apply below_drew1 | refine below_set ?_ GE101.out | refine below_set ?_ GE102.out) | exact HB.out))); (case side2 => exact HC0_1.out); (case side3 => exact Kd.C_below HR1_1.out (by repeat (first | (with_reducible first | exact HB.out | apply below_alloc | apply pw_below_drewN | apply below_drew1 | refine below_set ?_ GE101.out | refine below_set ?_ GE102.out) | exact HB.out))); (case side4 => exact HC1_1.out); rintro e w11 ⟨rfl, hb⟩; refine ⟨_, rfl, ?_⟩; have n0_ := Aside0.mk (blk_below (g := gb101) (o := .cells #[.string a0_0, .slice A0_1 l0_1.length c0_1, .bool false] 24 (0, 0)) (by (with_reducible repeat (first | refine blk_drewN ?_ _ | refine blk_drew ?_ | refine blk_alloc ?_ _)); refine blk_far ?_ NB101_102.out _; (with_reducible repeat (first | refine blk_drewN ?_ _ | refine blk_drew ?_ | refine blk_alloc ?_ _)); refine blk_put (cs := #[.string a0_0, .slice A0_1 l0_1.length c0_1, .bool true]) ?_ 2 _ rfl; (with_reducible repeat (first | refine blk_drewN ?_ _ | refine blk_drew ?_ | refine blk_alloc ?_ _)); exact BK101.out) hb); have n1_ := Aside0.mk (blk_below (g := gb102) (o := .cells #[.string a1_0, .slice A1_1 l1_1.length c1_1, .bool false] 24 (0, 0)) (by (with_reducible repeat (first | refine blk_drewN ?_ _ | refine blk_drew ?_ | refine blk_alloc ?_ _)); refine blk_put (cs := #[.string a1_0, .slice A1_1 l1_1.length c1_1, .bool true]) ?_ 2 _ rfl; (with_reducible repeat (first | refine blk_drewN ?_ _ | refine blk_drew ?_ | refine blk_alloc ?_ _)); refine blk_far ?_ NB102_101.out _; (with_reducible repeat (first | refine blk_drewN ?_ _ | refine blk_drew ?_ | refine blk_alloc ?_ _)); exact BK102.out) hb); have n2_ := Aside0.mk (below_step (by repeat (first | (with_reducible first | exact HB.out | apply below_alloc | apply pw_below_drewN | apply below_drew1 | refine below_set ?_ GE101.out | refine below_set ?_ GE102.out) | exact HB.out)) hb); clear BK101; clear BK102; clear HB; have BK101 := n0_; have BK102 := n1_; have HB := n2_; clear n0_ n1_ n2_; (try clear hb); (try clear hb2); (try clear hk); (try clear hi)))
      go_ret
      exact ⟨by first | rfl | (simp [errW_none, errW_some] <;> rfl) | (simp [*, errW_none, errW_some] <;> rfl), by repeat (first | (with_reducible first | exact HB.out | apply below_alloc | apply pw_below_drewN | apply below_drew1 | refine below_set ?_ GE101.out | refine below_set ?_ GE102.out) | exact HB.out)⟩
    · replace c4 := Bool.eq_false_iff.mpr c4
      subst c4
      have H1 : (some false) = some r := by rw [if_neg (show ¬ (false = true) by decide)] at H; exact H
      clear H
      have H := H1
      clear H1
      obtain rfl := Option.some.inj H
      go_enter Try.func14, Try.ntmps14
      go_wp2_with (first | ((with_reducible refine gate_dst (N := 2) rfl ?_); (try (refine gate_guard (by rfl) ?_; dsimp only)); refine box_event ?hg (N := 2) ?hd (cs := #[.string a0_0, .slice A0_1 l0_1.length c0_1, .bool false]) (t := 24) ?hr ?_; (case hd => rfl); (case hg => rfl); (case hr => first | (go_simp; done) | (go_simp; rfl)); intro gb101 hg w12 hbox hb; have n0_ := Aside0.mk (below_step (by repeat (first | (with_reducible first | exact HB.out | apply below_alloc | apply pw_below_drewN | apply below_drew1) | exact HB.out)) hb); have n1_ := Aside0.mk (hbox); have n2_ := Aside0.mk ((by rw [hg]; exact (below_size (by repeat (first | (with_reducible first | exact HB.out | apply below_alloc | apply pw_below_drewN | apply below_drew1) | exact HB.out))) : w.heap.size ≤ gb101)); have n3_ := Aside0.mk ((by rw [hg]; exact (below_size (by repeat (first | (with_reducible first | exact HB.out | apply below_alloc | apply pw_below_drewN | apply below_drew1) | exact HB.out))) : w.heap.size ≤ gb101)); clear HB; have HB := n0_; have BK101 := n1_; have GW101 := n2_; have GE101 := n3_; clear n0_ n1_ n2_ n3_; clear hb hbox hg) | ((with_reducible refine gate_dst (N := 3) rfl ?_); (try (refine gate_guard (by rfl) ?_; dsimp only)); refine box_event ?hg (N := 3) ?hd (cs := #[.string a1_0, .slice A1_1 l1_1.length c1_1, .bool true]) (t := 24) ?hr ?_; (case hd => rfl); (case hg => rfl); (case hr => first | (go_simp; done) | (go_simp; rfl)); intro gb102 hg w13 hbox hb; have n0_ := Aside0.mk (blk_below (g := gb101) (o := .cells #[.string a0_0, .slice A0_1 l0_1.length c0_1, .bool false] 24 (0, 0)) (by (with_reducible repeat (first | refine blk_drewN ?_ _ | refine blk_drew ?_ | refine blk_alloc ?_ _)); exact BK101.out) hb); have n1_ := Aside0.mk (below_step (by repeat (first | (with_reducible first | exact HB.out | apply below_alloc | apply pw_below_drewN | apply below_drew1 | refine below_set ?_ GE101.out) | exact HB.out)) hb); have n2_ := Aside0.mk (hbox); have n3_ := Aside0.mk ((by rw [hg]; exact (below_size (by repeat (first | (with_reducible first | exact HB.out | apply below_alloc | apply pw_below_drewN | apply below_drew1 | refine below_set ?_ GE101.out) | exact HB.out))) : w.heap.size ≤ gb102)); have n4_ := Aside0.mk ((by rw [hg]; exact (below_size (by repeat (first | (with_reducible first | exact HB.out | apply below_alloc | apply pw_below_drewN | apply below_drew1 | refine below_set ?_ GE101.out) | exact HB.out))) : w.heap.size ≤ gb102)); have n5_ := Aside0.mk ((by rw [hg]; exact Nat.ne_of_lt (blk_lt (g := gb101) (o := .cells #[.string a0_0, .slice A0_1 l0_1.length c0_1, .bool false] 24 (0, 0)) (by (with_reducible repeat (first | refine blk_drewN ?_ _ | refine blk_drew ?_ | refine blk_alloc ?_ _)); exact BK101.out)) : gb101 ≠ gb102)); have n6_ := Aside0.mk ((by rw [hg]; exact Nat.ne_of_gt (blk_lt (g := gb101) (o := .cells #[.string a0_0, .slice A0_1 l0_1.length c0_1, .bool false] 24 (0, 0)) (by (with_reducible repeat (first | refine blk_drewN ?_ _ | refine blk_drew ?_ | refine blk_alloc ?_ _)); exact BK101.out)) : gb102 ≠ gb101)); clear BK101; clear HB; have BK101 := n0_; have HB := n1_; have BK102 := n2_; have GW102 := n3_; have GE102 := n4_; have NB101_102 := n5_; have NB102_101 := n6_; clear n0_ n1_ n2_ n3_ n4_ n5_ n6_; clear hb hbox hg; have hnb14 := NB102_101.out; have hnc14 := NB101_102.out; have hcz15_0 : w13.cell? ⟨gb102, 0, none⟩ = some (.string a1_0) := (blk_cell BK102.out 0).trans rfl; have hcz15_1 : w13.cell? ⟨gb102, 1, none⟩ = some (.slice A1_1 l1_1.length c1_1) := (blk_cell BK102.out 1).trans rfl; have hcz15_2 : w13.cell? ⟨gb102, 2, none⟩ = some (.bool true) := (blk_cell BK102.out 2).trans rfl; have hfz15_0 := blk_frozen BK102.out 0; have hfz15_1 := blk_frozen BK102.out 1; have hfz15_2 := blk_frozen BK102.out 2; have hcz16_0 : w13.cell? ⟨gb101, 0, none⟩ = some (.string a0_0) := (blk_cell BK101.out 0).trans rfl; have hcz16_1 : w13.cell? ⟨gb101, 1, none⟩ = some (.slice A0_1 l0_1.length c0_1) := (blk_cell BK101.out 1).trans rfl; have hcz16_2 : w13.cell? ⟨gb101, 2, none⟩ = some (.bool false) := (blk_cell BK101.out 2).trans rfl; have hfz16_0 := blk_frozen BK101.out 0; have hfz16_1 := blk_frozen BK101.out 1; have hfz16_2 := blk_frozen BK101.out 2))
      go_ret
      exact ⟨by first | rfl | (simp [errW_none, errW_some] <;> rfl) | (simp [*, errW_none, errW_some] <;> rfl), by repeat (first | (with_reducible first | exact HB.out | apply below_alloc | apply pw_below_drewN | apply below_drew1 | refine below_set ?_ GE101.out | refine below_set ?_ GE102.out) | exact HB.out)⟩
  · replace c3 := Bool.eq_false_iff.mpr c3
    subst c3
    have H1 : (if a0_2 = true then ((spec_Fits.f k a0_0 l0_1 false a1_0 l1_1 false).bind fun t104 => (some t104)) else (if (l0_1.length : Int) = 0 then (if (wrap64 ((l0_1.length : Int) + (l1_1.length : Int))) = 0 then (some (a0_0.toList == a1_0.toList)) else (some false)) else (if (l1_1.length : Int) = 0 then (if (wrap64 ((l0_1.length : Int) + (l1_1.length : Int))) = 0 then (some (a0_0.toList == a1_0.toList)) else (some false)) else (if 0 < (l0_1.length : Int) then (if 0 < (l1_1.length : Int) then ((spec_Fits.f k ((rd_T24 l0_1 0).f0) ((rd_T24 l0_1 0).f1) ((rd_T24 l0_1 0).f2) ((rd_T24 l1_1 0).f0) ((rd_T24 l1_1 0).f1) ((rd_T24 l1_1 0).f2)).bind fun t107 => (some t107)) else (none)) else (none))))) = some r := by rw [if_neg (show ¬ (false = true) by decide)] at H; exact H
    clear H
    have H := H1
    clear H1
    by_cases c17 : a0_2 = true
    · subst c17
      have H1 : ((spec_Fits.f k a0_0 l0_1 false a1_0 l1_1 false).bind fun t104 => (some t104)) = some r := by rw [if_pos rfl] at H; exact H
      clear H
      have H := H1
      clear H1
      replace H := Option.bind_eq_some_iff.mp H
      obtain ⟨t104, A180, H⟩ := H
      replace H : (some t104) = some r := H
      have A18 := Aside0.mk A180
      clear A180
      obtain rfl := Option.some.inj H
      go_enter Try.func14, Try.ntmps14
      go_wp2_with (first | ((with_reducible refine gate_dst (N := 2) rfl ?_); (try (refine gate_guard (by rfl) ?_; dsimp only)); refine box_event ?hg (N := 2) ?hd (cs := #[.string a0_0, .slice A0_1 l0_1.length c0_1, .bool true]) (t := 24) ?hr ?_; (case hd => rfl); (case hg => rfl); (case hr => first | (go_simp; done) | (go_simp; rfl)); intro gb101 hg w19 hbox hb; have n0_ := Aside0.mk (below_step (by repeat (first | (with_reducible first | exact HB.out | apply below_alloc | apply pw_below_drewN | apply below_drew1) | exact HB.out)) hb); have n1_ := Aside0.mk (hbox); have n2_ := Aside0.mk ((by rw [hg]; exact (below_size (by repeat (first | (with_reducible first | exact HB.out | apply below_alloc | apply pw_below_drewN | apply below_drew1) | exact HB.out))) : w.heap.size ≤ gb101)); have n3_ := Aside0.mk ((by rw [hg]; exact (below_size (by repeat (first | (with_reducible first | exact HB.out | apply below_alloc | apply pw_below_drewN | apply below_drew1) | exact HB.out))) : w.heap.size ≤ gb101)); clear HB; have HB := n0_; have BK101 := n1_; have GW101 := n2_; have GE101 := n3_; clear n0_ n1_ n2_ n3_; clear hb hbox hg) | ((with_reducible refine gate_dst (N := 3) rfl ?_); (try (refine gate_guard (by rfl) ?_; dsimp only)); refine box_event ?hg (N := 3) ?hd (cs := #[.string a1_0, .slice A1_1 l1_1.length c1_1, .bool false]) (t := 24) ?hr ?_; (case hd => rfl); (case hg => rfl); (case hr => first | (go_simp; done) | (go_simp; rfl)); intro gb102 hg w20 hbox hb; have n0_ := Aside0.mk (blk_below (g := gb101) (o := .cells #[.string a0_0, .slice A0_1 l0_1.length c0_1, .bool true] 24 (0, 0)) (by (with_reducible repeat (first | refine blk_drewN ?_ _ | refine blk_drew ?_ | refine blk_alloc ?_ _)); exact BK101.out) hb); have n1_ := Aside0.mk (below_step (by repeat (first | (with_reducible first | exact HB.out | apply below_alloc | apply pw_below_drewN | apply below_drew1 | refine below_set ?_ GE101.out) | exact HB.out)) hb); have n2_ := Aside0.mk (hbox); have n3_ := Aside0.mk ((by rw [hg]; exact (below_size (by repeat (first | (with_reducible first | exact HB.out | apply below_alloc | apply pw_below_drewN | apply below_drew1 | refine below_set ?_ GE101.out) | exact HB.out))) : w.heap.size ≤ gb102)); have n4_ := Aside0.mk ((by rw [hg]; exact (below_size (by repeat (first | (with_reducible first | exact HB.out | apply below_alloc | apply pw_below_drewN | apply below_drew1 | refine below_set ?_ GE101.out) | exact HB.out))) : w.heap.size ≤ gb102)); have n5_ := Aside0.mk ((by rw [hg]; exact Nat.ne_of_lt (blk_lt (g := gb101) (o := .cells #[.string a0_0, .slice A0_1 l0_1.length c0_1, .bool true] 24 (0, 0)) (by (with_reducible repeat (first | refine blk_drewN ?_ _ | refine blk_drew ?_ | refine blk_alloc ?_ _)); exact BK101.out)) : gb101 ≠ gb102)); have n6_ := Aside0.mk ((by rw [hg]; exact Nat.ne_of_gt (blk_lt (g := gb101) (o := .cells #[.string a0_0, .slice A0_1 l0_1.length c0_1, .bool true] 24 (0, 0)) (by (with_reducible repeat (first | refine blk_drewN ?_ _ | refine blk_drew ?_ | refine blk_alloc ?_ _)); exact BK101.out)) : gb102 ≠ gb101)); clear BK101; clear HB; have BK101 := n0_; have HB := n1_; have BK102 := n2_; have GW102 := n3_; have GE102 := n4_; have NB101_102 := n5_; have NB102_101 := n6_; clear n0_ n1_ n2_ n3_ n4_ n5_ n6_; clear hb hbox hg; have hnb21 := NB102_101.out; have hnc21 := NB101_102.out; have hcz22_0 : w20.cell? ⟨gb102, 0, none⟩ = some (.string a1_0) := (blk_cell BK102.out 0).trans rfl; have hcz22_1 : w20.cell? ⟨gb102, 1, none⟩ = some (.slice A1_1 l1_1.length c1_1) := (blk_cell BK102.out 1).trans rfl; have hcz22_2 : w20.cell? ⟨gb102, 2, none⟩ = some (.bool false) := (blk_cell BK102.out 2).trans rfl; have hfz22_0 := blk_frozen BK102.out 0; have hfz22_1 := blk_frozen BK102.out 1; have hfz22_2 := blk_frozen BK102.out 2; have hcz23_0 : w20.cell? ⟨gb101, 0, none⟩ = some (.string a0_0) := (blk_cell BK101.out 0).trans rfl; have hcz23_1 : w20.cell? ⟨gb101, 1, none⟩ = some (.slice A0_1 l0_1.length c0_1) := (blk_cell BK101.out 1).trans rfl; have hcz23_2 : w20.cell? ⟨gb101, 2, none⟩ = some (.bool true) := (blk_cell BK101.out 2).trans rfl; have hfz23_0 := blk_frozen BK101.out 0; have hfz23_1 := blk_frozen BK101.out 1; have hfz23_2 := blk_frozen BK101.out 2) | ((with_reducible refine gate_callee (f := 14) rfl ?_); refine goesL_ (some 20) rfl rfl Try.func14 (by kernel_rfl) rfl #[.agg #[.string a0_0, .slice A0_1 l0_1.length c0_1, .bool false], .agg #[.string a1_0, .slice A1_1 l1_1.length c1_1, .bool false]] rfl (by (try simp only [List.map_toArray, List.map_cons, List.map_nil]); first | done | rfl | (simp only [List.length_drop, List.length_take]; rfl)) ?_; (with_reducible refine (ih k (by omega) a0_0 _ _ l0_1 false a1_0 _ _ l1_1 false t104 _ ?side1 ?side2 ?side3 ?side4 A18.out).mono ?_); (case side1 => exact Kd.C_below HR0_1.out (by repeat (first | (with_reducible first | exact HB.out | apply below_alloc | apply pw_below_drewN | apply below_drew1 | refine below_set ?_ GE101.out | refine below_set ?_ GE102.out) | exact HB.out))); (case side2 => exact HC0_1.out); (case side3 => exact Kd.C_below HR1_1.out (by repeat (first | (with_reducible first | exact HB.out | apply below_alloc | apply pw_below_drewN | apply below_drew1 | refine below_set ?_ GE101.out | refine below_set ?_ GE102.out) | exact HB.out))); (case side4 => exact HC1_1.out); rintro e w24 ⟨rfl, hb⟩; refine ⟨_, rfl, ?_⟩; have n0_ := Aside0.mk (blk_below (g := gb101) (o := .cells #[.string a0_0, .slice A0_1 l0_1.length c0_1, .bool false] 24 (0, 0)) (by (with_reducible repeat (first | refine blk_drewN ?_ _ | refine blk_drew ?_ | refine blk_alloc ?_ _)); refine blk_put (cs := #[.string a0_0, .slice A0_1 l0_1.length c0_1, .bool true]) ?_ 2 _ rfl; (with_reducible repeat (first | refine blk_drewN ?_ _ | refine blk_drew ?_ | refine blk_alloc ?_ _)); exact BK101.out) hb); have n1_ := Aside0.mk (blk_below (g := gb102) (o := .cells #[.string a1_0, .slice A1_1 l1_1.length c1_1, .bool false] 24 (0, 0)) (by (with_reducible repeat (first | refine blk_drewN ?_ _ | refine blk_drew ?_ | refine blk_alloc ?_ _)); refine blk_far ?_ NB102_101.out _; (with_reducible repeat (first | refine blk_drewN ?_ _ | refine blk_drew ?_ | refine blk_alloc ?_ _)); exact BK102.out) hb); have n2_ := Aside0.mk (below_step (by repeat (first | (with_reducible first | exact HB.out | apply below_alloc | apply pw_below_drewN | apply below_drew1 | refine below_set ?_ GE101.out | refine below_set ?_ GE102.out) | exact HB.out)) hb); clear BK101; clear BK102; clear HB; have BK101 := n0_; have BK102 := n1_; have HB := n2_; clear n0_ n1_ n2_; (try clear hb); (try clear hb2); (try clear hk); (try clear hi)))
      go_ret
      exact ⟨by first | rfl | (simp [errW_none, errW_some] <;> rfl) | (simp [*, errW_none, errW_some] <;> rfl), by repeat (first | (with_reducible first | exact HB.out | apply below_alloc | apply pw_below_drewN | apply below_drew1 | refine below_set ?_ GE101.out | refine below_set ?_ GE102.out) | exact HB.out)⟩
    · replace c17 := Bool.eq_false_iff.mpr c17
      subst c17
      have H1 : (if (l0_1.length : Int) = 0 then (if (wrap64 ((l0_1.length : Int) + (l1_1.length : Int))) = 0 then (some (a0_0.toList == a1_0.toList)) else (some false)) else (if (l1_1.length : Int) = 0 then (if (wrap64 ((l0_1.length : Int) + (l1_1.length : Int))) = 0 then (some (a0_0.toList == a1_0.toList)) else (some false)) else (if 0 < (l0_1.length : Int) then (if 0 < (l1_1.length : Int) then ((spec_Fits.f k ((rd_T24 l0_1 0).f0) ((rd_T24 l0_1 0).f1) ((rd_T24 l0_1 0).f2) ((rd_T24 l1_1 0).f0) ((rd_T24 l1_1 0).f1) ((rd_T24 l1_1 0).f2)).bind fun t107 => (some t107)) else (none)) else (none)))) = some r := by rw [if_neg (show ¬ (false = true) by decide)] at H; exact H
      clear H
      have H := H1
      clear H1
      by_cases c25 : (l0_1.length : Int) = 0
      · rw [if_pos c25] at H
        have c25b0 : ((l0_1.length : Int) == 0) = true := beq_iff_eq.mpr c25
        have c25b1 : ((l0_1.length : Int) != 0) = false := bne_eq_false_iff_eq.mpr c25
        clear c25
        by_cases c26 : (wrap64 ((l0_1.length : Int) + (l1_1.length : Int))) = 0
        · rw [if_pos c26] at H
          have c26b0 : ((wrap64 ((l0_1.length : Int) + (l1_1.length : Int))) == 0) = true := beq_iff_eq.mpr c26
          have c26b1 : ((wrap64 ((l0_1.length : Int) + (l1_1.length : Int))) != 0) = false := bne_eq_false_iff_eq.mpr c26
          clear c26
          obtain rfl := Option.some.inj H
          go_enter Try.func14, Try.ntmps14
          go_wp2_with (first | ((with_reducible refine gate_dst (N := 2) rfl ?_); (try (refine gate_guard (by rfl) ?_; dsimp only)); refine box_event ?hg (N := 2) ?hd (cs := #[.string a0_0, .slice A0_1 l0_1.length c0_1, .bool false]) (t := 24) ?hr ?_; (case hd => rfl); (case hg => rfl); (case hr => first | (go_simp; done) | (go_simp; rfl)); intro gb101 hg w27 hbox hb; have n0_ := Aside0.mk (below_step (by repeat (first | (with_reducible first | exact HB.out | apply below_alloc | apply pw_below_drewN | apply below_drew1) | exact HB.out)) hb); have n1_ := Aside0.mk (hbox); have n2_ := Aside0.mk ((by rw [hg]; exact (below_size (by repeat (first | (with_reducible first | exact HB.out | apply below_alloc | apply pw_below_drewN | apply below_drew1) | exact HB.out))) : w.heap.size ≤ gb101)); have n3_ := Aside0.mk ((by rw [hg]; exact (below_size (by repeat (first | (with_reducible first | exact HB.out | apply below_alloc | apply pw_below_drewN | apply below_drew1) | exact HB.out))) : w.heap.size ≤ gb101)); clear HB; have HB := n0_; have BK101 := n1_; have GW101 := n2_; have GE101 := n3_; clear n0_ n1_ n2_ n3_; clear hb hbox hg) | ((with_reducible refine gate_dst (N := 3) rfl ?_); (try (refine gate_guard (by rfl) ?_; dsimp only)); refine box_event ?hg (N := 3) ?hd (cs := #[.string a1_0, .slice A1_1 l1_1.length c1_1, .bool false]) (t := 24) ?hr ?_; (case hd => rfl); (case hg => rfl); (case hr => first | (go_simp; done) | (go_simp; rfl)); intro gb102 hg w28 hbox hb; have n0_ := Aside0.mk (blk_below (g := gb101) (o := .cells #[.string a0_0, .slice A0_1 l0_1.length c0_1, .bool false] 24 (0, 0)) (by (with_reducible repeat (first | refine blk_drewN ?_ _ | refine blk_drew ?_ | refine blk_alloc ?_ _)); exact BK101.out) hb); have n1_ := Aside0.mk (below_step (by repeat (first | (with_reducible first | exact HB.out | apply below_alloc | apply pw_below_drewN | apply below_drew1 | refine below_set ?_ GE101.out) | exact HB.out)) hb); have n2_ := Aside0.mk (hbox); have n3_ := Aside0.mk ((by rw [hg]; exact (below_size (by repeat (first | (with_reducible first | exact HB.out | apply below_alloc | apply pw_below_drewN | apply below_drew1 | refine below_set ?_ GE101.out) | exact HB.out))) : w.heap.size ≤ gb102)); have n4_ := Aside0.mk ((by rw [hg]; exact (below_size (by repeat (first | (with_reducible first | exact HB.out | apply below_alloc | apply pw_below_drewN | apply below_drew1 | refine below_set ?_ GE101.out) | exact HB.out))) : w.heap.size ≤ gb102)); have n5_ := Aside0.mk ((by rw [hg]; exact Nat.ne_of_lt (blk_lt (g := gb101) (o := .cells #[.string a0_0, .slice A0_1 l0_1.length c0_1, .bool false] 24 (0, 0)) (by (with_reducible repeat (first | refine blk_drewN ?_ _ | refine blk_drew ?_ | refine blk_alloc ?_ _)); exact BK101.out)) : gb101 ≠ gb102)); have n6_ := Aside0.mk ((by rw [hg]; exact Nat.ne_of_gt (blk_lt (g := gb101) (o := .cells #[.string a0_0, .slice A0_1 l0_1.length c0_1, .bool false] 24 (0, 0)) (by (with_reducible repeat (first | refine blk_drewN ?_ _ | refine blk_drew ?_ | refine blk_alloc ?_ _)); exact BK101.out)) : gb102 ≠ gb101)); clear BK101; clear HB; have BK101 := n0_; have HB := n1_; have BK102 := n2_; have GW102 := n3_; have GE102 := n4_; have NB101_102 := n5_; have NB102_101 := n6_; clear n0_ n1_ n2_ n3_ n4_ n5_ n6_; clear hb hbox hg; have hnb29 := NB102_101.out; have hnc29 := NB101_102.out; have hcz30_0 : w28.cell? ⟨gb102, 0, none⟩ = some (.string a1_0) := (blk_cell BK102.out 0).trans rfl; have hcz30_1 : w28.cell? ⟨gb102, 1, none⟩ = some (.slice A1_1 l1_1.length c1_1) := (blk_cell BK102.out 1).trans rfl; have hcz30_2 : w28.cell? ⟨gb102, 2, none⟩ = some (.bool false) := (blk_cell BK102.out 2).trans rfl; have hfz30_0 := blk_frozen BK102.out 0; have hfz30_1 := blk_frozen BK102.out 1; have hfz30_2 := blk_frozen BK102.out 2; have hcz31_0 : w28.cell? ⟨gb101, 0, none⟩ = some (.string a0_0) := (blk_cell BK101.out 0).trans rfl; have hcz31_1 : w28.cell? ⟨gb101, 1, none⟩ = some (.slice A0_1 l0_1.length c0_1) := (blk_cell BK101.out 1).trans rfl; have hcz31_2 : w28.cell? ⟨gb101, 2, none⟩ = some (.bool false) := (blk_cell BK101.out 2).trans rfl; have hfz31_0 := blk_frozen BK101.out 0; have hfz31_1 := blk_frozen BK101.out 1; have hfz31_2 := blk_frozen BK101.out 2))
          go_ret
          exact ⟨by first | rfl | (simp [errW_none, errW_some] <;> rfl) | (simp [*, errW_none, errW_some] <;> rfl), by repeat (first | (with_reducible first | exact HB.out | apply below_alloc | apply pw_below_drewN | apply below_drew1 | refine below_set ?_ GE101.out | refine below_set ?_ GE102.out) | exact HB.out)⟩
        · rw [if_neg c26] at H
          have c26b0 : ((wrap64 ((l0_1.length : Int) + (l1_1.length : Int))) == 0) = false := beq_eq_false_iff_ne.mpr c26
          have c26b1 : ((wrap64 ((l0_1.length : Int) + (l1_1.length : Int))) != 0) = true := bne_iff_ne.mpr c26
          obtain rfl := Option.some.inj H
          go_enter Try.func14, Try.ntmps14
          go_wp2_with (first | ((with_reducible refine gate_dst (N := 2) rfl ?_); (try (refine gate_guard (by rfl) ?_; dsimp only)); refine box_event ?hg (N := 2) ?hd (cs := #[.string a0_0, .slice A0_1 l0_1.length c0_1, .bool false]) (t := 24) ?hr ?_; (case hd => rfl); (case hg => rfl); (case hr => first | (go_simp; done) | (go_simp; rfl)); intro gb101 hg w32 hbox hb; have n0_ := Aside0.mk (below_step (by repeat (first | (with_reducible first | exact HB.out | apply below_alloc | apply pw_below_drewN | apply below_drew1) | exact HB.out)) hb); have n1_ := Aside0.mk (hbox); have n2_ := Aside0.mk ((by rw [hg]; exact (below_size (by repeat (first | (with_reducible first | exact HB.out | apply below_alloc | apply pw_below_drewN | apply below_drew1) | exact HB.out))) : w.heap.size ≤ gb101)); have n3_ := Aside0.mk ((by rw [hg]; exact (below_size (by repeat (first | (with_reducible first | exact HB.out | apply below_alloc | apply pw_below_drewN | apply below_drew1) | exact HB.out))) : w.heap.size ≤ gb101)); clear HB; have HB := n0_; have BK101 := n1_; have GW101 := n2_; have GE101 := n3_; clear n0_ n1_ n2_ n3_; clear hb hbox hg) | ((with_reducible refine gate_dst (N := 3) rfl ?_); (try (refine gate_guard (by rfl) ?_; dsimp only)); refine box_event ?hg (N := 3) ?hd (cs := #[.string a1_0, .slice A1_1 l1_1.length c1_1, .bool false]) (t := 24) ?hr ?_; (case hd => rfl); (case hg => rfl); (case hr => first | (go_simp; done) | (go_simp; rfl)); intro gb102 hg w33 hbox hb; have n0_ := Aside0.mk (blk_below (g := gb101) (o := .cells #[.string a0_0, .slice A0_1 l0_1.length c0_1, .bool false] 24 (0, 0)) (by (with_reducible repeat (first | refine blk_drewN ?_ _ | refine blk_drew ?_ | refine blk_alloc ?_ _)); exact BK101.out) hb); have n1_ := Aside0.mk (below_step (by repeat (first | (with_reducible first | exact HB.out | apply below_alloc | apply pw_below_drewN | apply below_drew1 | refine below_set ?_ GE101.out) | exact HB.out)) hb); have n2_ := Aside0.mk (hbox); have n3_ := Aside0.mk ((by rw [hg]; exact (below_size (by repeat (first | (with_reducible first | exact HB.out | apply below_alloc | apply pw_below_drewN | apply below_drew1 | refine below_set ?_ GE101.out) | exact HB.out))) : w.heap.size ≤ gb102)); have n4_ := Aside0.mk ((by rw [hg]; exact (below_size (by repeat (first | (with_reducible first | exact HB.out | apply below_alloc | apply pw_below_drewN | apply below_drew1 | refine below_set ?_ GE101.out) | exact HB.out))) : w.heap.size ≤ gb102)); have n5_ := Aside0.mk ((by rw [hg]; exact Nat.ne_of_lt (blk_lt (g := gb101) (o := .cells #[.string a0_0, .slice A0_1 l0_1.length c0_1, .bool false] 24 (0, 0)) (by (with_reducible repeat (first | refine blk_drewN ?_ _ | refine blk_drew ?_ | refine blk_alloc ?_ _)); exact BK101.out)) : gb101 ≠ gb102)); have n6_ := Aside0.mk ((by rw [hg]; exact Nat.ne_of_gt (blk_lt (g := gb101) (o := .cells #[.string a0_0, .slice A0_1 l0_1.length c0_1, .bool false] 24 (0, 0)) (by (with_reducible repeat (first | refine blk_drewN ?_ _ | refine blk_drew ?_ | refine blk_alloc ?_ _)); exact BK101.out)) : gb102 ≠ gb101)); clear BK101; clear HB; have BK101 := n0_; have HB := n1_; have BK102 := n2_; have GW102 := n3_; have GE102 := n4_; have NB101_102 := n5_; have NB102_101 := n6_; clear n0_ n1_ n2_ n3_ n4_ n5_ n6_; clear hb hbox hg; have hnb34 := NB102_101.out; have hnc34 := NB101_102.out; have hcz35_0 : w33.cell? ⟨gb102, 0, none⟩ = some (.string a1_0) := (blk_cell BK102.out 0).trans rfl; have hcz35_1 : w33.cell? ⟨gb102, 1, none⟩ = some (.slice A1_1 l1_1.length c1_1) := (blk_cell BK102.out 1).trans rfl; have hcz35_2 : w33.cell? ⟨gb102, 2, none⟩ = some (.bool false) := (blk_cell BK102.out 2).trans rfl; have hfz35_0 := blk_frozen BK102.out 0; have hfz35_1 := blk_frozen BK102.out 1; have hfz35_2 := blk_frozen BK102.out 2; have hcz36_0 : w33.cell? ⟨gb101, 0, none⟩ = some (.string a0_0) := (blk_cell BK101.out 0).trans rfl; have hcz36_1 : w33.cell? ⟨gb101, 1, none⟩ = some (.slice A0_1 l0_1.length c0_1) := (blk_cell BK101.out 1).trans rfl; have hcz36_2 : w33.cell? ⟨gb101, 2, none⟩ = some (.bool false) := (blk_cell BK101.out 2).trans rfl; have hfz36_0 := blk_frozen BK101.out 0; have hfz36_1 := blk_frozen BK101.out 1; have hfz36_2 := blk_frozen BK101.out 2))
          go_ret
          exact ⟨by first | rfl | (simp [errW_none, errW_some] <;> rfl) | (simp [*, errW_none, errW_some] <;> rfl), by repeat (first | (with_reducible first | exact HB.out | apply below_alloc | apply pw_below_drewN | apply below_drew1 | refine below_set ?_ GE101.out | refine below_set ?_ GE102.out) | exact HB.out)⟩
      · rw [if_neg c25] at H
        have c25b0 : ((l0_1.length : Int) == 0) = false := beq_eq_false_iff_ne.mpr c25
        have c25b1 : ((l0_1.length : Int) != 0) = true := bne_iff_ne.mpr c25
        have c25b2 : ¬ (l0_1 = []) := fun h_ => c25 (by rw [h_]; rfl)
        by_cases c37 : (l1_1.length : Int) = 0
        · rw [if_pos c37] at H
          have c37b0 : ((l1_1.length : Int) == 0) = true := beq_iff_eq.mpr c37
          have c37b1 : ((l1_1.length : Int) != 0) = false := bne_eq_false_iff_eq.mpr c37
          clear c37
          by_cases c38 : (wrap64 ((l0_1.length : Int) + (l1_1.length : Int))) = 0
          · rw [if_pos c38] at H
            have c38b0 : ((wrap64 ((l0_1.length : Int) + (l1_1.length : Int))) == 0) = true := beq_iff_eq.mpr c38
            have c38b1 : ((wrap64 ((l0_1.length : Int) + (l1_1.length : Int))) != 0) = false := bne_eq_false_iff_eq.mpr c38
            clear c38
            obtain rfl := Option.some.inj H
            go_enter Try.func14, Try.ntmps14
            go_wp2_with (first | ((with_reducible refine gate_dst (N := 2) rfl ?_); (try (refine gate_guard (by rfl) ?_; dsimp only)); refine box_event ?hg (N := 2) ?hd (cs := #[.string a0_0, .slice A0_1 l0_1.length c0_1, .bool false]) (t := 24) ?hr ?_; (case hd => rfl); (case hg => rfl); (case hr => first | (go_simp; done) | (go_simp; rfl)); intro gb101 hg w39 hbox hb; have n0_ := Aside0.mk (below_step (by repeat (first | (with_reducible first | exact HB.out | apply below_alloc | apply pw_below_drewN | apply below_drew1) | exact HB.out)) hb); have n1_ := Aside0.mk (hbox); have n2_ := Aside0.mk ((by rw [hg]; exact (below_size (by repeat (first | (with_reducible first | exact HB.out | apply below_alloc | apply pw_below_drewN | apply below_drew1) | exact HB.out))) : w.heap.size ≤ gb101)); have n3_ := Aside0.mk ((by rw [hg]; exact (below_size (by repeat (first | (with_reducible first | exact HB.out | apply below_alloc | apply pw_below_drewN | apply below_drew1) | exact HB.out))) : w.heap.size ≤ gb101)); clear HB; have HB := n0_; have BK101 := n1_; have GW101 := n2_; have GE101 := n3_; clear n0_ n1_ n2_ n3_; clear hb hbox hg) | ((with_reducible refine gate_dst (N := 3) rfl ?_); (try (refine gate_guard (by rfl) ?_; dsimp only)); refine box_event ?hg (N := 3) ?hd (cs := #[.string a1_0, .slice A1_1 l1_1.length c1_1, .bool false]) (t := 24) ?hr ?_; (case hd => rfl); (case hg => rfl); (case hr => first | (go_simp; done) | (go_simp; rfl)); intro gb102 hg w40 hbox hb; have n0_ := Aside0.mk (blk_below (g := gb101) (o := .cells #[.string a0_0, .slice A0_1 l0_1.length c0_1, .bool false] 24 (0, 0)) (by (with_reducible repeat (first | refine blk_drewN ?_ _ | refine blk_drew ?_ | refine blk_alloc ?_ _)); exact BK101.out) hb); have n1_ := Aside0.mk (below_step (by repeat (first | (with_reducible first | exact HB.out | apply below_alloc | apply pw_below_drewN | apply below_drew1 | refine below_set ?_ GE101.out) | exact HB.out)) hb); have n2_ := Aside0.mk (hbox); have n3_ := Aside0.mk ((by rw [hg]; exact (below_size (by repeat (first | (with_reducible first | exact HB.out | apply below_alloc | apply pw_below_drewN | apply below_drew1 | refine below_set ?_ GE101.out) | exact HB.out))) : w.heap.size ≤ gb102)); have n4_ := Aside0.mk ((by rw [hg]; exact (below_size (by repeat (first | (with_reducible first | exact HB.out | apply below_alloc | apply pw_below_drewN | apply below_drew1 | refine below_set ?_ GE101.out) | exact HB.out))) : w.heap.size ≤ gb102)); have n5_ := Aside0.mk ((by rw [hg]; exact Nat.ne_of_lt (blk_lt (g := gb101) (o := .cells #[.string a0_0, .slice A0_1 l0_1.length c0_1, .bool false] 24 (0, 0)) (by (with_reducible repeat (first | refine blk_drewN ?_ _ | refine blk_drew ?_ | refine blk_alloc ?_ _)); exact BK101.out)) : gb101 ≠ gb102)); have n6_ := Aside0.mk ((by rw [hg]; exact Nat.ne_of_gt (blk_lt (g := gb101) (o := .cells #[.string a0_0, .slice A0_1 l0_1.length c0_1, .bool false] 24 (0, 0)) (by (with_reducible repeat (first | refine blk_drewN ?_ _ | refine blk_drew ?_ | refine blk_alloc ?_ _)); exact BK101.out)) : gb102 ≠ gb101)); clear BK101; clear HB; have BK101 := n0_; have HB := n1_; have BK102 := n2_; have GW102 := n3_; have GE102 := n4_; have NB101_102 := n5_; have NB102_101 := n6_; clear n0_ n1_ n2_ n3_ n4_ n5_ n6_; clear hb hbox hg; have hnb41 := NB102_101.out; have hnc41 := NB101_102.out; have hcz42_0 : w40.cell? ⟨gb102, 0, none⟩ = some (.string a1_0) := (blk_cell BK102.out 0).trans rfl; have hcz42_1 : w40.cell? ⟨gb102, 1, none⟩ = some (.slice A1_1 l1_1.length c1_1) := (blk_cell BK102.out 1).trans rfl; have hcz42_2 : w40.cell? ⟨gb102, 2, none⟩ = some (.bool false) := (blk_cell BK102.out 2).trans rfl; have hfz42_0 := blk_frozen BK102.out 0; have hfz42_1 := blk_frozen BK102.out 1; have hfz42_2 := blk_frozen BK102.out 2; have hcz43_0 : w40.cell? ⟨gb101, 0, none⟩ = some (.string a0_0) := (blk_cell BK101.out 0).trans rfl; have hcz43_1 : w40.cell? ⟨gb101, 1, none⟩ = some (.slice A0_1 l0_1.length c0_1) := (blk_cell BK101.out 1).trans rfl; have hcz43_2 : w40.cell? ⟨gb101, 2, none⟩ = some (.bool false) := (blk_cell BK101.out 2).trans rfl; have hfz43_0 := blk_frozen BK101.out 0; have hfz43_1 := blk_frozen BK101.out 1; have hfz43_2 := blk_frozen BK101.out 2))
            go_ret
            exact ⟨by first | rfl | (simp [errW_none, errW_some] <;> rfl) | (simp [*, errW_none, errW_some] <;> rfl), by repeat (first | (with_reducible first | exact HB.out | apply below_alloc | apply pw_below_drewN | apply below_drew1 | refine below_set ?_ GE101.out | refine below_set ?_ GE102.out) | exact HB.out)⟩
          · rw [if_neg c38] at H
            have c38b0 : ((wrap64 ((l0_1.length : Int) + (l1_1.length : Int))) == 0) = false := beq_eq_false_iff_ne.mpr c38
            have c38b1 : ((wrap64 ((l0_1.length : Int) + (l1_1.length : Int))) != 0) = true := bne_iff_ne.mpr c38
            obtain rfl := Option.some.inj H
            go_enter Try.func14, Try.ntmps14
            go_wp2_with (first | ((with_reducible refine gate_dst (N := 2) rfl ?_); (try (refine gate_guard (by rfl) ?_; dsimp only)); refine box_event ?hg (N := 2) ?hd (cs := #[.string a0_0, .slice A0_1 l0_1.length c0_1, .bool false]) (t := 24) ?hr ?_; (case hd => rfl); (case hg => rfl); (case hr => first | (go_simp; done) | (go_simp; rfl)); intro gb101 hg w44 hbox hb; have n0_ := Aside0.mk (below_step (by repeat (first | (with_reducible first | exact HB.out | apply below_alloc | apply pw_below_drewN | apply below_drew1) | exact HB.out)) hb); have n1_ := Aside0.mk (hbox); have n2_ := Aside0.mk ((by rw [hg]; exact (below_size (by repeat (first | (with_reducible first | exact HB.out | apply below_alloc | apply pw_below_drewN | apply below_drew1) | exact HB.out))) : w.heap.size ≤ gb101)); have n3_ := Aside0.mk ((by rw [hg]; exact (below_size (by repeat (first | (with_reducible first | exact HB.out | apply below_alloc | apply pw_below_drewN | apply below_drew1) | exact HB.out))) : w.heap.size ≤ gb101)); clear HB; have HB := n0_; have BK101 := n1_; have GW101 := n2_; have GE101 := n3_; clear n0_ n1_ n2_ n3_; clear hb hbox hg) | ((with_reducible refine gate_dst (N := 3) rfl ?_); (try (refine gate_guard (by rfl) ?_; dsimp only)); refine box_event ?hg (N := 3) ?hd (cs := #[.string a1_0, .slice A1_1 l1_1.length c1_1, .bool false]) (t := 24) ?hr ?_; (case hd => rfl); (case hg => rfl); (case hr => first | (go_simp; done) | (go_simp; rfl)); intro gb102 hg w45 hbox hb; have n0_ := Aside0.mk (blk_below (g := gb101) (o := .cells #[.string a0_0, .slice A0_1 l0_1.length c0_1, .bool false] 24 (0, 0)) (by (with_reducible repeat (first | refine blk_drewN ?_ _ | refine blk_drew ?_ | refine blk_alloc ?_ _)); exact BK101.out) hb); have n1_ := Aside0.mk (below_step (by repeat (first | (with_reducible first | exact HB.out | apply below_alloc | apply pw_below_drewN | apply below_drew1 | refine below_set ?_ GE101.out) | exact HB.out)) hb); have n2_ := Aside0.mk (hbox); have n3_ := Aside0.mk ((by rw [hg]; exact (below_size (by repeat (first | (with_reducible first | exact HB.out | apply below_alloc | apply pw_below_drewN | apply below_drew1 | refine below_set ?_ GE101.out) | exact HB.out))) : w.heap.size ≤ gb102)); have n4_ := Aside0.mk ((by rw [hg]; exact (below_size (by repeat (first | (with_reducible first | exact HB.out | apply below_alloc | apply pw_below_drewN | apply below_drew1 | refine below_set ?_ GE101.out) | exact HB.out))) : w.heap.size ≤ gb102)); have n5_ := Aside0.mk ((by rw [hg]; exact Nat.ne_of_lt (blk_lt (g := gb101) (o := .cells #[.string a0_0, .slice A0_1 l0_1.length c0_1, .bool false] 24 (0, 0)) (by (with_reducible repeat (first | refine blk_drewN ?_ _ | refine blk_drew ?_ | refine blk_alloc ?_ _)); exact BK101.out)) : gb101 ≠ gb102)); have n6_ := Aside0.mk ((by rw [hg]; exact Nat.ne_of_gt (blk_lt (g := gb101) (o := .cells #[.string a0_0, .slice A0_1 l0_1.length c0_1, .bool false] 24 (0, 0)) (by (with_reducible repeat (first | refine blk_drewN ?_ _ | refine blk_drew ?_ | refine blk_alloc ?_ _)); exact BK101.out)) : gb102 ≠ gb101)); clear BK101; clear HB; have BK101 := n0_; have HB := n1_; have BK102 := n2_; have GW102 := n3_; have GE102 := n4_; have NB101_102 := n5_; have NB102_101 := n6_; clear n0_ n1_ n2_ n3_ n4_ n5_ n6_; clear hb hbox hg; have hnb46 := NB102_101.out; have hnc46 := NB101_102.out; have hcz47_0 : w45.cell? ⟨gb102, 0, none⟩ = some (.string a1_0) := (blk_cell BK102.out 0).trans rfl; have hcz47_1 : w45.cell? ⟨gb102, 1, none⟩ = some (.slice A1_1 l1_1.length c1_1) := (blk_cell BK102.out 1).trans rfl; have hcz47_2 : w45.cell? ⟨gb102, 2, none⟩ = some (.bool false) := (blk_cell BK102.out 2).trans rfl; have hfz47_0 := blk_frozen BK102.out 0; have hfz47_1 := blk_frozen BK102.out 1; have hfz47_2 := blk_frozen BK102.out 2; have hcz48_0 : w45.cell? ⟨gb101, 0, none⟩ = some (.string a0_0) := (blk_cell BK101.out 0).trans rfl; have hcz48_1 : w45.cell? ⟨gb101, 1, none⟩ = some (.slice A0_1 l0_1.length c0_1) := (blk_cell BK101.out 1).trans rfl; have hcz48_2 : w45.cell? ⟨gb101, 2, none⟩ = some (.bool false) := (blk_cell BK101.out 2).trans rfl; have hfz48_0 := blk_frozen BK101.out 0; have hfz48_1 := blk_frozen BK101.out 1; have hfz48_2 := blk_frozen BK101.out 2))
            go_ret
            exact ⟨by first | rfl | (simp [errW_none, errW_some] <;> rfl) | (simp [*, errW_none, errW_some] <;> rfl), by repeat (first | (with_reducible first | exact HB.out | apply below_alloc | apply pw_below_drewN | apply below_drew1 | refine below_set ?_ GE101.out | refine below_set ?_ GE102.out) | exact HB.out)⟩
        · rw [if_neg c37] at H
          have c37b0 : ((l1_1.length : Int) == 0) = false := beq_eq_false_iff_ne.mpr c37
          have c37b1 : ((l1_1.length : Int) != 0) = true := bne_iff_ne.mpr c37
          have c37b2 : ¬ (l1_1 = []) := fun h_ => c37 (by rw [h_]; rfl)
          by_cases c49 : 0 < (l0_1.length : Int)
          · rw [if_pos c49] at H
            have c49b0 : decide (0 < (l0_1.length : Int)) = true := decide_eq_true c49
            have c49b1 : decide (0 < l0_1.length) = true := decide_eq_true (by omega)
            clear c49
            by_cases c50 : 0 < (l1_1.length : Int)
            · rw [if_pos c50] at H
              have c50b0 : decide (0 < (l1_1.length : Int)) = true := decide_eq_true c50
              have c50b1 : decide (0 < l1_1.length) = true := decide_eq_true (by omega)
              clear c50
              replace H := Option.bind_eq_some_iff.mp H
              obtain ⟨t107, A510, H⟩ := H
              replace H : (some t107) = some r := H
              have A51 := Aside0.mk A510
              clear A510
              obtain rfl := Option.some.inj H
              go_enter Try.func14, Try.ntmps14
              try go_wp2_with (first | ((with_reducible refine gate_dst (N := 2) rfl ?_); (try (refine gate_guard (by rfl) ?_; dsimp only)); refine box_event ?hg (N := 2) ?hd (cs := #[.string a0_0, .slice A0_1 l0_1.length c0_1, .bool false]) (t := 24) ?hr ?_; (case hd => rfl); (case hg => rfl); (case hr => first | (go_simp; done) | (go_simp; rfl)); intro gb101 hg w52 hbox hb; have n0_ := Aside0.mk (below_step (by repeat (first | (with_reducible first | exact HB.out | apply below_alloc | apply pw_below_drewN | apply below_drew1) | exact HB.out)) hb); have n1_ := Aside0.mk (hbox); have n2_ := Aside0.mk ((by rw [hg]; exact (below_size (by repeat (first | (with_reducible first | exact HB.out | apply below_alloc | apply pw_below_drewN | apply below_drew1) | exact HB.out))) : w.heap.size ≤ gb101)); have n3_ := Aside0.mk ((by rw [hg]; exact (below_size (by repeat (first | (with_reducible first | exact HB.out | apply below_alloc | apply pw_below_drewN | apply below_drew1) | exact HB.out))) : w.heap.size ≤ gb101)); clear HB; have HB := n0_; have BK101 := n1_; have GW101 := n2_; have GE101 := n3_; clear n0_ n1_ n2_ n3_; clear hb hbox hg) | ((with_reducible refine gate_dst (N := 3) rfl ?_); (try (refine gate_guard (by rfl) ?_; dsimp only)); refine box_event ?hg (N := 3) ?hd (cs := #[.string a1_0, .slice A1_1 l1_1.length c1_1, .bool false]) (t := 24) ?hr ?_; (case hd => rfl); (case hg => rfl); (case hr => first | (go_simp; done) | (go_simp; rfl)); intro gb102 hg w53 hbox hb; have n0_ := Aside0.mk (blk_below (g := gb101) (o := .cells #[.string a0_0, .slice A0_1 l0_1.length c0_1, .bool false] 24 (0, 0)) (by (with_reducible repeat (first | refine blk_drewN ?_ _ | refine blk_drew ?_ | refine blk_alloc ?_ _)); exact BK101.out) hb); have n1_ := Aside0.mk (below_step (by repeat (first | (with_reducible first | exact HB.out | apply below_alloc | apply pw_below_drewN | apply below_drew1 | refine below_set ?_ GE101.out) | exact HB.out)) hb); have n2_ := Aside0.mk (hbox); have n3_ := Aside0.mk ((by rw [hg]; exact (below_size (by repeat (first | (with_reducible first | exact HB.out | apply below_alloc | apply pw_below_drewN | apply below_drew1 | refine below_set ?_ GE101.out) | exact HB.out))) : w.heap.size ≤ gb102)); have n4_ := Aside0.mk ((by rw [hg]; exact (below_size (by repeat (first | (with_reducible first | exact HB.out | apply below_alloc | apply pw_below_drewN | apply below_drew1 | refine below_set ?_ GE101.out) | exact HB.out))) : w.heap.size ≤ gb102)); have n5_ := Aside0.mk ((by rw [hg]; exact Nat.ne_of_lt (blk_lt (g := gb101) (o := .cells #[.string a0_0, .slice A0_1 l0_1.length c0_1, .bool false] 24 (0, 0)) (by (with_reducible repeat (first | refine blk_drewN ?_ _ | refine blk_drew ?_ | refine blk_alloc ?_ _)); exact BK101.out)) : gb101 ≠ gb102)); have n6_ := Aside0.mk ((by rw [hg]; exact Nat.ne_of_gt (blk_lt (g := gb101) (o := .cells #[.string a0_0, .slice A0_1 l0_1.length c0_1, .bool false] 24 (0, 0)) (by (with_reducible repeat (first | refine blk_drewN ?_ _ | refine blk_drew ?_ | refine blk_alloc ?_ _)); exact BK101.out)) : gb102 ≠ gb101)); clear BK101; clear HB; have BK101 := n0_; have HB := n1_; have BK102 := n2_; have GW102 := n3_; have GE102 := n4_; have NB101_102 := n5_; have NB102_101 := n6_; clear n0_ n1_ n2_ n3_ n4_ n5_ n6_; clear hb hbox hg; have hnb54 := NB102_101.out; have hnc54 := NB101_102.out; have hcz55_0 : w53.cell? ⟨gb102, 0, none⟩ = some (.string a1_0) := (blk_cell BK102.out 0).trans rfl; have hcz55_1 : w53.cell? ⟨gb102, 1, none⟩ = some (.slice A1_1 l1_1.length c1_1) := (blk_cell BK102.out 1).trans rfl; have hcz55_2 : w53.cell? ⟨gb102, 2, none⟩ = some (.bool false) := (blk_cell BK102.out 2).trans rfl; have hfz55_0 := blk_frozen BK102.out 0; have hfz55_1 := blk_frozen BK102.out 1; have hfz55_2 := blk_frozen BK102.out 2; have hcz56_0 : w53.cell? ⟨gb101, 0, none⟩ = some (.string a0_0) := (blk_cell BK101.out 0).trans rfl; have hcz56_1 : w53.cell? ⟨gb101, 1, none⟩ = some (.slice A0_1 l0_1.length c0_1) := (blk_cell BK101.out 1).trans rfl; have hcz56_2 : w53.cell? ⟨gb101, 2, none⟩ = some (.bool false) := (blk_cell BK101.out 2).trans rfl; have hfz56_0 := blk_frozen BK101.out 0; have hfz56_1 := blk_frozen BK101.out 1; have hfz56_2 := blk_frozen BK101.out 2))
              have n0_ := Aside0.mk (blk_drew BK101.out)
              have n1_ := Aside0.mk (blk_drew BK102.out)
              have n2_ := Aside0.mk (below_drew1 HB.out)
              clear BK101
              clear BK102
              clear HB
              have BK101 := n0_
              have BK102 := n1_
              have HB := n2_
              clear n0_ n1_ n2_
              have p105 : 0 ≤ (0 : Int) := (by omega)
              have q105 : 0 < (l0_1.length : Int) := of_decide_eq_true (by first | (with_reducible assumption) | assumption)
              obtain ⟨ad105, A105_1, c105_1, e105, hx105_0, hx105_1, hx105_2, hl105_1, hi105_1⟩ := at_T24 HR0_1.out 0 p105 q105
              have hw105_2 := hx105_2
              (try rw [show ((0 : Int)).toNat = 0 from rfl] at hw105_2)
              (try rw [show 0 * 3 = 0 from rfl] at hw105_2)
              (try rw [Addr.add_zero'] at hw105_2)
              have hw105_1 := hx105_1
              (try rw [show ((0 : Int)).toNat = 0 from rfl] at hw105_1)
              (try rw [show 0 * 3 = 0 from rfl] at hw105_1)
              (try rw [Addr.add_zero'] at hw105_1)
              have hw105_0 := hx105_0
              (try rw [show ((0 : Int)).toNat = 0 from rfl] at hw105_0)
              (try rw [show 0 * 3 = 0 from rfl] at hw105_0)
              (try rw [Addr.add_zero'] at hw105_0)
              cases e105
              have qi105 : (0 < l0_1.length) = True := eq_true (by omega)
              (try rw [show ((0 : Int)).toNat = 0 from rfl] at hx105_0)
              (try rw [show 0 * 3 = 0 from rfl] at hx105_0)
              (try rw [Addr.add_zero'] at hx105_0)
              (try rw [show ((0 : Int)).toNat = 0 from rfl] at hx105_1)
              (try rw [show 0 * 3 = 0 from rfl] at hx105_1)
              (try rw [Addr.add_zero'] at hx105_1)
              (try rw [show ((0 : Int)).toNat = 0 from rfl] at hx105_2)
              (try rw [show 0 * 3 = 0 from rfl] at hx105_2)
              (try rw [Addr.add_zero'] at hx105_2)
              replace hx105_0 := (HB.out.cell (World.block_lt_of_cell? w _ hx105_0)).trans hx105_0
              replace hx105_1 := (HB.out.cell (World.block_lt_of_cell? w _ hx105_1)).trans hx105_1
              replace hx105_2 := (HB.out.cell (World.block_lt_of_cell? w _ hx105_2)).trans hx105_2
              have HR105_1 := Aside0.mk hi105_1
              have HC105_1 := Aside0.mk hl105_1
              clear hi105_1 hl105_1
              replace p105 := eq_true p105
              replace q105 := eq_true q105
              have p106 : 0 ≤ (0 : Int) := (by omega)
              have q106 : 0 < (l1_1.length : Int) := of_decide_eq_true (by first | (with_reducible assumption) | assumption)
              obtain ⟨ad106, A106_1, c106_1, e106, hx106_0, hx106_1, hx106_2, hl106_1, hi106_1⟩ := at_T24 HR1_1.out 0 p106 q106
              have hw106_2 := hx106_2
              (try rw [show ((0 : Int)).toNat = 0 from rfl] at hw106_2)
              (try rw [show 0 * 3 = 0 from rfl] at hw106_2)
              (try rw [Addr.add_zero'] at hw106_2)
              have hw106_1 := hx106_1
              (try rw [show ((0 : Int)).toNat = 0 from rfl] at hw106_1)
              (try rw [show 0 * 3 = 0 from rfl] at hw106_1)
              (try rw [Addr.add_zero'] at hw106_1)
              have hw106_0 := hx106_0
              (try rw [show ((0 : Int)).toNat = 0 from rfl] at hw106_0)
              (try rw [show 0 * 3 = 0 from rfl] at hw106_0)
              (try rw [Addr.add_zero'] at hw106_0)
              cases e106
              have qi106 : (0 < l1_1.length) = True := eq_true (by omega)
              (try rw [show ((0 : Int)).toNat = 0 from rfl] at hx106_0)
              (try rw [show 0 * 3 = 0 from rfl] at hx106_0)
              (try rw [Addr.add_zero'] at hx106_0)
              (try rw [show ((0 : Int)).toNat = 0 from rfl] at hx106_1)
              (try rw [show 0 * 3 = 0 from rfl] at hx106_1)
              (try rw [Addr.add_zero'] at hx106_1)
              (try rw [show ((0 : Int)).toNat = 0 from rfl] at hx106_2)
              (try rw [show 0 * 3 = 0 from rfl] at hx106_2)
              (try rw [Addr.add_zero'] at hx106_2)
              replace hx106_0 := (HB.out.cell (World.block_lt_of_cell? w _ hx106_0)).trans hx106_0
              replace hx106_1 := (HB.out.cell (World.block_lt_of_cell? w _ hx106_1)).trans hx106_1
              replace hx106_2 := (HB.out.cell (World.block_lt_of_cell? w _ hx106_2)).trans hx106_2
              have HR106_1 := Aside0.mk hi106_1
              have HC106_1 := Aside0.mk hl106_1
              clear hi106_1 hl106_1
              replace p106 := eq_true p106
              replace q106 := eq_true q106
              refine start_ (n := 10) (S := fun w' => w'.cell? ⟨gb101, 0, none⟩ = some (.string a0_0) ∧ w'.cell? ⟨gb101, 1, none⟩ = some (.slice (some ad105) l0_1.length c0_1) ∧ w'.cell? ⟨gb101, 2, none⟩ = some (.bool false) ∧ w'.cell? ⟨gb102, 0, none⟩ = some (.string a1_0) ∧ w'.cell? ⟨gb102, 1, none⟩ = some (.slice (some ad106) l1_1.length c1_1) ∧ w'.cell? ⟨gb102, 2, none⟩ = some (.bool false) ∧ w'.cell? ad105 = some (.string ((rd_T24 l0_1 0).f0)) ∧ w'.cell? ⟨ad105.block, ad105.off + 1, none⟩ = some (.slice A105_1 ((rd_T24 l0_1 0).f1).length c105_1) ∧ w'.cell? ⟨ad105.block, ad105.off + 2, none⟩ = some (.bool ((rd_T24 l0_1 0).f2)) ∧ w'.cell? ad106 = some (.string ((rd_T24 l1_1 0).f0)) ∧ w'.cell? ⟨ad106.block, ad106.off + 1, none⟩ = some (.slice A106_1 ((rd_T24 l1_1 0).f1).length c106_1) ∧ w'.cell? ⟨ad106.block, ad106.off + 2, none⟩ = some (.bool ((rd_T24 l1_1 0).f2))) (ds := []) #[false, false, false, false, false, false, false, false, false, false] (by kernel_rfl) rfl rfl ⟨(blk_cell BK101.out 0).trans rfl, (blk_cell BK101.out 1).trans rfl, (blk_cell BK101.out 2).trans rfl, (blk_cell BK102.out 0).trans rfl, (blk_cell BK102.out 1).trans rfl, (blk_cell BK102.out 2).trans rfl, ((HB.out.cell (World.block_lt_of_cell? w _ hw105_0)).trans hw105_0), ((HB.out.cell (World.block_lt_of_cell? w _ hw105_1)).trans hw105_1), ((HB.out.cell (World.block_lt_of_cell? w _ hw105_2)).trans hw105_2), ((HB.out.cell (World.block_lt_of_cell? w _ hw106_0)).trans hw106_0), ((HB.out.cell (World.block_lt_of_cell? w _ hw106_1)).trans hw106_1), ((HB.out.cell (World.block_lt_of_cell? w _ hw106_2)).trans hw106_2)⟩ (fun hHeld => ?_); refine with_tabW spec_Fits.tab11 spec_Fits.bits11 (fun HT_ HW_ => ?_)
              generalize w53.drew = w57 at BK101 BK102 HB HR105_1 HR106_1 hx105_0 hx105_1 hx105_2 hx106_0 hx106_1 hx106_2 hHeld ⊢
              refine pure_ (i := 0) (N := some 46) (v := ?_) (a' := ?_) #[true, false, false, false, false, false, false, false, false, false] rfl rfl (any_of HT_.out (by kernel_rfl)) (fun _ _ _ h => h) (Or.inl ⟨by rfl, ?_⟩) ?_ ?_
              rotate_left
              · intro w'
                go_simp
                with_reducible rfl
              rotate_left
              · simp only [Act.put, List.setIfInBounds_toArray, List.set_cons_zero, List.set_cons_succ, i64_w, i32_w]
                rfl
              refine pure_ (i := 4) (N := some 50) (v := ?_) (a' := ?_) #[true, false, false, false, true, false, false, false, false, false] rfl rfl (any_of HT_.out (by kernel_rfl)) (fun _ _ _ h => h) (Or.inl ⟨by rfl, ?_⟩) ?_ ?_
              rotate_left
              · intro w'
                go_simp
                with_reducible rfl
              rotate_left
              · simp only [Act.put, List.setIfInBounds_toArray, List.set_cons_zero, List.set_cons_succ, i64_w, i32_w]
                rfl
              refine take_ (i := 1) (N := some 47) (v := ?_) (a' := ?_) #[true, true, false, false, true, false, false, false, false, false] rfl rfl (take_ofW HT_.out HW_.out (by kernel_rfl)) (fun _ _ _ h => h) (Or.inl ⟨by rfl, ?_⟩) hHeld ?_ ?_
              rotate_left
              · rintro w' ⟨s0, s1, s2, s3, s4, s5, s6, s7, s8, s9, s10, s11⟩
                go_simp
                with_reducible rfl
              rotate_left
              · simp only [Act.put, List.setIfInBounds_toArray, List.set_cons_zero, List.set_cons_succ, i64_w, i32_w]
                rfl
              refine pure_ (i := 2) (N := some 48) (v := ?_) (a' := ?_) #[true, true, true, false, true, false, false, false, false, false] rfl rfl (any_of HT_.out (by kernel_rfl)) (fun _ _ _ h => h) (Or.inl ⟨by rfl, ?_⟩) ?_ ?_
              rotate_left
              · intro w'
                go_simp
                with_reducible rfl
              rotate_left
              · simp only [Act.put, List.setIfInBounds_toArray, List.set_cons_zero, List.set_cons_succ, i64_w, i32_w]
                rfl
              refine take_ (i := 3) (N := some 49) (v := ?_) (a' := ?_) #[true, true, true, true, true, false, false, false, false, false] rfl rfl (take_ofW HT_.out HW_.out (by kernel_rfl)) (fun _ _ _ h => h) (Or.inl ⟨by rfl, ?_⟩) hHeld ?_ ?_
              rotate_left
              · rintro w' ⟨s0, s1, s2, s3, s4, s5, s6, s7, s8, s9, s10, s11⟩
                go_simp
                with_reducible rfl
              rotate_left
              · simp only [Act.put, List.setIfInBounds_toArray, List.set_cons_zero, List.set_cons_succ, i64_w, i32_w]
                rfl
              refine take_ (i := 5) (N := some 51) (v := ?_) (a' := ?_) #[true, true, true, true, true, true, false, false, false, false] rfl rfl (take_ofW HT_.out HW_.out (by kernel_rfl)) (fun _ _ _ h => h) (Or.inl ⟨by rfl, ?_⟩) hHeld ?_ ?_
              rotate_left
              · rintro w' ⟨s0, s1, s2, s3, s4, s5, s6, s7, s8, s9, s10, s11⟩
                go_simp
                with_reducible rfl
              rotate_left
              · simp only [Act.put, List.setIfInBounds_toArray, List.set_cons_zero, List.set_cons_succ, i64_w, i32_w]
                rfl
              refine pure_ (i := 6) (N := some 52) (v := ?_) (a' := ?_) #[true, true, true, true, true, true, true, false, false, false] rfl rfl (any_of HT_.out (by kernel_rfl)) (fun _ _ _ h => h) (Or.inl ⟨by rfl, ?_⟩) ?_ ?_
              rotate_left
              · intro w'
                go_simp
                with_reducible rfl
              rotate_left
              · simp only [Act.put, List.setIfInBounds_toArray, List.set_cons_zero, List.set_cons_succ, i64_w, i32_w]
                rfl
              refine take_ (i := 7) (N := some 53) (v := ?_) (a' := ?_) #[true, true, true, true, true, true, true, true, false, false] rfl rfl (take_ofW HT_.out HW_.out (by kernel_rfl)) (fun _ _ _ h => h) (Or.inl ⟨by rfl, ?_⟩) hHeld ?_ ?_
              rotate_left
              · rintro w' ⟨s0, s1, s2, s3, s4, s5, s6, s7, s8, s9, s10, s11⟩
                go_simp
                with_reducible rfl
              rotate_left
              · simp only [Act.put, List.setIfInBounds_toArray, List.set_cons_zero, List.set_cons_succ, i64_w, i32_w]
                rfl
              refine one_ (i := 8) (N := some 54) #[true, true, true, true, true, true, true, true, true, false] rfl rfl (one_of HT_.out (by kernel_rfl)) (by decide) (fun K hK => ?_)
              refine goes_ Try.func14 (by kernel_rfl) rfl #[.agg #[.string ((rd_T24 l0_1 0).f0), .slice A105_1 ((rd_T24 l0_1 0).f1).length c105_1, .bool ((rd_T24 l0_1 0).f2)], .agg #[.string ((rd_T24 l1_1 0).f0), .slice A106_1 ((rd_T24 l1_1 0).f1).length c106_1, .bool ((rd_T24 l1_1 0).f2)]] (by rfl) rfl rfl (by (try simp only [List.map_toArray, List.map_cons, List.map_nil]); first | done | rfl | (simp only [List.length_drop, List.length_take]; rfl)) ?_
              with_reducible refine (ih k (by omega) ((rd_T24 l0_1 0).f0) _ _ ((rd_T24 l0_1 0).f1) ((rd_T24 l0_1 0).f2) ((rd_T24 l1_1 0).f0) _ _ ((rd_T24 l1_1 0).f1) ((rd_T24 l1_1 0).f2) t107 _ ?side1 ?side2 ?side3 ?side4 A51.out).mono ?_
              (case side1 => repeat (first | exact (Kd.C_below HR105_1.out HB.out) | (with_reducible refine Kd.C_alloc ?_ _) | (with_reducible refine Kd.C_drewN ?_ _) | (with_reducible refine Kd.C_drew ?_)))
              (case side2 => exact HC105_1.out)
              (case side3 => repeat (first | exact (Kd.C_below HR106_1.out HB.out) | (with_reducible refine Kd.C_alloc ?_ _) | (with_reducible refine Kd.C_drewN ?_ _) | (with_reducible refine Kd.C_drew ?_)))
              (case side4 => exact HC106_1.out)
              rintro e w58 ⟨rfl, hb⟩
              refine ⟨_, rfl, ?_⟩
              have n0_ := Aside0.mk (blk_below (g := gb101) (o := .cells #[.string a0_0, .slice (some ad105) l0_1.length c0_1, .bool false] 24 (0, 0)) (by (with_reducible repeat (first | refine blk_drewN ?_ _ | refine blk_drew ?_ | refine blk_alloc ?_ _)); exact BK101.out) hb)
              have n1_ := Aside0.mk (blk_below (g := gb102) (o := .cells #[.string a1_0, .slice (some ad106) l1_1.length c1_1, .bool false] 24 (0, 0)) (by (with_reducible repeat (first | refine blk_drewN ?_ _ | refine blk_drew ?_ | refine blk_alloc ?_ _)); exact BK102.out) hb)
              have n2_ := Aside0.mk (below_step (by repeat (first | (with_reducible first | exact HB.out | apply below_alloc | apply pw_below_drewN | apply below_drew1 | refine below_set ?_ GE101.out | refine below_set ?_ GE102.out) | exact HB.out)) hb)
              clear BK101
              clear BK102
              clear HB
              have BK101 := n0_
              have BK102 := n1_
              have HB := n2_
              clear n0_ n1_ n2_
              (try clear hb)
              (try clear hb2)
              (try clear hk)
              (try clear hi)
              refine hK.out _ _ ⟨(blk_cell BK101.out 0).trans rfl, (blk_cell BK101.out 1).trans rfl, (blk_cell BK101.out 2).trans rfl, (blk_cell BK102.out 0).trans rfl, (blk_cell BK102.out 1).trans rfl, (blk_cell BK102.out 2).trans rfl, ((HB.out.cell (World.block_lt_of_cell? w _ hw105_0)).trans hw105_0), ((HB.out.cell (World.block_lt_of_cell? w _ hw105_1)).trans hw105_1), ((HB.out.cell (World.block_lt_of_cell? w _ hw105_2)).trans hw105_2), ((HB.out.cell (World.block_lt_of_cell? w _ hw106_0)).trans hw106_0), ((HB.out.cell (World.block_lt_of_cell? w _ hw106_1)).trans hw106_1), ((HB.out.cell (World.block_lt_of_cell? w _ hw106_2)).trans hw106_2)⟩ (fun hHeld => ?_)
              clear hK K
              refine norm_ (a' := ?_) ?_ ?_
              rotate_left
              · show Act.put _ (some 54) _ = _
                simp only [Act.put, List.setIfInBounds_toArray, List.set_cons_zero, List.set_cons_succ, i64_w, i32_w]
                rfl
              refine pure_ (i := 9) (N := some 4) (v := ?_) (a' := ?_) #[true, true, true, true, true, true, true, true, true, true] rfl rfl (any_of HT_.out (by kernel_rfl)) (fun _ _ _ h => h) (Or.inl ⟨by rfl, ?_⟩) ?_ ?_
              rotate_left
              · intro w'
                go_simp
                with_reducible rfl
              rotate_left
              · simp only [Act.put, List.setIfInBounds_toArray, List.set_cons_zero, List.set_cons_succ, i64_w, i32_w]
                rfl
              refine done_ (done_of HT_.out (by kernel_rfl)) ?_
              try go_wp2
              go_ret
              exact ⟨by first | rfl | (simp [errW_none, errW_some] <;> rfl) | (simp [*, errW_none, errW_some] <;> rfl), by repeat (first | (with_reducible first | exact HB.out | apply below_alloc | apply pw_below_drewN | apply below_drew1 | refine below_set ?_ GE101.out | refine below_set ?_ GE102.out) | exact HB.out)⟩
            · rw [if_neg c50] at H
              exact absurd H (by simp)
          · rw [if_neg c49] at H
            exact absurd H (by simp)

/-! ### spec_WriteTyp: function 16 -/
def spec_WriteTyp.f : Nat → ByteArray → List (S24) → Bool → Option (ByteArray)
  | 0, _, _, _ => none
  | k + 1, a0_0, l0_1, a0_2 => if (l0_1.length : Int) > 0 then (if 0 < (l0_1.length : Int) then ((spec_WriteTyp.f k ((rd_T24 l0_1 0).f0) ((rd_T24 l0_1 0).f1) ((rd_T24 l0_1 0).f2)).bind fun t110 => (if 1 + t110.size ≤ 9223372036854775807 then (if ((⟨#[91]⟩ : ByteArray) ++ t110).size + 1 ≤ 9223372036854775807 then (if a0_2 = true then (if (((⟨#[91]⟩ : ByteArray) ++ t110) ++ (⟨#[93]⟩ : ByteArray)).size + 1 ≤ 9223372036854775807 then (some ((((⟨#[91]⟩ : ByteArray) ++ t110) ++ (⟨#[93]⟩ : ByteArray)) ++ (⟨#[33]⟩ : ByteArray))) else (none)) else (some (((⟨#[91]⟩ : ByteArray) ++ t110) ++ (⟨#[93]⟩ : ByteArray)))) else (none)) else (none))) else (none)) else (if a0_2 = true then (if a0_0.size + 1 ≤ 9223372036854775807 then (some (a0_0 ++ (⟨#[33]⟩ : ByteArray))) else (none)) else (some a0_0))
theorem spec_WriteTyp.mono_l : ∀ k, (∀ y0 y1 y2, LeO (spec_WriteTyp.f k y0 y1 y2) (spec_WriteTyp.f (k + 1) y0 y1 y2))
  | 0 => fun _ _ _ r h => by simp [spec_WriteTyp.f] at h
  | k + 1 => by
    have ih0 := spec_WriteTyp.mono_l k
    · intro y0 y1 y2
      unfold spec_WriteTyp.f
      repeat' first
      | (with_reducible exact ih0 _ _ _)
      | (with_reducible exact LeO.refl _)
      | (with_reducible exact LeO.none _)
      | (with_reducible refine LeO.ite ?_ ?_)
      | (with_reducible refine LeO.bind ?_ (fun _ => ?_))
      | exact ih0 _ _ _
      | exact LeO.none _
      | refine LeO.ite ?_ ?_
      | refine LeO.bind ?_ (fun _ => ?_)
theorem spec_WriteTyp.mono : ∀ a0 a1 a2 k, LeO (spec_WriteTyp.f k a0 a1 a2) (spec_WriteTyp.f (k + 1) a0 a1 a2) := by
  intro a0 a1 a2 k
  have ih0 := spec_WriteTyp.mono_l k
  exact ih0 a0 a1 a2
set_option maxHeartbeats 8000000 in
set_option maxRecDepth 100000 in
theorem spec_WriteTyp.calls (k : Nat) : ∀ (a0_0 : ByteArray) (A0_1 : Option Addr) (c0_1 : Nat) (l0_1 : List (S24)) (a0_2 : Bool) (r : ByteArray) (w : World) (hr0_1 : Kd.C k24 w A0_1 l0_1.length l0_1) (hc0_1 : l0_1.length ≤ c0_1) (h : spec_WriteTyp.f k a0_0 l0_1 a0_2 = some r),
    Calls Try.prog 16 #[.agg #[.string a0_0, .slice A0_1 l0_1.length c0_1, .bool a0_2]] w fun e w' => e = .returned (.string r) ∧ Below w.heap.size w w' := by
  induction k using Nat.strongRecOn with
  | _ k ih =>
  intro a0_0 A0_1 c0_1 l0_1 a0_2 r w hr0_1 hc0_1 h
  cases k with
  | zero => exact absurd h (by simp [spec_WriteTyp.f])
  | succ k =>
  simp only [spec_WriteTyp.f] at h
  have hu24 := Try.underlying24
  have HR0_1 := Aside0.mk hr0_1
  have HC0_1 := Aside0.mk hc0_1
  clear hr0_1 hc0_1
  have HB := Aside0.mk (Below.refl w.heap.size w)
  have H : (if (l0_1.length : Int) > 0 then (if 0 < (l0_1.length : Int) then ((spec_WriteTyp.f k ((rd_T24 l0_1 0).f0) ((rd_T24 l0_1 0).f1) ((rd_T24 l0_1 0).f2)).bind fun t110 => (if 1 + t110.size ≤ 9223372036854775807 then (if ((⟨#[91]⟩ : ByteArray) ++ t110).size + 1 ≤ 9223372036854775807 then (if a0_2 = true then (if (((⟨#[91]⟩ : ByteArray) ++ t110) ++ (⟨#[93]⟩ : ByteArray)).size + 1 ≤ 9223372036854775807 then (some ((((⟨#[91]⟩ : ByteArray) ++ t110) ++ (⟨#[93]⟩ : ByteArray)) ++ (⟨#[33]⟩ : ByteArray))) else (none)) else (some (((⟨#[91]⟩ : ByteArray) ++ t110) ++ (⟨#[93]⟩ : ByteArray)))) else (none)) else (none))) else (none)) else (if a0_2 = true then (if a0_0.size + 1 ≤ 9223372036854775807 then (some (a0_0 ++ (⟨#[33]⟩ : ByteArray))) else (none)) else (some a0_0))) = some r := h
  clear h
  by_cases c2 : (l0_1.length : Int) > 0
  · rw [if_pos c2] at H
    have c2b0 : decide (0 < (l0_1.length : Int)) = true := decide_eq_true c2
    have c2b1 : decide (0 < l0_1.length) = true := decide_eq_true (by omega)
    clear c2
    by_cases c3 : 0 < (l0_1.length : Int)
    · rw [if_pos c3] at H
      have c3b0 : decide (0 < (l0_1.length : Int)) = true := decide_eq_true c3
      have c3b1 : decide (0 < l0_1.length) = true := decide_eq_true (by omega)
      clear c3
      replace H := Option.bind_eq_some_iff.mp H
      obtain ⟨t110, A40, H⟩ := H
      replace H : (if 1 + t110.size ≤ 9223372036854775807 then (if ((⟨#[91]⟩ : ByteArray) ++ t110).size + 1 ≤ 9223372036854775807 then (if a0_2 = true then (if (((⟨#[91]⟩ : ByteArray) ++ t110) ++ (⟨#[93]⟩ : ByteArray)).size + 1 ≤ 9223372036854775807 then (some ((((⟨#[91]⟩ : ByteArray) ++ t110) ++ (⟨#[93]⟩ : ByteArray)) ++ (⟨#[33]⟩ : ByteArray))) else (none)) else (some (((⟨#[91]⟩ : ByteArray) ++ t110) ++ (⟨#[93]⟩ : ByteArray)))) else (none)) else (none)) = some r := H
      have A4 := Aside0.mk A40
      clear A40
      by_cases c5 : 1 + t110.size ≤ 9223372036854775807
      · rw [if_pos c5] at H
        have c5b0 := eq_true c5
        have c5b1 : decide (1 + t110.size ≤ 9223372036854775807) = true := decide_eq_true c5
        try have c5b2 : (9223372036854775807 < 1 + t110.size) = False := eq_false (Nat.not_lt.2 c5)
        by_cases c6 : ((⟨#[91]⟩ : ByteArray) ++ t110).size + 1 ≤ 9223372036854775807
        · rw [if_pos c6] at H
          have c6b0 := eq_true c6
          have c6b1 : decide (((⟨#[91]⟩ : ByteArray) ++ t110).size + 1 ≤ 9223372036854775807) = true := decide_eq_true c6
          try have c6b2 : (9223372036854775807 < ((⟨#[91]⟩ : ByteArray) ++ t110).size + 1) = False := eq_false (Nat.not_lt.2 c6)
          have c6b3 : (9223372036854775807 < 1 + t110.size + 1) = False := eq_false (by have h := c6; (repeat rw [ByteArray.size_append] at h); have h2 : 1 + t110.size + 1 ≤ 9223372036854775807 := h; omega)
          by_cases c7 : a0_2 = true
          · subst c7
            have H1 : (if (((⟨#[91]⟩ : ByteArray) ++ t110) ++ (⟨#[93]⟩ : ByteArray)).size + 1 ≤ 9223372036854775807 then (some ((((⟨#[91]⟩ : ByteArray) ++ t110) ++ (⟨#[93]⟩ : ByteArray)) ++ (⟨#[33]⟩ : ByteArray))) else (none)) = some r := by rw [if_pos rfl] at H; exact H
            clear H
            have H := H1
            clear H1
            by_cases c8 : (((⟨#[91]⟩ : ByteArray) ++ t110) ++ (⟨#[93]⟩ : ByteArray)).size + 1 ≤ 9223372036854775807
            · rw [if_pos c8] at H
              have c8b0 := eq_true c8
              have c8b1 : decide ((((⟨#[91]⟩ : ByteArray) ++ t110) ++ (⟨#[93]⟩ : ByteArray)).size + 1 ≤ 9223372036854775807) = true := decide_eq_true c8
              try have c8b2 : (9223372036854775807 < (((⟨#[91]⟩ : ByteArray) ++ t110) ++ (⟨#[93]⟩ : ByteArray)).size + 1) = False := eq_false (Nat.not_lt.2 c8)
              have c8b3 : (9223372036854775807 < 1 + t110.size + 1 + 1) = False := eq_false (by have h := c8; (repeat rw [ByteArray.size_append] at h); have h2 : 1 + t110.size + 1 + 1 ≤ 9223372036854775807 := h; omega)
              obtain rfl := Option.some.inj H
              go_enter Try.func16, Try.ntmps16
              go_wp2_with (first | ((with_reducible refine gate_dst (N := 1) rfl ?_); refine box_event ?hg (N := 1) ?hd (cs := #[.string a0_0, .slice A0_1 l0_1.length c0_1, .bool true]) (t := 24) ?hr ?_; (case hd => rfl); (case hg => rfl); (case hr => first | (go_simp; done) | (go_simp; rfl)); intro gb108 hg w9 hbox hb; have n0_ := Aside0.mk (below_step (by repeat (first | (with_reducible first | exact HB.out | apply below_alloc | apply pw_below_drewN | apply below_drew1) | exact HB.out)) hb); have n1_ := Aside0.mk (hbox); have n2_ := Aside0.mk ((by rw [hg]; exact (below_size (by repeat (first | (with_reducible first | exact HB.out | apply below_alloc | apply pw_below_drewN | apply below_drew1) | exact HB.out))) : w.heap.size ≤ gb108)); have n3_ := Aside0.mk ((by rw [hg]; exact (below_size (by repeat (first | (with_reducible first | exact HB.out | apply below_alloc | apply pw_below_drewN | apply below_drew1) | exact HB.out))) : w.heap.size ≤ gb108)); clear HB; have HB := n0_; have BK108 := n1_; have GW108 := n2_; have GE108 := n3_; clear n0_ n1_ n2_ n3_; clear hb hbox hg; have hcz10_0 : w9.cell? ⟨gb108, 0, none⟩ = some (.string a0_0) := (blk_cell BK108.out 0).trans rfl; have hcz10_1 : w9.cell? ⟨gb108, 1, none⟩ = some (.slice A0_1 l0_1.length c0_1) := (blk_cell BK108.out 1).trans rfl; have hcz10_2 : w9.cell? ⟨gb108, 2, none⟩ = some (.bool true) := (blk_cell BK108.out 2).trans rfl; have hfz10_0 := blk_frozen BK108.out 0; have hfz10_1 := blk_frozen BK108.out 1; have hfz10_2 := blk_frozen BK108.out 2; have p109 : 0 ≤ (0 : Int) := (by omega); have q109 : 0 < (l0_1.length : Int) := of_decide_eq_true (by first | (with_reducible assumption) | assumption); obtain ⟨ad109, A109_1, c109_1, e109, hx109_0, hx109_1, hx109_2, hl109_1, hi109_1⟩ := at_T24 HR0_1.out 0 p109 q109; cases e109; have qi109 : (0 < l0_1.length) = True := eq_true (by omega); (try rw [show ((0 : Int)).toNat = 0 from rfl] at hx109_0); (try rw [show 0 * 3 = 0 from rfl] at hx109_0); (try rw [Addr.add_zero'] at hx109_0); (try rw [show ((0 : Int)).toNat = 0 from rfl] at hx109_1); (try rw [show 0 * 3 = 0 from rfl] at hx109_1); (try rw [Addr.add_zero'] at hx109_1); (try rw [show ((0 : Int)).toNat = 0 from rfl] at hx109_2); (try rw [show 0 * 3 = 0 from rfl] at hx109_2); (try rw [Addr.add_zero'] at hx109_2); replace hx109_0 := (HB.out.cell (World.block_lt_of_cell? w _ hx109_0)).trans hx109_0; replace hx109_1 := (HB.out.cell (World.block_lt_of_cell? w _ hx109_1)).trans hx109_1; replace hx109_2 := (HB.out.cell (World.block_lt_of_cell? w _ hx109_2)).trans hx109_2; have HR109_1 := Aside0.mk hi109_1; have HC109_1 := Aside0.mk hl109_1; clear hi109_1 hl109_1; replace p109 := eq_true p109; replace q109 := eq_true q109) | ((with_reducible refine gate_callee (f := 16) rfl ?_); refine goesL_ (some 14) rfl rfl Try.func16 (by kernel_rfl) rfl #[.agg #[.string ((rd_T24 l0_1 0).f0), .slice A109_1 ((rd_T24 l0_1 0).f1).length c109_1, .bool ((rd_T24 l0_1 0).f2)]] rfl (by (try simp only [List.map_toArray, List.map_cons, List.map_nil]); first | done | rfl | (simp only [List.length_drop, List.length_take]; rfl)) ?_; (with_reducible refine (ih k (by omega) ((rd_T24 l0_1 0).f0) _ _ ((rd_T24 l0_1 0).f1) ((rd_T24 l0_1 0).f2) t110 _ ?side1 ?side2 A4.out).mono ?_); (case side1 => repeat (first | exact (Kd.C_below HR109_1.out HB.out) | (with_reducible refine Kd.C_alloc ?_ _) | (with_reducible refine Kd.C_drewN ?_ _) | (with_reducible refine Kd.C_drew ?_))); (case side2 => exact HC109_1.out); rintro e w11 ⟨rfl, hb⟩; refine ⟨_, rfl, ?_⟩; have n0_ := Aside0.mk (blk_below (g := gb108) (o := .cells #[.string a0_0, .slice (some ad109) l0_1.length c0_1, .bool true] 24 (0, 0)) (by (with_reducible repeat (first | refine blk_drewN ?_ _ | refine blk_drew ?_ | refine blk_alloc ?_ _)); exact BK108.out) hb); have n1_ := Aside0.mk (below_step (by repeat (first | (with_reducible first | exact HB.out | apply below_alloc | apply pw_below_drewN | apply below_drew1 | refine below_set ?_ GE108.out) | exact HB.out)) hb); clear BK108; clear HB; have BK108 := n0_; have HB := n1_; clear n0_ n1_; (try clear hb); (try clear hb2); (try clear hk); (try clear hi); have hcz12_0 : w11.cell? ⟨gb108, 0, none⟩ = some (.string a0_0) := (blk_cell BK108.out 0).trans rfl; have hcz12_1 : w11.cell? ⟨gb108, 1, none⟩ = some (.slice (some ad109) l0_1.length c0_1) := (blk_cell BK108.out 1).trans rfl; have hcz12_2 : w11.cell? ⟨gb108, 2, none⟩ = some (.bool true) := (blk_cell BK108.out 2).trans rfl; have hfz12_0 := blk_frozen BK108.out 0; have hfz12_1 := blk_frozen BK108.out 1; have hfz12_2 := blk_frozen BK108.out 2))
              go_ret
              exact ⟨by first | rfl | (simp [errW_none, errW_some] <;> rfl) | (simp [*, errW_none, errW_some] <;> rfl), by repeat (first | (with_reducible first | exact HB.out | apply below_alloc | apply pw_below_drewN | apply below_drew1 | refine below_set ?_ GE108.out) | exact HB.out)⟩
            · rw [if_neg c8] at H
              exact absurd H (by simp)
          · replace c7 := Bool.eq_false_iff.mpr c7
            subst c7
            have H1 : (some (((⟨#[91]⟩ : ByteArray) ++ t110) ++ (⟨#[93]⟩ : ByteArray))) = some r := by rw [if_neg (show ¬ (false = true) by decide)] at H; exact H
            clear H
            have H := H1
            clear H1
            obtain rfl := Option.some.inj H
            go_enter Try.func16, Try.ntmps16
            go_wp2_with (first | ((with_reducible refine gate_dst (N := 1) rfl ?_); refine box_event ?hg (N := 1) ?hd (cs := #[.string a0_0, .slice A0_1 l0_1.length c0_1, .bool false]) (t := 24) ?hr ?_; (case hd => rfl); (case hg => rfl); (case hr => first | (go_simp; done) | (go_simp; rfl)); intro gb108 hg w13 hbox hb; have n0_ := Aside0.mk (below_step (by repeat (first | (with_reducible first | exact HB.out | apply below_alloc | apply pw_below_drewN | apply below_drew1) | exact HB.out)) hb); have n1_ := Aside0.mk (hbox); have n2_ := Aside0.mk ((by rw [hg]; exact (below_size (by repeat (first | (with_reducible first | exact HB.out | apply below_alloc | apply pw_below_drewN | apply below_drew1) | exact HB.out))) : w.heap.size ≤ gb108)); have n3_ := Aside0.mk ((by rw [hg]; exact (below_size (by repeat (first | (with_reducible first | exact HB.out | apply below_alloc | apply pw_below_drewN | apply below_drew1) | exact HB.out))) : w.heap.size ≤ gb108)); clear HB; have HB := n0_; have BK108 := n1_; have GW108 := n2_; have GE108 := n3_; clear n0_ n1_ n2_ n3_; clear hb hbox hg; have hcz14_0 : w13.cell? ⟨gb108, 0, none⟩ = some (.string a0_0) := (blk_cell BK108.out 0).trans rfl; have hcz14_1 : w13.cell? ⟨gb108, 1, none⟩ = some (.slice A0_1 l0_1.length c0_1) := (blk_cell BK108.out 1).trans rfl; have hcz14_2 : w13.cell? ⟨gb108, 2, none⟩ = some (.bool false) := (blk_cell BK108.out 2).trans rfl; have hfz14_0 := blk_frozen BK108.out 0; have hfz14_1 := blk_frozen BK108.out 1; have hfz14_2 := blk_frozen BK108.out 2; have p109 : 0 ≤ (0 : Int) := (by omega); have q109 : 0 < (l0_1.length : Int) := of_decide_eq_true (by first | (with_reducible assumption) | assumption); obtain ⟨ad109, A109_1, c109_1, e109, hx109_0, hx109_1, hx109_2, hl109_1, hi109_1⟩ := at_T24 HR0_1.out 0 p109 q109; cases e109; have qi109 : (0 < l0_1.length) = True := eq_true (by omega); (try rw [show ((0 : Int)).toNat = 0 from rfl] at hx109_0); (try rw [show 0 * 3 = 0 from rfl] at hx109_0); (try rw [Addr.add_zero'] at hx109_0); (try rw [show ((0 : Int)).toNat = 0 from rfl] at hx109_1); (try rw [show 0 * 3 = 0 from rfl] at hx109_1); (try rw [Addr.add_zero'] at hx109_1); (try rw [show ((0 : Int)).toNat = 0 from rfl] at hx109_2); (try rw [show 0 * 3 = 0 from rfl] at hx109_2); (try rw [Addr.add_zero'] at hx109_2); replace hx109_0 := (HB.out.cell (World.block_lt_of_cell? w _ hx109_0)).trans hx109_0; replace hx109_1 := (HB.out.cell (World.block_lt_of_cell? w _ hx109_1)).trans hx109_1; replace hx109_2 := (HB.out.cell (World.block_lt_of_cell? w _ hx109_2)).trans hx109_2; have HR109_1 := Aside0.mk hi109_1; have HC109_1 := Aside0.mk hl109_1; clear hi109_1 hl109_1; replace p109 := eq_true p109; replace q109 := eq_true q109) | ((with_reducible refine gate_callee (f := 16) rfl ?_); refine goesL_ (some 14) rfl rfl Try.func16 (by kernel_rfl) rfl #[.agg #[.string ((rd_T24 l0_1 0).f0), .slice A109_1 ((rd_T24 l0_1 0).f1).length c109_1, .bool ((rd_T24 l0_1 0).f2)]] rfl (by (try simp only [List.map_toArray, List.map_cons, List.map_nil]); first | done | rfl | (simp only [List.length_drop, List.length_take]; rfl)) ?_; (with_reducible refine (ih k (by omega) ((rd_T24 l0_1 0).f0) _ _ ((rd_T24 l0_1 0).f1) ((rd_T24 l0_1 0).f2) t110 _ ?side1 ?side2 A4.out).mono ?_); (case side1 => repeat (first | exact (Kd.C_below HR109_1.out HB.out) | (with_reducible refine Kd.C_alloc ?_ _) | (with_reducible refine Kd.C_drewN ?_ _) | (with_reducible refine Kd.C_drew ?_))); (case side2 => exact HC109_1.out); rintro e w15 ⟨rfl, hb⟩; refine ⟨_, rfl, ?_⟩; have n0_ := Aside0.mk (blk_below (g := gb108) (o := .cells #[.string a0_0, .slice (some ad109) l0_1.length c0_1, .bool false] 24 (0, 0)) (by (with_reducible repeat (first | refine blk_drewN ?_ _ | refine blk_drew ?_ | refine blk_alloc ?_ _)); exact BK108.out) hb); have n1_ := Aside0.mk (below_step (by repeat (first | (with_reducible first | exact HB.out | apply below_alloc | apply pw_below_drewN | apply below_drew1 | refine below_set ?_ GE108.out) | exact HB.out)) hb); clear BK108; clear HB; have BK108 := n0_; have HB := n1_; clear n0_ n1_; (try clear hb); (try clear hb2); (try clear hk); (try clear hi); have hcz16_0 : w15.cell? ⟨gb108, 0, none⟩ = some (.string a0_0) := (blk_cell BK108.out 0).trans rfl; have hcz16_1 : w15.cell? ⟨gb108, 1, none⟩ = some (.slice (some ad109) l0_1.length c0_1) := (blk_cell BK108.out 1).trans rfl; have hcz16_2 : w15.cell? ⟨gb108, 2, none⟩ = some (.bool false) := (blk_cell BK108.out 2).trans rfl; have hfz16_0 := blk_frozen BK108.out 0; have hfz16_1 := blk_frozen BK108.out 1; have hfz16_2 := blk_frozen BK108.out 2))
            go_ret
            exact ⟨by first | rfl | (simp [errW_none, errW_some] <;> rfl) | (simp [*, errW_none, errW_some] <;> rfl), by repeat (first | (with_reducible first | exact HB.out | apply below_alloc | apply pw_below_drewN | apply below_drew1 | refine below_set ?_ GE108.out) | exact HB.out)⟩
        · rw [if_neg c6] at H
          exact absurd H (by simp)
      · rw [if_neg c5] at H
        exact absurd H (by simp)
    · rw [if_neg c3] at H
      exact absurd H (by simp)
  · rw [if_neg c2] at H
    have c2b0 : decide (0 < (l0_1.length : Int)) = false := decide_eq_false c2
    have c2b1 : decide (0 < l0_1.length) = false := decide_eq_false (by omega)
    clear c2
    by_cases c17 : a0_2 = true
    · subst c17
      have H1 : (if a0_0.size + 1 ≤ 9223372036854775807 then (some (a0_0 ++ (⟨#[33]⟩ : ByteArray))) else (none)) = some r := by rw [if_pos rfl] at H; exact H
      clear H
      have H := H1
      clear H1
      by_cases c18 : a0_0.size + 1 ≤ 9223372036854775807
      · rw [if_pos c18] at H
        have c18b0 := eq_true c18
        have c18b1 : decide (a0_0.size + 1 ≤ 9223372036854775807) = true := decide_eq_true c18
        try have c18b2 : (9223372036854775807 < a0_0.size + 1) = False := eq_false (Nat.not_lt.2 c18)
        obtain rfl := Option.some.inj H
        go_enter Try.func16, Try.ntmps16
        go_wp2_with (first | ((with_reducible refine gate_dst (N := 1) rfl ?_); refine box_event ?hg (N := 1) ?hd (cs := #[.string a0_0, .slice A0_1 l0_1.length c0_1, .bool true]) (t := 24) ?hr ?_; (case hd => rfl); (case hg => rfl); (case hr => first | (go_simp; done) | (go_simp; rfl)); intro gb108 hg w19 hbox hb; have n0_ := Aside0.mk (below_step (by repeat (first | (with_reducible first | exact HB.out | apply below_alloc | apply pw_below_drewN | apply below_drew1) | exact HB.out)) hb); have n1_ := Aside0.mk (hbox); have n2_ := Aside0.mk ((by rw [hg]; exact (below_size (by repeat (first | (with_reducible first | exact HB.out | apply below_alloc | apply pw_below_drewN | apply below_drew1) | exact HB.out))) : w.heap.size ≤ gb108)); have n3_ := Aside0.mk ((by rw [hg]; exact (below_size (by repeat (first | (with_reducible first | exact HB.out | apply below_alloc | apply pw_below_drewN | apply below_drew1) | exact HB.out))) : w.heap.size ≤ gb108)); clear HB; have HB := n0_; have BK108 := n1_; have GW108 := n2_; have GE108 := n3_; clear n0_ n1_ n2_ n3_; clear hb hbox hg; have hcz20_0 : w19.cell? ⟨gb108, 0, none⟩ = some (.string a0_0) := (blk_cell BK108.out 0).trans rfl; have hcz20_1 : w19.cell? ⟨gb108, 1, none⟩ = some (.slice A0_1 l0_1.length c0_1) := (blk_cell BK108.out 1).trans rfl; have hcz20_2 : w19.cell? ⟨gb108, 2, none⟩ = some (.bool true) := (blk_cell BK108.out 2).trans rfl; have hfz20_0 := blk_frozen BK108.out 0; have hfz20_1 := blk_frozen BK108.out 1; have hfz20_2 := blk_frozen BK108.out 2))
        go_ret
        exact ⟨by first | rfl | (simp [errW_none, errW_some] <;> rfl) | (simp [*, errW_none, errW_some] <;> rfl), by repeat (first | (with_reducible first | exact HB.out | apply below_alloc | apply pw_below_drewN | apply below_drew1 | refine below_set ?_ GE108.out) | exact HB.out)⟩
      · rw [if_neg c18] at H
        exact absurd H (by simp)
    · replace c17 := Bool.eq_false_iff.mpr c17
      subst c17
      have H1 : (some a0_0) = some r := by rw [if_neg (show ¬ (false = true) by decide)] at H; exact H
      clear H
      have H := H1
      clear H1
      obtain rfl := Option.some.inj H
      go_enter Try.func16, Try.ntmps16
      go_wp2_with (first | ((with_reducible refine gate_dst (N := 1) rfl ?_); refine box_event ?hg (N := 1) ?hd (cs := #[.string a0_0, .slice A0_1 l0_1.length c0_1, .bool false]) (t := 24) ?hr ?_; (case hd => rfl); (case hg => rfl); (case hr => first | (go_simp; done) | (go_simp; rfl)); intro gb108 hg w21 hbox hb; have n0_ := Aside0.mk (below_step (by repeat (first | (with_reducible first | exact HB.out | apply below_alloc | apply pw_below_drewN | apply below_drew1) | exact HB.out)) hb); have n1_ := Aside0.mk (hbox); have n2_ := Aside0.mk ((by rw [hg]; exact (below_size (by repeat (first | (with_reducible first | exact HB.out | apply below_alloc | apply pw_below_drewN | apply below_drew1) | exact HB.out))) : w.heap.size ≤ gb108)); have n3_ := Aside0.mk ((by rw [hg]; exact (below_size (by repeat (first | (with_reducible first | exact HB.out | apply below_alloc | apply pw_below_drewN | apply below_drew1) | exact HB.out))) : w.heap.size ≤ gb108)); clear HB; have HB := n0_; have BK108 := n1_; have GW108 := n2_; have GE108 := n3_; clear n0_ n1_ n2_ n3_; clear hb hbox hg; have hcz22_0 : w21.cell? ⟨gb108, 0, none⟩ = some (.string a0_0) := (blk_cell BK108.out 0).trans rfl; have hcz22_1 : w21.cell? ⟨gb108, 1, none⟩ = some (.slice A0_1 l0_1.length c0_1) := (blk_cell BK108.out 1).trans rfl; have hcz22_2 : w21.cell? ⟨gb108, 2, none⟩ = some (.bool false) := (blk_cell BK108.out 2).trans rfl; have hfz22_0 := blk_frozen BK108.out 0; have hfz22_1 := blk_frozen BK108.out 1; have hfz22_2 := blk_frozen BK108.out 2))
      go_ret
      exact ⟨by first | rfl | (simp [errW_none, errW_some] <;> rfl) | (simp [*, errW_none, errW_some] <;> rfl), by repeat (first | (with_reducible first | exact HB.out | apply below_alloc | apply pw_below_drewN | apply below_drew1 | refine below_set ?_ GE108.out) | exact HB.out)⟩

-- NOT PRINTED: function 18 (spec_Base)

/-! ### laws_zzFits22: function 11 -/
def laws_zzFits22.f (a0_0 : ByteArray) (l0_1 : List (S24)) (a0_2 : Bool) : Option (Bool) := if (a0_0.size : Int) > 2147483647 then (some false) else (if (l0_1.length : Int) > 2147483647 then (some false) else (some true))
set_option maxHeartbeats 8000000 in
set_option maxRecDepth 100000 in
theorem laws_zzFits22.calls (a0_0 : ByteArray) (A0_1 : Option Addr) (c0_1 : Nat) (l0_1 : List (S24)) (a0_2 : Bool) (r : Bool) (w : World) (hr0_1 : Kd.C k24 w A0_1 l0_1.length l0_1) (hc0_1 : l0_1.length ≤ c0_1) (h : laws_zzFits22.f a0_0 l0_1 a0_2 = some r) :
    Calls Try.prog 11 #[.agg #[.string a0_0, .slice A0_1 l0_1.length c0_1, .bool a0_2]] w fun e w' => e = .returned (.bool r) ∧ Below w.heap.size w w' := by
  have hu24 := Try.underlying24
  have HR0_1 := Aside0.mk hr0_1
  have HC0_1 := Aside0.mk hc0_1
  clear hr0_1 hc0_1
  have HB := Aside0.mk (Below.refl w.heap.size w)
  have H : (if (a0_0.size : Int) > 2147483647 then (some false) else (if (l0_1.length : Int) > 2147483647 then (some false) else (some true))) = some r := h
  clear h
  by_cases c2 : (a0_0.size : Int) > 2147483647
  · rw [if_pos c2] at H
    have c2b0 : decide (2147483647 < (a0_0.size : Int)) = true := decide_eq_true c2
    have c2b1 : decide (2147483647 < a0_0.size) = true := decide_eq_true (by omega)
    clear c2
    obtain rfl := Option.some.inj H
    go_enter Try.func11, Try.ntmps11
    go_wp2_with (first | ((with_reducible refine gate_dst (N := 1) rfl ?_); refine box_event ?hg (N := 1) ?hd (cs := #[.string a0_0, .slice A0_1 l0_1.length c0_1, .bool a0_2]) (t := 24) ?hr ?_; (case hd => rfl); (case hg => rfl); (case hr => first | (go_simp; done) | (go_simp; rfl)); intro gb112 hg w3 hbox hb; have n0_ := Aside0.mk (below_step (by repeat (first | (with_reducible first | exact HB.out | apply below_alloc | apply pw_below_drewN | apply below_drew1) | exact HB.out)) hb); have n1_ := Aside0.mk (hbox); have n2_ := Aside0.mk ((by rw [hg]; exact (below_size (by repeat (first | (with_reducible first | exact HB.out | apply below_alloc | apply pw_below_drewN | apply below_drew1) | exact HB.out))) : w.heap.size ≤ gb112)); have n3_ := Aside0.mk ((by rw [hg]; exact (below_size (by repeat (first | (with_reducible first | exact HB.out | apply below_alloc | apply pw_below_drewN | apply below_drew1) | exact HB.out))) : w.heap.size ≤ gb112)); clear HB; have HB := n0_; have BK112 := n1_; have GW112 := n2_; have GE112 := n3_; clear n0_ n1_ n2_ n3_; clear hb hbox hg; have hcz4_0 : w3.cell? ⟨gb112, 0, none⟩ = some (.string a0_0) := (blk_cell BK112.out 0).trans rfl; have hcz4_1 : w3.cell? ⟨gb112, 1, none⟩ = some (.slice A0_1 l0_1.length c0_1) := (blk_cell BK112.out 1).trans rfl; have hcz4_2 : w3.cell? ⟨gb112, 2, none⟩ = some (.bool a0_2) := (blk_cell BK112.out 2).trans rfl; have hfz4_0 := blk_frozen BK112.out 0; have hfz4_1 := blk_frozen BK112.out 1; have hfz4_2 := blk_frozen BK112.out 2))
    go_ret
    exact ⟨by first | rfl | (simp [errW_none, errW_some] <;> rfl) | (simp [*, errW_none, errW_some] <;> rfl), by repeat (first | (with_reducible first | exact HB.out | apply below_alloc | apply pw_below_drewN | apply below_drew1 | refine below_set ?_ GE112.out) | exact HB.out)⟩
  · rw [if_neg c2] at H
    have c2b0 : decide (2147483647 < (a0_0.size : Int)) = false := decide_eq_false c2
    have c2b1 : decide (2147483647 < a0_0.size) = false := decide_eq_false (by omega)
    clear c2
    by_cases c5 : (l0_1.length : Int) > 2147483647
    · rw [if_pos c5] at H
      have c5b0 : decide (2147483647 < (l0_1.length : Int)) = true := decide_eq_true c5
      have c5b1 : decide (2147483647 < l0_1.length) = true := decide_eq_true (by omega)
      clear c5
      obtain rfl := Option.some.inj H
      go_enter Try.func11, Try.ntmps11
      go_wp2_with (first | ((with_reducible refine gate_dst (N := 1) rfl ?_); refine box_event ?hg (N := 1) ?hd (cs := #[.string a0_0, .slice A0_1 l0_1.length c0_1, .bool a0_2]) (t := 24) ?hr ?_; (case hd => rfl); (case hg => rfl); (case hr => first | (go_simp; done) | (go_simp; rfl)); intro gb112 hg w6 hbox hb; have n0_ := Aside0.mk (below_step (by repeat (first | (with_reducible first | exact HB.out | apply below_alloc | apply pw_below_drewN | apply below_drew1) | exact HB.out)) hb); have n1_ := Aside0.mk (hbox); have n2_ := Aside0.mk ((by rw [hg]; exact (below_size (by repeat (first | (with_reducible first | exact HB.out | apply below_alloc | apply pw_below_drewN | apply below_drew1) | exact HB.out))) : w.heap.size ≤ gb112)); have n3_ := Aside0.mk ((by rw [hg]; exact (below_size (by repeat (first | (with_reducible first | exact HB.out | apply below_alloc | apply pw_below_drewN | apply below_drew1) | exact HB.out))) : w.heap.size ≤ gb112)); clear HB; have HB := n0_; have BK112 := n1_; have GW112 := n2_; have GE112 := n3_; clear n0_ n1_ n2_ n3_; clear hb hbox hg; have hcz7_0 : w6.cell? ⟨gb112, 0, none⟩ = some (.string a0_0) := (blk_cell BK112.out 0).trans rfl; have hcz7_1 : w6.cell? ⟨gb112, 1, none⟩ = some (.slice A0_1 l0_1.length c0_1) := (blk_cell BK112.out 1).trans rfl; have hcz7_2 : w6.cell? ⟨gb112, 2, none⟩ = some (.bool a0_2) := (blk_cell BK112.out 2).trans rfl; have hfz7_0 := blk_frozen BK112.out 0; have hfz7_1 := blk_frozen BK112.out 1; have hfz7_2 := blk_frozen BK112.out 2))
      go_ret
      exact ⟨by first | rfl | (simp [errW_none, errW_some] <;> rfl) | (simp [*, errW_none, errW_some] <;> rfl), by repeat (first | (with_reducible first | exact HB.out | apply below_alloc | apply pw_below_drewN | apply below_drew1 | refine below_set ?_ GE112.out) | exact HB.out)⟩
    · rw [if_neg c5] at H
      have c5b0 : decide (2147483647 < (l0_1.length : Int)) = false := decide_eq_false c5
      have c5b1 : decide (2147483647 < l0_1.length) = false := decide_eq_false (by omega)
      clear c5
      obtain rfl := Option.some.inj H
      go_enter Try.func11, Try.ntmps11
      go_wp2_with (first | ((with_reducible refine gate_dst (N := 1) rfl ?_); refine box_event ?hg (N := 1) ?hd (cs := #[.string a0_0, .slice A0_1 l0_1.length c0_1, .bool a0_2]) (t := 24) ?hr ?_; (case hd => rfl); (case hg => rfl); (case hr => first | (go_simp; done) | (go_simp; rfl)); intro gb112 hg w8 hbox hb; have n0_ := Aside0.mk (below_step (by repeat (first | (with_reducible first | exact HB.out | apply below_alloc | apply pw_below_drewN | apply below_drew1) | exact HB.out)) hb); have n1_ := Aside0.mk (hbox); have n2_ := Aside0.mk ((by rw [hg]; exact (below_size (by repeat (first | (with_reducible first | exact HB.out | apply below_alloc | apply pw_below_drewN | apply below_drew1) | exact HB.out))) : w.heap.size ≤ gb112)); have n3_ := Aside0.mk ((by rw [hg]; exact (below_size (by repeat (first | (with_reducible first | exact HB.out | apply below_alloc | apply pw_below_drewN | apply below_drew1) | exact HB.out))) : w.heap.size ≤ gb112)); clear HB; have HB := n0_; have BK112 := n1_; have GW112 := n2_; have GE112 := n3_; clear n0_ n1_ n2_ n3_; clear hb hbox hg; have hcz9_0 : w8.cell? ⟨gb112, 0, none⟩ = some (.string a0_0) := (blk_cell BK112.out 0).trans rfl; have hcz9_1 : w8.cell? ⟨gb112, 1, none⟩ = some (.slice A0_1 l0_1.length c0_1) := (blk_cell BK112.out 1).trans rfl; have hcz9_2 : w8.cell? ⟨gb112, 2, none⟩ = some (.bool a0_2) := (blk_cell BK112.out 2).trans rfl; have hfz9_0 := blk_frozen BK112.out 0; have hfz9_1 := blk_frozen BK112.out 1; have hfz9_2 := blk_frozen BK112.out 2))
      go_ret
      exact ⟨by first | rfl | (simp [errW_none, errW_some] <;> rfl) | (simp [*, errW_none, errW_some] <;> rfl), by repeat (first | (with_reducible first | exact HB.out | apply below_alloc | apply pw_below_drewN | apply below_drew1 | refine below_set ?_ GE112.out) | exact HB.out)⟩

/-! ### spec_IsStart: function 67 -/
def spec_IsStart.f (a0 : Int) : Option (Bool) := if a0 = 95 then (some true) else (if a0 ≥ 97 then (if a0 ≤ 122 then (some true) else (if a0 ≥ 65 then (some (decide (a0 ≤ 90))) else (some false))) else (if a0 ≥ 65 then (some (decide (a0 ≤ 90))) else (some false)))
set_option maxHeartbeats 8000000 in
set_option maxRecDepth 100000 in
theorem spec_IsStart.calls (a0 : Int) (r : Bool) (w : World) (h : spec_IsStart.f a0 = some r) :
    Calls Try.prog 67 #[.int .i32 a0] w fun e w' => e = .returned (.bool r) ∧ Drawn0 w w' := by
  have H : (if a0 = 95 then (some true) else (if a0 ≥ 97 then (if a0 ≤ 122 then (some true) else (if a0 ≥ 65 then (some (decide (a0 ≤ 90))) else (some false))) else (if a0 ≥ 65 then (some (decide (a0 ≤ 90))) else (some false)))) = some r := h
  clear h
  by_cases c2 : a0 = 95
  · rw [if_pos c2] at H
    have c2b0 : (a0 == 95) = true := beq_iff_eq.mpr c2
    have c2b1 : (a0 != 95) = false := bne_eq_false_iff_eq.mpr c2
    clear c2
    obtain rfl := Option.some.inj H
    go_enter Try.func67, Try.ntmps67
    go_wp2
    go_ret
    exact ⟨by first | rfl | (simp; done) | (simp [*]; done), by repeat (first | exact Drawn0.refl _ | apply Drawn0.step)⟩
  · rw [if_neg c2] at H
    have c2b0 : (a0 == 95) = false := beq_eq_false_iff_ne.mpr c2
    have c2b1 : (a0 != 95) = true := bne_iff_ne.mpr c2
    by_cases c3 : a0 ≥ 97
    · rw [if_pos c3] at H
      have c3b0 : decide (97 ≤ a0) = true := decide_eq_true c3
      clear c3
      by_cases c4 : a0 ≤ 122
      · rw [if_pos c4] at H
        have c4b0 : decide (a0 ≤ 122) = true := decide_eq_true c4
        clear c4
        obtain rfl := Option.some.inj H
        go_enter Try.func67, Try.ntmps67
        go_wp2
        go_ret
        exact ⟨by first | rfl | (simp; done) | (simp [*]; done), by repeat (first | exact Drawn0.refl _ | apply Drawn0.step)⟩
      · rw [if_neg c4] at H
        have c4b0 : decide (a0 ≤ 122) = false := decide_eq_false c4
        clear c4
        by_cases c5 : a0 ≥ 65
        · rw [if_pos c5] at H
          have c5b0 : decide (65 ≤ a0) = true := decide_eq_true c5
          clear c5
          obtain rfl := Option.some.inj H
          go_enter Try.func67, Try.ntmps67
          go_wp2
          go_ret
          exact ⟨by first | rfl | (simp; done) | (simp [*]; done), by repeat (first | exact Drawn0.refl _ | apply Drawn0.step)⟩
        · rw [if_neg c5] at H
          have c5b0 : decide (65 ≤ a0) = false := decide_eq_false c5
          clear c5
          obtain rfl := Option.some.inj H
          go_enter Try.func67, Try.ntmps67
          go_wp2
          go_ret
          exact ⟨by first | rfl | (simp; done) | (simp [*]; done), by repeat (first | exact Drawn0.refl _ | apply Drawn0.step)⟩
    · rw [if_neg c3] at H
      have c3b0 : decide (97 ≤ a0) = false := decide_eq_false c3
      clear c3
      by_cases c6 : a0 ≥ 65
      · rw [if_pos c6] at H
        have c6b0 : decide (65 ≤ a0) = true := decide_eq_true c6
        clear c6
        obtain rfl := Option.some.inj H
        go_enter Try.func67, Try.ntmps67
        go_wp2
        go_ret
        exact ⟨by first | rfl | (simp; done) | (simp [*]; done), by repeat (first | exact Drawn0.refl _ | apply Drawn0.step)⟩
      · rw [if_neg c6] at H
        have c6b0 : decide (65 ≤ a0) = false := decide_eq_false c6
        clear c6
        obtain rfl := Option.some.inj H
        go_enter Try.func67, Try.ntmps67
        go_wp2
        go_ret
        exact ⟨by first | rfl | (simp; done) | (simp [*]; done), by repeat (first | exact Drawn0.refl _ | apply Drawn0.step)⟩

/-! ### spec_IsDigit: function 68 -/
def spec_IsDigit.f (a0 : Int) : Option (Bool) := if a0 ≥ 48 then (some (decide (a0 ≤ 57))) else (some false)
set_option maxHeartbeats 8000000 in
set_option maxRecDepth 100000 in
theorem spec_IsDigit.calls (a0 : Int) (r : Bool) (w : World) (h : spec_IsDigit.f a0 = some r) :
    Calls Try.prog 68 #[.int .i32 a0] w fun e w' => e = .returned (.bool r) ∧ Drawn0 w w' := by
  have H : (if a0 ≥ 48 then (some (decide (a0 ≤ 57))) else (some false)) = some r := h
  clear h
  by_cases c2 : a0 ≥ 48
  · rw [if_pos c2] at H
    have c2b0 : decide (48 ≤ a0) = true := decide_eq_true c2
    clear c2
    obtain rfl := Option.some.inj H
    go_enter Try.func68, Try.ntmps68
    go_wp2
    go_ret
    exact ⟨by first | rfl | (simp; done) | (simp [*]; done), by repeat (first | exact Drawn0.refl _ | apply Drawn0.step)⟩
  · rw [if_neg c2] at H
    have c2b0 : decide (48 ≤ a0) = false := decide_eq_false c2
    clear c2
    obtain rfl := Option.some.inj H
    go_enter Try.func68, Try.ntmps68
    go_wp2
    go_ret
    exact ⟨by first | rfl | (simp; done) | (simp [*]; done), by repeat (first | exact Drawn0.refl _ | apply Drawn0.step)⟩

/-! ### spec_IsName: function 36 -/
def spec_IsName.l0 : Nat → ByteArray → Int → Option (Bool)
  | 0, _, _ => none
  | k + 1, x0, x3 => if x3 < (x0.size : Int) then (if 0 ≤ x3 then ((spec_IsStart.f (wrap32 (bt x0 x3))).bind fun t113 => (if t113 = true then (spec_IsName.l0 k x0 (wrap64 (x3 + 1))) else (if x3 = 0 then (some false) else ((spec_IsDigit.f (wrap32 (bt x0 x3))).bind fun t114 => (if t114 = true then (spec_IsName.l0 k x0 (wrap64 (x3 + 1))) else (some false)))))) else (none)) else (some (x0.toList != ([] : List UInt8)))
def spec_IsName.f (k : Nat) (a0 : ByteArray) : Option (Bool) := spec_IsName.l0 k a0 0
theorem spec_IsName.mono_l : ∀ k, (∀ y0 y1, LeO (spec_IsName.l0 k y0 y1) (spec_IsName.l0 (k + 1) y0 y1))
  | 0 => fun _ _ r h => by simp [spec_IsName.l0] at h
  | k + 1 => by
    have ih0 := spec_IsName.mono_l k
    · intro y0 y1
      unfold spec_IsName.l0
      repeat' first
      | (with_reducible exact ih0 _ _)
      | (with_reducible exact LeO.refl _)
      | (with_reducible exact LeO.none _)
      | (with_reducible refine LeO.ite ?_ ?_)
      | (with_reducible refine LeO.bind ?_ (fun _ => ?_))
      | exact ih0 _ _
      | exact LeO.none _
      | refine LeO.ite ?_ ?_
      | refine LeO.bind ?_ (fun _ => ?_)
theorem spec_IsName.mono : ∀ a0 k, LeO (spec_IsName.f k a0) (spec_IsName.f (k + 1) a0) := by
  intro a0 k
  have ih0 := spec_IsName.mono_l k
  unfold spec_IsName.f
  repeat' first
      | (with_reducible exact ih0 _ _)
      | (with_reducible exact LeO.refl _)
      | (with_reducible exact LeO.none _)
      | (with_reducible refine LeO.ite ?_ ?_)
      | (with_reducible refine LeO.bind ?_ (fun _ => ?_))
      | exact ih0 _ _
      | exact LeO.none _
      | refine LeO.ite ?_ ?_
      | refine LeO.bind ?_ (fun _ => ?_)
set_option maxHeartbeats 8000000 in
set_option maxRecDepth 100000 in
theorem spec_IsName.calls (k : Nat) (a0 : ByteArray) (r : Bool) (w : World) (h : spec_IsName.f k a0 = some r) :
    Calls Try.prog 36 #[.string a0] w fun e w' => e = .returned (.bool r) ∧ Drawn0 w w' := by
  have H : (spec_IsName.l0 k a0 0) = some r := h
  clear h
  have H' := Aside0.mk H
  clear H
  go_enter Try.func36, Try.ntmps36
  go_wp2
  go_loopg [3] k (fun kq v3 w' => ∃ (x3_1 : Int), v3 = .int .i64 x3_1 ∧ Aside0 (spec_IsName.l0 kq a0 x3_1 = some r) ∧ Aside0 (kq ≤ k) ∧ Drawn0 w w')
  case atStart => exact ⟨(0), (by first | rfl | (simp; done) | (simp [*]; done)), H', ⟨Nat.le_refl _⟩, by repeat (first | exact Drawn0.refl _ | apply Drawn0.step)⟩
  case round =>
    clear H'
    obtain ⟨x3_1, rfl, HA, HK1, ⟨m1, rfl⟩⟩ := hrel
    cases gk with
    | zero => exact absurd HA.out (by simp [spec_IsName.l0])
    | succ k1 =>
      have H := HA.out
      clear HA
      simp only [spec_IsName.l0] at H
      by_cases c2 : x3_1 < (a0.size : Int)
      · rw [if_pos c2] at H
        have c2b0 : decide (x3_1 < (a0.size : Int)) = true := decide_eq_true c2
        clear c2
        by_cases c3 : 0 ≤ x3_1
        · rw [if_pos c3] at H
          have c3b0 : decide (0 ≤ x3_1) = true := decide_eq_true c3
          clear c3
          replace H := Option.bind_eq_some_iff.mp H
          obtain ⟨t113, A50, H⟩ := H
          replace H : (if t113 = true then (spec_IsName.l0 k1 a0 (wrap64 (x3_1 + 1))) else (if x3_1 = 0 then (some false) else ((spec_IsDigit.f (wrap32 (bt a0 x3_1))).bind fun t114 => (if t114 = true then (spec_IsName.l0 k1 a0 (wrap64 (x3_1 + 1))) else (some false))))) = some r := H
          have A5 := Aside0.mk A50
          clear A50
          by_cases c6 : t113 = true
          · subst c6
            have H1 : (spec_IsName.l0 k1 a0 (wrap64 (x3_1 + 1))) = some r := by rw [if_pos rfl] at H; exact H
            clear H
            have H := H1
            clear H1
            have H' := Aside0.mk H
            clear H
            have p4 : 0 ≤ (x3_1 : Int) := of_decide_eq_true (by first | (with_reducible assumption) | assumption)
            have q4 : x3_1 < (a0.size : Int) := of_decide_eq_true (by first | (with_reducible assumption) | assumption)
            have hx4 := bt_at a0 x3_1
            replace p4 := eq_true p4
            replace q4 := eq_true q4
            go_wp2_with (first | ((with_reducible refine gate_callee (f := 67) rfl ?_); refine goesL_ (some 16) rfl rfl Try.func67 (by kernel_rfl) rfl #[.int .i32 (wrap32 (bt a0 x3_1))] rfl (by (try simp only [List.map_toArray, List.map_cons, List.map_nil]); first | done | rfl | (simp only [List.length_drop, List.length_take]; rfl)) ?_; (with_reducible refine (spec_IsStart.calls (wrap32 (bt a0 x3_1)) true _ A5.out).mono ?_); rintro e w' ⟨rfl, ⟨nd, rfl⟩⟩; refine ⟨_, rfl, ?_⟩))
            go_roundg k1
            case measure => have := HK1.out; omega
            case rel => exact ⟨(wrap64 (x3_1 + 1)), (by first | rfl | (simp; done) | (simp [*]; done)), H', ⟨by have := HK1.out; omega⟩, by repeat (first | exact Drawn0.refl _ | apply Drawn0.step)⟩
          · replace c6 := Bool.eq_false_iff.mpr c6
            subst c6
            have H1 : (if x3_1 = 0 then (some false) else ((spec_IsDigit.f (wrap32 (bt a0 x3_1))).bind fun t114 => (if t114 = true then (spec_IsName.l0 k1 a0 (wrap64 (x3_1 + 1))) else (some false)))) = some r := by rw [if_neg (show ¬ (false = true) by decide)] at H; exact H
            clear H
            have H := H1
            clear H1
            by_cases c7 : x3_1 = 0
            · rw [if_pos c7] at H
              have c7b0 : (x3_1 == 0) = true := beq_iff_eq.mpr c7
              have c7b1 : (x3_1 != 0) = false := bne_eq_false_iff_eq.mpr c7
              clear c7
              obtain rfl := Option.some.inj H
              have p4 : 0 ≤ (x3_1 : Int) := of_decide_eq_true (by first | (with_reducible assumption) | assumption)
              have q4 : x3_1 < (a0.size : Int) := of_decide_eq_true (by first | (with_reducible assumption) | assumption)
              have hx4 := bt_at a0 x3_1
              replace p4 := eq_true p4
              replace q4 := eq_true q4
              go_wp2_with (first | ((with_reducible refine gate_callee (f := 67) rfl ?_); refine goesL_ (some 16) rfl rfl Try.func67 (by kernel_rfl) rfl #[.int .i32 (wrap32 (bt a0 x3_1))] rfl (by (try simp only [List.map_toArray, List.map_cons, List.map_nil]); first | done | rfl | (simp only [List.length_drop, List.length_take]; rfl)) ?_; (with_reducible refine (spec_IsStart.calls (wrap32 (bt a0 x3_1)) false _ A5.out).mono ?_); rintro e w' ⟨rfl, ⟨nd, rfl⟩⟩; refine ⟨_, rfl, ?_⟩))
              go_ret
              exact ⟨by first | rfl | (simp; done) | (simp [*]; done), by repeat (first | exact Drawn0.refl _ | apply Drawn0.step)⟩
            · rw [if_neg c7] at H
              have c7b0 : (x3_1 == 0) = false := beq_eq_false_iff_ne.mpr c7
              have c7b1 : (x3_1 != 0) = true := bne_iff_ne.mpr c7
              replace H := Option.bind_eq_some_iff.mp H
              obtain ⟨t114, A80, H⟩ := H
              replace H : (if t114 = true then (spec_IsName.l0 k1 a0 (wrap64 (x3_1 + 1))) else (some false)) = some r := H
              have A8 := Aside0.mk A80
              clear A80
              by_cases c9 : t114 = true
              · subst c9
                have H1 : (spec_IsName.l0 k1 a0 (wrap64 (x3_1 + 1))) = some r := by rw [if_pos rfl] at H; exact H
                clear H
                have H := H1
                clear H1
                have H' := Aside0.mk H
                clear H
                have p4 : 0 ≤ (x3_1 : Int) := of_decide_eq_true (by first | (with_reducible assumption) | assumption)
                have q4 : x3_1 < (a0.size : Int) := of_decide_eq_true (by first | (with_reducible assumption) | assumption)
                have hx4 := bt_at a0 x3_1
                replace p4 := eq_true p4
                replace q4 := eq_true q4
                go_wp2_with (first | ((with_reducible refine gate_callee (f := 67) rfl ?_); refine goesL_ (some 16) rfl rfl Try.func67 (by kernel_rfl) rfl #[.int .i32 (wrap32 (bt a0 x3_1))] rfl (by (try simp only [List.map_toArray, List.map_cons, List.map_nil]); first | done | rfl | (simp only [List.length_drop, List.length_take]; rfl)) ?_; (with_reducible refine (spec_IsStart.calls (wrap32 (bt a0 x3_1)) false _ A5.out).mono ?_); rintro e w' ⟨rfl, ⟨nd, rfl⟩⟩; refine ⟨_, rfl, ?_⟩) | (go_at_call 68; (with_reducible refine (spec_IsDigit.calls (wrap32 (bt a0 x3_1)) true _ A8.out).mono ?_); rintro e w' ⟨rfl, ⟨nd, rfl⟩⟩))
                go_roundg k1
                case measure => have := HK1.out; omega
                case rel => exact ⟨(wrap64 (x3_1 + 1)), (by first | rfl | (simp; done) | (simp [*]; done)), H', ⟨by have := HK1.out; omega⟩, by repeat (first | exact Drawn0.refl _ | apply Drawn0.step)⟩
              · replace c9 := Bool.eq_false_iff.mpr c9
                subst c9
                have H1 : (some false) = some r := by rw [if_neg (show ¬ (false = true) by decide)] at H; exact H
                clear H
                have H := H1
                clear H1
                obtain rfl := Option.some.inj H
                have p4 : 0 ≤ (x3_1 : Int) := of_decide_eq_true (by first | (with_reducible assumption) | assumption)
                have q4 : x3_1 < (a0.size : Int) := of_decide_eq_true (by first | (with_reducible assumption) | assumption)
                have hx4 := bt_at a0 x3_1
                replace p4 := eq_true p4
                replace q4 := eq_true q4
                go_wp2_with (first | ((with_reducible refine gate_callee (f := 67) rfl ?_); refine goesL_ (some 16) rfl rfl Try.func67 (by kernel_rfl) rfl #[.int .i32 (wrap32 (bt a0 x3_1))] rfl (by (try simp only [List.map_toArray, List.map_cons, List.map_nil]); first | done | rfl | (simp only [List.length_drop, List.length_take]; rfl)) ?_; (with_reducible refine (spec_IsStart.calls (wrap32 (bt a0 x3_1)) false _ A5.out).mono ?_); rintro e w' ⟨rfl, ⟨nd, rfl⟩⟩; refine ⟨_, rfl, ?_⟩) | (go_at_call 68; (with_reducible refine (spec_IsDigit.calls (wrap32 (bt a0 x3_1)) false _ A8.out).mono ?_); rintro e w' ⟨rfl, ⟨nd, rfl⟩⟩))
                go_ret
                exact ⟨by first | rfl | (simp; done) | (simp [*]; done), by repeat (first | exact Drawn0.refl _ | apply Drawn0.step)⟩
        · rw [if_neg c3] at H
          exact absurd H (by simp)
      · rw [if_neg c2] at H
        have c2b0 : decide (x3_1 < (a0.size : Int)) = false := decide_eq_false c2
        clear c2
        obtain rfl := Option.some.inj H
        go_wp2
        go_ret
        exact ⟨by first | (show Ending.returned _ = Ending.returned _; congr 2; cases a0.toList <;> rfl) | rfl | (simp; done) | (simp [*]; done), by repeat (first | exact Drawn0.refl _ | apply Drawn0.step)⟩

/-- THE ONE PURE STATEMENT of spec_IsName: yours. -/
def spec_IsName.Pure : Prop := ∀ (a0 : ByteArray), a0.size ≤ 140737488351232 → ∃ k, spec_IsName.f k a0 = some true
theorem spec_IsName.walk (P : spec_IsName.Pure) (a0 : ByteArray) (w : World) (w0 : a0.size ≤ 140737488351232) :
    Calls Try.prog 36 #[.string a0] w fun e w' => e = .returned (.bool true) ∧ Below w.heap.size w w' := by
  obtain ⟨k, h⟩ := P a0 w0
  refine (spec_IsName.calls k a0 true w h).mono ?_
  rintro e w' ⟨rfl, hd⟩
  exact ⟨rfl, hd.below⟩

end Go.Proofs.Ytamajbaojbghcaa.PT
