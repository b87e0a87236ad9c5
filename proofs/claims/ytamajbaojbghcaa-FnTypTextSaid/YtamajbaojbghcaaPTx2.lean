-- PRINTED by print.py (a twelfth state) out of the translation. Not trusted: Lean checks it.
import Derived.Test.YtamajbaojbghcaaPTx0
import Derived.Test.YtamajbaojbghcaaPTx1
namespace Go.Proofs.Ytamajbaojbghcaa.PT
open Go.RowKit Go.Proofs.YtamajbaojbghcaaW.PrintWords Go.Proofs.YtamajbaojbghcaaW.PrintLast Go.Proofs.YtamajbaojbghcaaW.PrintMore
attribute [local go_sem] max2_int min2_int max_two min_two max_three min_three max_four min_four   -- for this text's walks alone
set_option linter.unusedVariables false
set_option linter.unusedSimpArgs false

/-! ### spec_FitsTyp: function 12 -/
def spec_FitsTyp.f : Nat → ByteArray → List (S24) → Bool → Int → Option (Bool)
  | 0, _, _, _, _ => none
  | k + 1, a0_0, l0_1, a0_2, a1 => if (l0_1.length : Int) = 0 then ((spec_IsName.f k a0_0).bind fun t116 => (some t116)) else (if a1 > 0 then (if (l0_1.length : Int) = 1 then (if a0_0.toList = ([] : List UInt8) then (if 0 < (l0_1.length : Int) then ((spec_FitsTyp.f k ((rd_T24 l0_1 0).f0) ((rd_T24 l0_1 0).f1) ((rd_T24 l0_1 0).f2) (wrap64 (a1 - 1))).bind fun t118 => (some t118)) else (none)) else (some false)) else (some false)) else (some false))
theorem spec_FitsTyp.mono_l : ∀ k, (∀ y0 y1 y2 y3, LeO (spec_FitsTyp.f k y0 y1 y2 y3) (spec_FitsTyp.f (k + 1) y0 y1 y2 y3))
  | 0 => fun _ _ _ _ r h => by simp [spec_FitsTyp.f] at h
  | k + 1 => by
    have ih0 := spec_FitsTyp.mono_l k
    · intro y0 y1 y2 y3
      unfold spec_FitsTyp.f
      repeat' first
      | (with_reducible exact ih0 _ _ _ _)
      | (with_reducible exact spec_IsName.mono _ _)
      | (with_reducible exact LeO.refl _)
      | (with_reducible exact LeO.none _)
      | (with_reducible refine LeO.ite ?_ ?_)
      | (with_reducible refine LeO.bind ?_ (fun _ => ?_))
      | exact ih0 _ _ _ _
      | exact spec_IsName.mono _ _
      | exact LeO.none _
      | refine LeO.ite ?_ ?_
      | refine LeO.bind ?_ (fun _ => ?_)
theorem spec_FitsTyp.mono : ∀ a0 a1 a2 a3 k, LeO (spec_FitsTyp.f k a0 a1 a2 a3) (spec_FitsTyp.f (k + 1) a0 a1 a2 a3) := by
  intro a0 a1 a2 a3 k
  have ih0 := spec_FitsTyp.mono_l k
  exact ih0 a0 a1 a2 a3
set_option maxHeartbeats 8000000 in
set_option maxRecDepth 100000 in
theorem spec_FitsTyp.calls (k : Nat) : ∀ (a0_0 : ByteArray) (A0_1 : Option Addr) (c0_1 : Nat) (l0_1 : List (S24)) (a0_2 : Bool) (a1 : Int) (r : Bool) (w : World) (hr0_1 : Kd.C k24 w A0_1 l0_1.length l0_1) (hc0_1 : l0_1.length ≤ c0_1) (h : spec_FitsTyp.f k a0_0 l0_1 a0_2 a1 = some r),
    Calls Try.prog 12 #[.agg #[.string a0_0, .slice A0_1 l0_1.length c0_1, .bool a0_2], .int .i64 a1] w fun e w' => e = .returned (.bool r) ∧ Below w.heap.size w w' := by
  induction k using Nat.strongRecOn with
  | _ k ih =>
  intro a0_0 A0_1 c0_1 l0_1 a0_2 a1 r w hr0_1 hc0_1 h
  cases k with
  | zero => exact absurd h (by simp [spec_FitsTyp.f])
  | succ k =>
  simp only [spec_FitsTyp.f] at h
  have hu24 := Try.underlying24
  have HR0_1 := Aside0.mk hr0_1
  have HC0_1 := Aside0.mk hc0_1
  clear hr0_1 hc0_1
  have HB := Aside0.mk (Below.refl w.heap.size w)
  have H : (if (l0_1.length : Int) = 0 then ((spec_IsName.f k a0_0).bind fun t116 => (some t116)) else (if a1 > 0 then (if (l0_1.length : Int) = 1 then (if a0_0.toList = ([] : List UInt8) then (if 0 < (l0_1.length : Int) then ((spec_FitsTyp.f k ((rd_T24 l0_1 0).f0) ((rd_T24 l0_1 0).f1) ((rd_T24 l0_1 0).f2) (wrap64 (a1 - 1))).bind fun t118 => (some t118)) else (none)) else (some false)) else (some false)) else (some false))) = some r := h
  clear h
  by_cases c3 : (l0_1.length : Int) = 0
  · rw [if_pos c3] at H
    have c3b0 : ((l0_1.length : Int) == 0) = true := beq_iff_eq.mpr c3
    have c3b1 : ((l0_1.length : Int) != 0) = false := bne_eq_false_iff_eq.mpr c3
    clear c3
    replace H := Option.bind_eq_some_iff.mp H
    obtain ⟨t116, A40, H⟩ := H
    replace H : (some t116) = some r := H
    have A4 := Aside0.mk A40
    clear A40
    obtain rfl := Option.some.inj H
    go_enter Try.func12, Try.ntmps12
    go_wp2_with (first | ((with_reducible refine gate_dst (N := 2) rfl ?_); (try (refine gate_guard (by rfl) ?_; dsimp only)); refine box_event ?hg (N := 2) ?hd (cs := #[.string a0_0, .slice A0_1 l0_1.length c0_1, .bool a0_2]) (t := 24) ?hr ?_; (case hd => rfl); (case hg => rfl); (case hr => first | (go_simp; done) | (go_simp; rfl)); intro gb115 hg w5 hbox hb; have n0_ := Aside0.mk (below_step (by repeat (first | (with_reducible first | exact HB.out | apply below_alloc | apply pw_below_drewN | apply below_drew1) | exact HB.out)) hb); have n1_ := Aside0.mk (hbox); have n2_ := Aside0.mk ((by rw [hg]; exact (below_size (by repeat (first | (with_reducible first | exact HB.out | apply below_alloc | apply pw_below_drewN | apply below_drew1) | exact HB.out))) : w.heap.size ≤ gb115)); have n3_ := Aside0.mk ((by rw [hg]; exact (below_size (by repeat (first | (with_reducible first | exact HB.out | apply below_alloc | apply pw_below_drewN | apply below_drew1) | exact HB.out))) : w.heap.size ≤ gb115)); clear HB; have HB := n0_; have BK115 := n1_; have GW115 := n2_; have GE115 := n3_; clear n0_ n1_ n2_ n3_; clear hb hbox hg; have hcz6_0 : w5.cell? ⟨gb115, 0, none⟩ = some (.string a0_0) := (blk_cell BK115.out 0).trans rfl; have hcz6_1 : w5.cell? ⟨gb115, 1, none⟩ = some (.slice A0_1 l0_1.length c0_1) := (blk_cell BK115.out 1).trans rfl; have hcz6_2 : w5.cell? ⟨gb115, 2, none⟩ = some (.bool a0_2) := (blk_cell BK115.out 2).trans rfl; have hfz6_0 := blk_frozen BK115.out 0; have hfz6_1 := blk_frozen BK115.out 1; have hfz6_2 := blk_frozen BK115.out 2) | ((with_reducible refine gate_callee (f := 36) rfl ?_); refine goesL_ (some 11) rfl rfl Try.func36 (by kernel_rfl) rfl #[.string a0_0] rfl (by (try simp only [List.map_toArray, List.map_cons, List.map_nil]); first | done | rfl | (simp only [List.length_drop, List.length_take]; rfl)) ?_; (with_reducible refine (spec_IsName.calls k a0_0 t116 _ A4.out).mono ?_); rintro e w' ⟨rfl, ⟨nd, rfl⟩⟩; refine ⟨_, rfl, ?_⟩))
    go_ret
    exact ⟨by first | rfl | (simp [errW_none, errW_some] <;> rfl) | (simp [*, errW_none, errW_some] <;> rfl), by repeat (first | (with_reducible first | exact HB.out | apply below_alloc | apply pw_below_drewN | apply below_drew1 | refine below_set ?_ GE115.out) | exact HB.out)⟩
  · rw [if_neg c3] at H
    have c3b0 : ((l0_1.length : Int) == 0) = false := beq_eq_false_iff_ne.mpr c3
    have c3b1 : ((l0_1.length : Int) != 0) = true := bne_iff_ne.mpr c3
    have c3b2 : ¬ (l0_1 = []) := fun h_ => c3 (by rw [h_]; rfl)
    by_cases c7 : a1 > 0
    · rw [if_pos c7] at H
      have c7b0 : decide (0 < a1) = true := decide_eq_true c7
      clear c7
      by_cases c8 : (l0_1.length : Int) = 1
      · rw [if_pos c8] at H
        have c8b0 : ((l0_1.length : Int) == 1) = true := beq_iff_eq.mpr c8
        have c8b1 : ((l0_1.length : Int) != 1) = false := bne_eq_false_iff_eq.mpr c8
        clear c8
        by_cases c9 : a0_0.toList = ([] : List UInt8)
        · rw [if_pos c9] at H
          have c9b0 : (a0_0.toList == ([] : List UInt8)) = true := beq_iff_eq.mpr c9
          have c9b1 : (a0_0.toList != ([] : List UInt8)) = false := bne_eq_false_iff_eq.mpr c9
          clear c9
          by_cases c10 : 0 < (l0_1.length : Int)
          · rw [if_pos c10] at H
            have c10b0 : decide (0 < (l0_1.length : Int)) = true := decide_eq_true c10
            have c10b1 : decide (0 < l0_1.length) = true := decide_eq_true (by omega)
            clear c10
            replace H := Option.bind_eq_some_iff.mp H
            obtain ⟨t118, A110, H⟩ := H
            replace H : (some t118) = some r := H
            have A11 := Aside0.mk A110
            clear A110
            obtain rfl := Option.some.inj H
            go_enter Try.func12, Try.ntmps12
            go_wp2_with (first | ((with_reducible refine gate_dst (N := 2) rfl ?_); (try (refine gate_guard (by rfl) ?_; dsimp only)); refine box_event ?hg (N := 2) ?hd (cs := #[.string a0_0, .slice A0_1 l0_1.length c0_1, .bool a0_2]) (t := 24) ?hr ?_; (case hd => rfl); (case hg => rfl); (case hr => first | (go_simp; done) | (go_simp; rfl)); intro gb115 hg w12 hbox hb; have n0_ := Aside0.mk (below_step (by repeat (first | (with_reducible first | exact HB.out | apply below_alloc | apply pw_below_drewN | apply below_drew1) | exact HB.out)) hb); have n1_ := Aside0.mk (hbox); have n2_ := Aside0.mk ((by rw [hg]; exact (below_size (by repeat (first | (with_reducible first | exact HB.out | apply below_alloc | apply pw_below_drewN | apply below_drew1) | exact HB.out))) : w.heap.size ≤ gb115)); have n3_ := Aside0.mk ((by rw [hg]; exact (below_size (by repeat (first | (with_reducible first | exact HB.out | apply below_alloc | apply pw_below_drewN | apply below_drew1) | exact HB.out))) : w.heap.size ≤ gb115)); clear HB; have HB := n0_; have BK115 := n1_; have GW115 := n2_; have GE115 := n3_; clear n0_ n1_ n2_ n3_; clear hb hbox hg; have hcz13_0 : w12.cell? ⟨gb115, 0, none⟩ = some (.string a0_0) := (blk_cell BK115.out 0).trans rfl; have hcz13_1 : w12.cell? ⟨gb115, 1, none⟩ = some (.slice A0_1 l0_1.length c0_1) := (blk_cell BK115.out 1).trans rfl; have hcz13_2 : w12.cell? ⟨gb115, 2, none⟩ = some (.bool a0_2) := (blk_cell BK115.out 2).trans rfl; have hfz13_0 := blk_frozen BK115.out 0; have hfz13_1 := blk_frozen BK115.out 1; have hfz13_2 := blk_frozen BK115.out 2; have p117 : 0 ≤ (0 : Int) := (by omega); have q117 : 0 < (l0_1.length : Int) := of_decide_eq_true (by first | (with_reducible assumption) | assumption); obtain ⟨ad117, A117_1, c117_1, e117, hx117_0, hx117_1, hx117_2, hl117_1, hi117_1⟩ := at_T24 HR0_1.out 0 p117 q117; cases e117; have qi117 : (0 < l0_1.length) = True := eq_true (by omega); (try rw [show ((0 : Int)).toNat = 0 from rfl] at hx117_0); (try rw [show 0 * 3 = 0 from rfl] at hx117_0); (try rw [Addr.add_zero'] at hx117_0); (try rw [show ((0 : Int)).toNat = 0 from rfl] at hx117_1); (try rw [show 0 * 3 = 0 from rfl] at hx117_1); (try rw [Addr.add_zero'] at hx117_1); (try rw [show ((0 : Int)).toNat = 0 from rfl] at hx117_2); (try rw [show 0 * 3 = 0 from rfl] at hx117_2); (try rw [Addr.add_zero'] at hx117_2); replace hx117_0 := (HB.out.cell (World.block_lt_of_cell? w _ hx117_0)).trans hx117_0; replace hx117_1 := (HB.out.cell (World.block_lt_of_cell? w _ hx117_1)).trans hx117_1; replace hx117_2 := (HB.out.cell (World.block_lt_of_cell? w _ hx117_2)).trans hx117_2; have HR117_1 := Aside0.mk hi117_1; have HC117_1 := Aside0.mk hl117_1; clear hi117_1 hl117_1; replace p117 := eq_true p117; replace q117 := eq_true q117) | (go_at_call 12; (with_reducible refine (ih k (by omega) ((rd_T24 l0_1 0).f0) _ _ ((rd_T24 l0_1 0).f1) ((rd_T24 l0_1 0).f2) (wrap64 (a1 - 1)) t118 _ ?side1 ?side2 A11.out).mono ?_); (case side1 => repeat (first | exact (Kd.C_below HR117_1.out HB.out) | (with_reducible refine Kd.C_alloc ?_ _) | (with_reducible refine Kd.C_drewN ?_ _) | (with_reducible refine Kd.C_drew ?_))); (case side2 => exact HC117_1.out); rintro e w14 ⟨rfl, hb⟩; have n0_ := Aside0.mk (blk_below (g := gb115) (o := .cells #[.string a0_0, .slice (some ad117) l0_1.length c0_1, .bool a0_2] 24 (0, 0)) (by (with_reducible repeat (first | refine blk_drewN ?_ _ | refine blk_drew ?_ | refine blk_alloc ?_ _)); exact BK115.out) hb); have n1_ := Aside0.mk (below_step (by repeat (first | (with_reducible first | exact HB.out | apply below_alloc | apply pw_below_drewN | apply below_drew1 | refine below_set ?_ GE115.out) | exact HB.out)) hb); clear BK115; clear HB; have BK115 := n0_; have HB := n1_; clear n0_ n1_; (try clear hb); (try clear hb2); (try clear hk); (try clear hi)))
            go_ret
            exact ⟨by first | rfl | (simp [errW_none, errW_some] <;> rfl) | (simp [*, errW_none, errW_some] <;> rfl), by repeat (first | (with_reducible first | exact HB.out | apply below_alloc | apply pw_below_drewN | apply below_drew1 | refine below_set ?_ GE115.out) | exact HB.out)⟩
          · rw [if_neg c10] at H
            exact absurd H (by simp)
        · rw [if_neg c9] at H
          have c9b0 : (a0_0.toList == ([] : List UInt8)) = false := beq_eq_false_iff_ne.mpr c9
          have c9b1 : (a0_0.toList != ([] : List UInt8)) = true := bne_iff_ne.mpr c9
          obtain rfl := Option.some.inj H
          go_enter Try.func12, Try.ntmps12
          go_wp2_with (first | ((with_reducible refine gate_dst (N := 2) rfl ?_); (try (refine gate_guard (by rfl) ?_; dsimp only)); refine box_event ?hg (N := 2) ?hd (cs := #[.string a0_0, .slice A0_1 l0_1.length c0_1, .bool a0_2]) (t := 24) ?hr ?_; (case hd => rfl); (case hg => rfl); (case hr => first | (go_simp; done) | (go_simp; rfl)); intro gb115 hg w15 hbox hb; have n0_ := Aside0.mk (below_step (by repeat (first | (with_reducible first | exact HB.out | apply below_alloc | apply pw_below_drewN | apply below_drew1) | exact HB.out)) hb); have n1_ := Aside0.mk (hbox); have n2_ := Aside0.mk ((by rw [hg]; exact (below_size (by repeat (first | (with_reducible first | exact HB.out | apply below_alloc | apply pw_below_drewN | apply below_drew1) | exact HB.out))) : w.heap.size ≤ gb115)); have n3_ := Aside0.mk ((by rw [hg]; exact (below_size (by repeat (first | (with_reducible first | exact HB.out | apply below_alloc | apply pw_below_drewN | apply below_drew1) | exact HB.out))) : w.heap.size ≤ gb115)); clear HB; have HB := n0_; have BK115 := n1_; have GW115 := n2_; have GE115 := n3_; clear n0_ n1_ n2_ n3_; clear hb hbox hg; have hcz16_0 : w15.cell? ⟨gb115, 0, none⟩ = some (.string a0_0) := (blk_cell BK115.out 0).trans rfl; have hcz16_1 : w15.cell? ⟨gb115, 1, none⟩ = some (.slice A0_1 l0_1.length c0_1) := (blk_cell BK115.out 1).trans rfl; have hcz16_2 : w15.cell? ⟨gb115, 2, none⟩ = some (.bool a0_2) := (blk_cell BK115.out 2).trans rfl; have hfz16_0 := blk_frozen BK115.out 0; have hfz16_1 := blk_frozen BK115.out 1; have hfz16_2 := blk_frozen BK115.out 2))
          go_ret
          exact ⟨by first | rfl | (simp [errW_none, errW_some] <;> rfl) | (simp [*, errW_none, errW_some] <;> rfl), by repeat (first | (with_reducible first | exact HB.out | apply below_alloc | apply pw_below_drewN | apply below_drew1 | refine below_set ?_ GE115.out) | exact HB.out)⟩
      · rw [if_neg c8] at H
        have c8b0 : ((l0_1.length : Int) == 1) = false := beq_eq_false_iff_ne.mpr c8
        have c8b1 : ((l0_1.length : Int) != 1) = true := bne_iff_ne.mpr c8
        obtain rfl := Option.some.inj H
        go_enter Try.func12, Try.ntmps12
        go_wp2_with (first | ((with_reducible refine gate_dst (N := 2) rfl ?_); (try (refine gate_guard (by rfl) ?_; dsimp only)); refine box_event ?hg (N := 2) ?hd (cs := #[.string a0_0, .slice A0_1 l0_1.length c0_1, .bool a0_2]) (t := 24) ?hr ?_; (case hd => rfl); (case hg => rfl); (case hr => first | (go_simp; done) | (go_simp; rfl)); intro gb115 hg w17 hbox hb; have n0_ := Aside0.mk (below_step (by repeat (first | (with_reducible first | exact HB.out | apply below_alloc | apply pw_below_drewN | apply below_drew1) | exact HB.out)) hb); have n1_ := Aside0.mk (hbox); have n2_ := Aside0.mk ((by rw [hg]; exact (below_size (by repeat (first | (with_reducible first | exact HB.out | apply below_alloc | apply pw_below_drewN | apply below_drew1) | exact HB.out))) : w.heap.size ≤ gb115)); have n3_ := Aside0.mk ((by rw [hg]; exact (below_size (by repeat (first | (with_reducible first | exact HB.out | apply below_alloc | apply pw_below_drewN | apply below_drew1) | exact HB.out))) : w.heap.size ≤ gb115)); clear HB; have HB := n0_; have BK115 := n1_; have GW115 := n2_; have GE115 := n3_; clear n0_ n1_ n2_ n3_; clear hb hbox hg; have hcz18_0 : w17.cell? ⟨gb115, 0, none⟩ = some (.string a0_0) := (blk_cell BK115.out 0).trans rfl; have hcz18_1 : w17.cell? ⟨gb115, 1, none⟩ = some (.slice A0_1 l0_1.length c0_1) := (blk_cell BK115.out 1).trans rfl; have hcz18_2 : w17.cell? ⟨gb115, 2, none⟩ = some (.bool a0_2) := (blk_cell BK115.out 2).trans rfl; have hfz18_0 := blk_frozen BK115.out 0; have hfz18_1 := blk_frozen BK115.out 1; have hfz18_2 := blk_frozen BK115.out 2))
        go_ret
        exact ⟨by first | rfl | (simp [errW_none, errW_some] <;> rfl) | (simp [*, errW_none, errW_some] <;> rfl), by repeat (first | (with_reducible first | exact HB.out | apply below_alloc | apply pw_below_drewN | apply below_drew1 | refine below_set ?_ GE115.out) | exact HB.out)⟩
    · rw [if_neg c7] at H
      have c7b0 : decide (0 < a1) = false := decide_eq_false c7
      clear c7
      obtain rfl := Option.some.inj H
      go_enter Try.func12, Try.ntmps12
      go_wp2_with (first | ((with_reducible refine gate_dst (N := 2) rfl ?_); (try (refine gate_guard (by rfl) ?_; dsimp only)); refine box_event ?hg (N := 2) ?hd (cs := #[.string a0_0, .slice A0_1 l0_1.length c0_1, .bool a0_2]) (t := 24) ?hr ?_; (case hd => rfl); (case hg => rfl); (case hr => first | (go_simp; done) | (go_simp; rfl)); intro gb115 hg w19 hbox hb; have n0_ := Aside0.mk (below_step (by repeat (first | (with_reducible first | exact HB.out | apply below_alloc | apply pw_below_drewN | apply below_drew1) | exact HB.out)) hb); have n1_ := Aside0.mk (hbox); have n2_ := Aside0.mk ((by rw [hg]; exact (below_size (by repeat (first | (with_reducible first | exact HB.out | apply below_alloc | apply pw_below_drewN | apply below_drew1) | exact HB.out))) : w.heap.size ≤ gb115)); have n3_ := Aside0.mk ((by rw [hg]; exact (below_size (by repeat (first | (with_reducible first | exact HB.out | apply below_alloc | apply pw_below_drewN | apply below_drew1) | exact HB.out))) : w.heap.size ≤ gb115)); clear HB; have HB := n0_; have BK115 := n1_; have GW115 := n2_; have GE115 := n3_; clear n0_ n1_ n2_ n3_; clear hb hbox hg; have hcz20_0 : w19.cell? ⟨gb115, 0, none⟩ = some (.string a0_0) := (blk_cell BK115.out 0).trans rfl; have hcz20_1 : w19.cell? ⟨gb115, 1, none⟩ = some (.slice A0_1 l0_1.length c0_1) := (blk_cell BK115.out 1).trans rfl; have hcz20_2 : w19.cell? ⟨gb115, 2, none⟩ = some (.bool a0_2) := (blk_cell BK115.out 2).trans rfl; have hfz20_0 := blk_frozen BK115.out 0; have hfz20_1 := blk_frozen BK115.out 1; have hfz20_2 := blk_frozen BK115.out 2))
      go_ret
      exact ⟨by first | rfl | (simp [errW_none, errW_some] <;> rfl) | (simp [*, errW_none, errW_some] <;> rfl), by repeat (first | (with_reducible first | exact HB.out | apply below_alloc | apply pw_below_drewN | apply below_drew1 | refine below_set ?_ GE115.out) | exact HB.out)⟩

end Go.Proofs.Ytamajbaojbghcaa.PT
