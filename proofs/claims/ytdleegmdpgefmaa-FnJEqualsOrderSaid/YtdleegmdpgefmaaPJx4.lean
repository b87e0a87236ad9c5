-- PRINTED by print.py (a twelfth state) out of the translation. Not trusted: Lean checks it.
import Derived.Test.YtdleegmdpgefmaaPJx0
import Derived.Test.YtdleegmdpgefmaaPJx3
namespace Go.Proofs.Ytdleegmdpgefmaa.PJ
open Go.RowKit Go.Proofs.YtdleegmdpgefmaaW.PrintWords Go.Proofs.YtdleegmdpgefmaaW.PrintLast Go.Proofs.YtdleegmdpgefmaaW.PrintMore
attribute [local go_sem] max2_int min2_int max_two min_two max_three min_three max_four min_four   -- for this text's walks alone
set_option linter.unusedVariables false
set_option linter.unusedSimpArgs false

/-! ### laws_zzFits5: function 5 -/
def laws_zzFits5.f (k : Nat) (a0_0 : Int) (a0_1 : Bool) (a0_2 : Int) (a0_3 : ByteArray) (l0_4 : List ByteArray) (l0_5 : List (S25)) : Option (Bool) := if (a0_3.size : Int) > 2147483647 then (some false) else ((laws_zzFits4.f k l0_4).bind fun t119 => (if t119 = true then (if (l0_5.length : Int) > 2147483647 then (some false) else (some true)) else (some false)))
theorem laws_zzFits5.mono : ∀ a0 a1 a2 a3 a4 a5 k, LeO (laws_zzFits5.f k a0 a1 a2 a3 a4 a5) (laws_zzFits5.f (k + 1) a0 a1 a2 a3 a4 a5) := by
  intro a0 a1 a2 a3 a4 a5 k
  unfold laws_zzFits5.f
  repeat' first
      | (with_reducible exact laws_zzFits4.mono _ _)
      | (with_reducible exact LeO.refl _)
      | (with_reducible exact LeO.none _)
      | (with_reducible refine LeO.ite ?_ ?_)
      | (with_reducible refine LeO.bind ?_ (fun _ => ?_))
      | exact laws_zzFits4.mono _ _
      | exact LeO.none _
      | refine LeO.ite ?_ ?_
      | refine LeO.bind ?_ (fun _ => ?_)
set_option maxHeartbeats 8000000 in
set_option maxRecDepth 100000 in
theorem laws_zzFits5.calls (k : Nat) (a0_0 : Int) (a0_1 : Bool) (a0_2 : Int) (a0_3 : ByteArray) (A0_4 : Option Addr) (c0_4 : Nat) (l0_4 : List ByteArray) (A0_5 : Option Addr) (c0_5 : Nat) (l0_5 : List (S25)) (r : Bool) (w : World) (hr0_4 : Kd.C Kd.string w A0_4 l0_4.length l0_4) (hc0_4 : l0_4.length ≤ c0_4) (hr0_5 : Kd.C k25 w A0_5 l0_5.length l0_5) (hc0_5 : l0_5.length ≤ c0_5) (h : laws_zzFits5.f k a0_0 a0_1 a0_2 a0_3 l0_4 l0_5 = some r) :
    Calls Try.prog 5 #[.agg #[.int .i64 a0_0, .bool a0_1, .int .i64 a0_2, .string a0_3, .slice A0_4 l0_4.length c0_4, .slice A0_5 l0_5.length c0_5]] w fun e w' => e = .returned (.bool r) ∧ Below w.heap.size w w' := by
  have hu25 := Try.underlying25
  have HR0_4 := Aside0.mk hr0_4
  have HC0_4 := Aside0.mk hc0_4
  clear hr0_4 hc0_4
  have HR0_5 := Aside0.mk hr0_5
  have HC0_5 := Aside0.mk hc0_5
  clear hr0_5 hc0_5
  have HB := Aside0.mk (Below.refl w.heap.size w)
  have H : (if (a0_3.size : Int) > 2147483647 then (some false) else ((laws_zzFits4.f k l0_4).bind fun t119 => (if t119 = true then (if (l0_5.length : Int) > 2147483647 then (some false) else (some true)) else (some false)))) = some r := h
  clear h
  by_cases c2 : (a0_3.size : Int) > 2147483647
  · rw [if_pos c2] at H
    have c2b0 : decide (2147483647 < (a0_3.size : Int)) = true := decide_eq_true c2
    have c2b1 : decide (2147483647 < a0_3.size) = true := decide_eq_true (by omega)
    clear c2
    obtain rfl := Option.some.inj H
    go_enter Try.func5, Try.ntmps5
    go_wp2_with (first | ((with_reducible refine gate_dst (N := 1) rfl ?_); refine box_event ?hg (N := 1) ?hd (cs := #[.int .i64 a0_0, .bool a0_1, .int .i64 a0_2, .string a0_3, .slice A0_4 l0_4.length c0_4, .slice A0_5 l0_5.length c0_5]) (t := 25) ?hr ?_; (case hd => rfl); (case hg => rfl); (case hr => first | (go_simp; done) | (go_simp; rfl)); intro gb118 hg w3 hbox hb; have n0_ := Aside0.mk (below_step (by repeat (first | (with_reducible first | exact HB.out | apply below_alloc | apply pw_below_drewN | apply below_drew1) | exact HB.out)) hb); have n1_ := Aside0.mk (hbox); have n2_ := Aside0.mk ((by rw [hg]; exact (below_size (by repeat (first | (with_reducible first | exact HB.out | apply below_alloc | apply pw_below_drewN | apply below_drew1) | exact HB.out))) : w.heap.size ≤ gb118)); have n3_ := Aside0.mk ((by rw [hg]; exact (below_size (by repeat (first | (with_reducible first | exact HB.out | apply below_alloc | apply pw_below_drewN | apply below_drew1) | exact HB.out))) : w.heap.size ≤ gb118)); clear HB; have HB := n0_; have BK118 := n1_; have GW118 := n2_; have GE118 := n3_; clear n0_ n1_ n2_ n3_; clear hb hbox hg; have hcz4_0 : w3.cell? ⟨gb118, 0, none⟩ = some (.int .i64 a0_0) := (blk_cell BK118.out 0).trans rfl; have hcz4_1 : w3.cell? ⟨gb118, 1, none⟩ = some (.bool a0_1) := (blk_cell BK118.out 1).trans rfl; have hcz4_2 : w3.cell? ⟨gb118, 2, none⟩ = some (.int .i64 a0_2) := (blk_cell BK118.out 2).trans rfl; have hcz4_3 : w3.cell? ⟨gb118, 3, none⟩ = some (.string a0_3) := (blk_cell BK118.out 3).trans rfl; have hcz4_4 : w3.cell? ⟨gb118, 4, none⟩ = some (.slice A0_4 l0_4.length c0_4) := (blk_cell BK118.out 4).trans rfl; have hcz4_5 : w3.cell? ⟨gb118, 5, none⟩ = some (.slice A0_5 l0_5.length c0_5) := (blk_cell BK118.out 5).trans rfl; have hfz4_0 := blk_frozen BK118.out 0; have hfz4_1 := blk_frozen BK118.out 1; have hfz4_2 := blk_frozen BK118.out 2; have hfz4_3 := blk_frozen BK118.out 3; have hfz4_4 := blk_frozen BK118.out 4; have hfz4_5 := blk_frozen BK118.out 5))
    go_ret
    exact ⟨by first | rfl | (simp [errW_none, errW_some] <;> rfl) | (simp [*, errW_none, errW_some] <;> rfl), by repeat (first | (with_reducible first | exact HB.out | apply below_alloc | apply pw_below_drewN | apply below_drew1 | refine below_set ?_ GE118.out) | exact HB.out)⟩
  · rw [if_neg c2] at H
    have c2b0 : decide (2147483647 < (a0_3.size : Int)) = false := decide_eq_false c2
    have c2b1 : decide (2147483647 < a0_3.size) = false := decide_eq_false (by omega)
    clear c2
    replace H := Option.bind_eq_some_iff.mp H
    obtain ⟨t119, A50, H⟩ := H
    replace H : (if t119 = true then (if (l0_5.length : Int) > 2147483647 then (some false) else (some true)) else (some false)) = some r := H
    have A5 := Aside0.mk A50
    clear A50
    by_cases c6 : t119 = true
    · subst c6
      have H1 : (if (l0_5.length : Int) > 2147483647 then (some false) else (some true)) = some r := by rw [if_pos rfl] at H; exact H
      clear H
      have H := H1
      clear H1
      by_cases c7 : (l0_5.length : Int) > 2147483647
      · rw [if_pos c7] at H
        have c7b0 : decide (2147483647 < (l0_5.length : Int)) = true := decide_eq_true c7
        have c7b1 : decide (2147483647 < l0_5.length) = true := decide_eq_true (by omega)
        clear c7
        obtain rfl := Option.some.inj H
        go_enter Try.func5, Try.ntmps5
        go_wp2_with (first | ((with_reducible refine gate_dst (N := 1) rfl ?_); refine box_event ?hg (N := 1) ?hd (cs := #[.int .i64 a0_0, .bool a0_1, .int .i64 a0_2, .string a0_3, .slice A0_4 l0_4.length c0_4, .slice A0_5 l0_5.length c0_5]) (t := 25) ?hr ?_; (case hd => rfl); (case hg => rfl); (case hr => first | (go_simp; done) | (go_simp; rfl)); intro gb118 hg w8 hbox hb; have n0_ := Aside0.mk (below_step (by repeat (first | (with_reducible first | exact HB.out | apply below_alloc | apply pw_below_drewN | apply below_drew1) | exact HB.out)) hb); have n1_ := Aside0.mk (hbox); have n2_ := Aside0.mk ((by rw [hg]; exact (below_size (by repeat (first | (with_reducible first | exact HB.out | apply below_alloc | apply pw_below_drewN | apply below_drew1) | exact HB.out))) : w.heap.size ≤ gb118)); have n3_ := Aside0.mk ((by rw [hg]; exact (below_size (by repeat (first | (with_reducible first | exact HB.out | apply below_alloc | apply pw_below_drewN | apply below_drew1) | exact HB.out))) : w.heap.size ≤ gb118)); clear HB; have HB := n0_; have BK118 := n1_; have GW118 := n2_; have GE118 := n3_; clear n0_ n1_ n2_ n3_; clear hb hbox hg; have hcz9_0 : w8.cell? ⟨gb118, 0, none⟩ = some (.int .i64 a0_0) := (blk_cell BK118.out 0).trans rfl; have hcz9_1 : w8.cell? ⟨gb118, 1, none⟩ = some (.bool a0_1) := (blk_cell BK118.out 1).trans rfl; have hcz9_2 : w8.cell? ⟨gb118, 2, none⟩ = some (.int .i64 a0_2) := (blk_cell BK118.out 2).trans rfl; have hcz9_3 : w8.cell? ⟨gb118, 3, none⟩ = some (.string a0_3) := (blk_cell BK118.out 3).trans rfl; have hcz9_4 : w8.cell? ⟨gb118, 4, none⟩ = some (.slice A0_4 l0_4.length c0_4) := (blk_cell BK118.out 4).trans rfl; have hcz9_5 : w8.cell? ⟨gb118, 5, none⟩ = some (.slice A0_5 l0_5.length c0_5) := (blk_cell BK118.out 5).trans rfl; have hfz9_0 := blk_frozen BK118.out 0; have hfz9_1 := blk_frozen BK118.out 1; have hfz9_2 := blk_frozen BK118.out 2; have hfz9_3 := blk_frozen BK118.out 3; have hfz9_4 := blk_frozen BK118.out 4; have hfz9_5 := blk_frozen BK118.out 5) | ((with_reducible refine gate_callee (f := 13) rfl ?_); refine goesL_ (some 9) rfl rfl Try.func13 (by kernel_rfl) rfl #[.slice A0_4 l0_4.length c0_4] rfl (by (try simp only [List.map_toArray, List.map_cons, List.map_nil]); first | done | rfl | (simp only [List.length_drop, List.length_take]; rfl)) ?_; (with_reducible refine (laws_zzFits4.calls k _ _ l0_4 true _ ?side1 ?side2 A5.out).mono ?_); (case side1 => repeat (first | exact (Kd.C_below HR0_4.out HB.out) | (with_reducible refine Kd.C_alloc ?_ _) | (with_reducible refine Kd.C_drewN ?_ _) | (with_reducible refine Kd.C_drew ?_))); (case side2 => exact HC0_4.out); rintro e w' ⟨rfl, ⟨nd, rfl⟩⟩; refine ⟨_, rfl, ?_⟩))
        go_ret
        exact ⟨by first | rfl | (simp [errW_none, errW_some] <;> rfl) | (simp [*, errW_none, errW_some] <;> rfl), by repeat (first | (with_reducible first | exact HB.out | apply below_alloc | apply pw_below_drewN | apply below_drew1 | refine below_set ?_ GE118.out) | exact HB.out)⟩
      · rw [if_neg c7] at H
        have c7b0 : decide (2147483647 < (l0_5.length : Int)) = false := decide_eq_false c7
        have c7b1 : decide (2147483647 < l0_5.length) = false := decide_eq_false (by omega)
        clear c7
        obtain rfl := Option.some.inj H
        go_enter Try.func5, Try.ntmps5
        go_wp2_with (first | ((with_reducible refine gate_dst (N := 1) rfl ?_); refine box_event ?hg (N := 1) ?hd (cs := #[.int .i64 a0_0, .bool a0_1, .int .i64 a0_2, .string a0_3, .slice A0_4 l0_4.length c0_4, .slice A0_5 l0_5.length c0_5]) (t := 25) ?hr ?_; (case hd => rfl); (case hg => rfl); (case hr => first | (go_simp; done) | (go_simp; rfl)); intro gb118 hg w10 hbox hb; have n0_ := Aside0.mk (below_step (by repeat (first | (with_reducible first | exact HB.out | apply below_alloc | apply pw_below_drewN | apply below_drew1) | exact HB.out)) hb); have n1_ := Aside0.mk (hbox); have n2_ := Aside0.mk ((by rw [hg]; exact (below_size (by repeat (first | (with_reducible first | exact HB.out | apply below_alloc | apply pw_below_drewN | apply below_drew1) | exact HB.out))) : w.heap.size ≤ gb118)); have n3_ := Aside0.mk ((by rw [hg]; exact (below_size (by repeat (first | (with_reducible first | exact HB.out | apply below_alloc | apply pw_below_drewN | apply below_drew1) | exact HB.out))) : w.heap.size ≤ gb118)); clear HB; have HB := n0_; have BK118 := n1_; have GW118 := n2_; have GE118 := n3_; clear n0_ n1_ n2_ n3_; clear hb hbox hg; have hcz11_0 : w10.cell? ⟨gb118, 0, none⟩ = some (.int .i64 a0_0) := (blk_cell BK118.out 0).trans rfl; have hcz11_1 : w10.cell? ⟨gb118, 1, none⟩ = some (.bool a0_1) := (blk_cell BK118.out 1).trans rfl; have hcz11_2 : w10.cell? ⟨gb118, 2, none⟩ = some (.int .i64 a0_2) := (blk_cell BK118.out 2).trans rfl; have hcz11_3 : w10.cell? ⟨gb118, 3, none⟩ = some (.string a0_3) := (blk_cell BK118.out 3).trans rfl; have hcz11_4 : w10.cell? ⟨gb118, 4, none⟩ = some (.slice A0_4 l0_4.length c0_4) := (blk_cell BK118.out 4).trans rfl; have hcz11_5 : w10.cell? ⟨gb118, 5, none⟩ = some (.slice A0_5 l0_5.length c0_5) := (blk_cell BK118.out 5).trans rfl; have hfz11_0 := blk_frozen BK118.out 0; have hfz11_1 := blk_frozen BK118.out 1; have hfz11_2 := blk_frozen BK118.out 2; have hfz11_3 := blk_frozen BK118.out 3; have hfz11_4 := blk_frozen BK118.out 4; have hfz11_5 := blk_frozen BK118.out 5) | ((with_reducible refine gate_callee (f := 13) rfl ?_); refine goesL_ (some 9) rfl rfl Try.func13 (by kernel_rfl) rfl #[.slice A0_4 l0_4.length c0_4] rfl (by (try simp only [List.map_toArray, List.map_cons, List.map_nil]); first | done | rfl | (simp only [List.length_drop, List.length_take]; rfl)) ?_; (with_reducible refine (laws_zzFits4.calls k _ _ l0_4 true _ ?side1 ?side2 A5.out).mono ?_); (case side1 => repeat (first | exact (Kd.C_below HR0_4.out HB.out) | (with_reducible refine Kd.C_alloc ?_ _) | (with_reducible refine Kd.C_drewN ?_ _) | (with_reducible refine Kd.C_drew ?_))); (case side2 => exact HC0_4.out); rintro e w' ⟨rfl, ⟨nd, rfl⟩⟩; refine ⟨_, rfl, ?_⟩))
        go_ret
        exact ⟨by first | rfl | (simp [errW_none, errW_some] <;> rfl) | (simp [*, errW_none, errW_some] <;> rfl), by repeat (first | (with_reducible first | exact HB.out | apply below_alloc | apply pw_below_drewN | apply below_drew1 | refine below_set ?_ GE118.out) | exact HB.out)⟩
    · replace c6 := Bool.eq_false_iff.mpr c6
      subst c6
      have H1 : (some false) = some r := by rw [if_neg (show ¬ (false = true) by decide)] at H; exact H
      clear H
      have H := H1
      clear H1
      obtain rfl := Option.some.inj H
      go_enter Try.func5, Try.ntmps5
      go_wp2_with (first | ((with_reducible refine gate_dst (N := 1) rfl ?_); refine box_event ?hg (N := 1) ?hd (cs := #[.int .i64 a0_0, .bool a0_1, .int .i64 a0_2, .string a0_3, .slice A0_4 l0_4.length c0_4, .slice A0_5 l0_5.length c0_5]) (t := 25) ?hr ?_; (case hd => rfl); (case hg => rfl); (case hr => first | (go_simp; done) | (go_simp; rfl)); intro gb118 hg w12 hbox hb; have n0_ := Aside0.mk (below_step (by repeat (first | (with_reducible first | exact HB.out | apply below_alloc | apply pw_below_drewN | apply below_drew1) | exact HB.out)) hb); have n1_ := Aside0.mk (hbox); have n2_ := Aside0.mk ((by rw [hg]; exact (below_size (by repeat (first | (with_reducible first | exact HB.out | apply below_alloc | apply pw_below_drewN | apply below_drew1) | exact HB.out))) : w.heap.size ≤ gb118)); have n3_ := Aside0.mk ((by rw [hg]; exact (below_size (by repeat (first | (with_reducible first | exact HB.out | apply below_alloc | apply pw_below_drewN | apply below_drew1) | exact HB.out))) : w.heap.size ≤ gb118)); clear HB; have HB := n0_; have BK118 := n1_; have GW118 := n2_; have GE118 := n3_; clear n0_ n1_ n2_ n3_; clear hb hbox hg; have hcz13_0 : w12.cell? ⟨gb118, 0, none⟩ = some (.int .i64 a0_0) := (blk_cell BK118.out 0).trans rfl; have hcz13_1 : w12.cell? ⟨gb118, 1, none⟩ = some (.bool a0_1) := (blk_cell BK118.out 1).trans rfl; have hcz13_2 : w12.cell? ⟨gb118, 2, none⟩ = some (.int .i64 a0_2) := (blk_cell BK118.out 2).trans rfl; have hcz13_3 : w12.cell? ⟨gb118, 3, none⟩ = some (.string a0_3) := (blk_cell BK118.out 3).trans rfl; have hcz13_4 : w12.cell? ⟨gb118, 4, none⟩ = some (.slice A0_4 l0_4.length c0_4) := (blk_cell BK118.out 4).trans rfl; have hcz13_5 : w12.cell? ⟨gb118, 5, none⟩ = some (.slice A0_5 l0_5.length c0_5) := (blk_cell BK118.out 5).trans rfl; have hfz13_0 := blk_frozen BK118.out 0; have hfz13_1 := blk_frozen BK118.out 1; have hfz13_2 := blk_frozen BK118.out 2; have hfz13_3 := blk_frozen BK118.out 3; have hfz13_4 := blk_frozen BK118.out 4; have hfz13_5 := blk_frozen BK118.out 5) | ((with_reducible refine gate_callee (f := 13) rfl ?_); refine goesL_ (some 9) rfl rfl Try.func13 (by kernel_rfl) rfl #[.slice A0_4 l0_4.length c0_4] rfl (by (try simp only [List.map_toArray, List.map_cons, List.map_nil]); first | done | rfl | (simp only [List.length_drop, List.length_take]; rfl)) ?_; (with_reducible refine (laws_zzFits4.calls k _ _ l0_4 false _ ?side1 ?side2 A5.out).mono ?_); (case side1 => repeat (first | exact (Kd.C_below HR0_4.out HB.out) | (with_reducible refine Kd.C_alloc ?_ _) | (with_reducible refine Kd.C_drewN ?_ _) | (with_reducible refine Kd.C_drew ?_))); (case side2 => exact HC0_4.out); rintro e w' ⟨rfl, ⟨nd, rfl⟩⟩; refine ⟨_, rfl, ?_⟩))
      go_ret
      exact ⟨by first | rfl | (simp [errW_none, errW_some] <;> rfl) | (simp [*, errW_none, errW_some] <;> rfl), by repeat (first | (with_reducible first | exact HB.out | apply below_alloc | apply pw_below_drewN | apply below_drew1 | refine below_set ?_ GE118.out) | exact HB.out)⟩

end Go.Proofs.Ytdleegmdpgefmaa.PJ
