/- laws.jTurned of any value, laws.jList, and what equality says of lists. -/
import Derived.Test.YtdleegmdpgefmaaJT2
namespace Go.Proofs.Ytdleegmdpgefmaa.J
open Go.RowKit Go.Proofs.YtdleegmdpgefmaaW.PrintWords Go.Proofs.YtdleegmdpgefmaaW.PrintLast Go.Proofs.YtdleegmdpgefmaaW.PrintMore Go.Proofs.Ytdleegmdpgefmaa.PJ Go.Proofs.Ytdleegmdpgefmaa.K Go.Maps
set_option linter.unusedVariables false
set_option linter.unusedSimpArgs false
theorem tu : ∀ n, Tu n
  | 0 => fun x cs w hd _ _ => by obtain ⟨m, e⟩ := hd.pos; omega
  | n + 1 => fun x cs w hd hw hK => by
    by_cases k4 : x.f0 = 4
    · exact tu_arr n (tu n) x cs w hd hw hK k4
    · by_cases k5 : x.f0 = 5
      · exact tu_obj n (tu n) x cs w hd hw hK k5
      · exact tu_plain n (tu n) x cs w hd hw hK k4 k5
/-- The array of some values. -/
def lst (l : List JV) : JV := ⟨4, false, 0, ⟨#[]⟩, [], l⟩
theorem lst_dp {n : Nat} {l : List JV} (h : ∀ y ∈ l, Dp n y) : Dp (n + 1) (lst l) := Dp.mk _ _ (show (0 : Int) ≤ 4 by decide) (show (4 : Int) ≤ 5 by decide) (fun h => by cases h) h
theorem lst_wf {l : List JV} (h : ∀ y ∈ l, wfJ y) (hl : l.length * 88 ≤ 140737488351232) : wfJ (lst l) := by
  refine Op.wf_k25.mk _ ?_ ?_ ?_ ?_ ?_ hl h
  · exact show Op.WI .i64 4 by simp [Op.WI]; decide
  · exact show Op.WB false from trivial
  · exact show Op.WI .i64 0 by simp [Op.WI]; decide
  · exact show Op.WS ⟨#[]⟩ by simp [Op.WS]; decide
  · exact ⟨by show 0 * 16 ≤ _; decide, fun s hs => by cases hs⟩
theorem lst_noNum {n : Nat} {l : List JV} (h : ∀ y ∈ l, NoNum (toD n y)) : NoNum (toD (n + 1) (lst l)) := by
  rw [toD_arr (x := lst l) rfl]
  exact NoNum.slice _ _ fun e he => by obtain ⟨y, hy, rfl⟩ := List.mem_map.1 he; exact h y hy
theorem lst_eq {n : Nat} {l m : List JV} (h : l.map (toD n) = m.map (toD n)) : eqB (toD (n + 1) (lst l)) (toD (n + 1) (lst m)) = true := by
  rw [toD_arr (x := lst l) rfl, toD_arr (x := lst m) rfl]
  exact eqB_true.2 (by rw [show (lst l).f5 = l from rfl, show (lst m).f5 = m from rfl, h])
theorem lst_ne {n : Nat} {l m : List JV} (h : l.length ≠ m.length) : eqB (toD (n + 1) (lst l)) (toD (n + 1) (lst m)) = false := by
  rw [toD_arr (x := lst l) rfl, toD_arr (x := lst m) rfl]
  exact eqB_false.2 fun e => by
    injection e with e _
    exact h (by simpa [lst] using congrArg List.length e)
theorem eqB_comm (a b : D0) : eqB a b = eqB b a := by
  by_cases h : a = b
  · subst h; rfl
  · rw [eqB_false.2 h, eqB_false.2 fun e => h e.symm]
theorem lst_K {w : World} {A : Option Addr} {l : List JV} {c : Nat} (hC : kJ.C w A l.length l) (hc : l.length ≤ c) : kJ.K w (lst l) [.int .i64 4, .bool false, .int .i64 0, .string ⟨#[]⟩, .slice none 0 0, .slice A l.length c] :=
  k25_mk w (lst l) (A4 := none) (c4 := 0) (Nat.le_refl 0) ⟨rfl, Nat.zero_le _, fun h => by cases h⟩ hc hC
set_option maxHeartbeats 1000000 in
theorem jlist (A : Option Addr) (l : List JV) (m c : Nat) (w : World) (hm : l.length = m) (hC : kJ.C w A m l) (hc : m ≤ c) : Calls Try.prog 7 #[.slice A m c] w fun e w' => e = .returned (.agg #[.int .i64 4, .bool false, .int .i64 0, .string ⟨#[]⟩, .slice none 0 0, .slice A m c]) ∧ kJ.K w' (lst l) [.int .i64 4, .bool false, .int .i64 0, .string ⟨#[]⟩, .slice none 0 0, .slice A m c] ∧ Below w.heap.size w w' := by
  have hK : Hid (kJ.K w (lst l) [.int .i64 4, .bool false, .int .i64 0, .string ⟨#[]⟩, .slice none 0 0, .slice A m c]) := Lib.hid (by subst hm; exact lst_K hC hc)
  clear hC hm hc
  go_enter Try.func7, Try.ntmps7
  go_wp2_with fail
  have hb : Below w.heap.size w (w.alloc (.cells #[.int .i64 4, .bool false, .int .i64 0, .string ⟨#[]⟩, .slice none 0 0, .slice A m c] 25)) := (Below.refl _ _).alloc (Nat.le_refl _) _
  refine bodyPost_ret (results_cell_row rfl _ _ w.heap.size 25 _ (0, 0) _ rfl (heap_alloc_new w _) Try.underlying25 rfl (by kernel_rfl)) rfl ?_
  exact ⟨rfl, kJ.K_below hb hK.out, hb⟩
structure Q2 (w wi : World) (ca cb : Array Value) : Prop where
  below : Below w.heap.size w wi
  b0 : wi.heap[w.heap.size]? = some (.cells ca 25 (0, 0))
  b1 : wi.heap[w.heap.size + 1]? = some (.cells cb 25 (0, 0))
theorem Q2.start (w : World) (ca cb : Array Value) : Q2 w ((w.alloc (.cells ca 25)).alloc (.cells cb 25)) ca cb := by
  refine ⟨((Below.refl _ _).alloc (Nat.le_refl _) _).alloc (by simp) _, ?_, ?_⟩
  · rw [Below.heap_alloc _ _ _ (by simp)]; exact heap_alloc_new w _
  · have := heap_alloc_new (w.alloc (.cells ca 25)) (.cells cb 25)
    rw [World.size_alloc] at this
    exact this
theorem Q2.lt {w wi : World} {ca cb : Array Value} (h : Q2 w wi ca cb) : w.heap.size + 1 < wi.heap.size := by
  rcases Nat.lt_or_ge (w.heap.size + 1) wi.heap.size with h' | h'
  · exact h'
  · have := h.b1; rw [Array.getElem?_eq_none h'] at this; cases this
theorem Q2.step {w wi w' : World} {ca cb : Array Value} (h : Q2 w wi ca cb) (hb : Below wi.heap.size wi w') : Q2 w w' ca cb := ⟨h.below.trans (hb.mono h.below.size), (hb.block _ (by have := h.lt; omega)).trans h.b0, (hb.block _ h.lt).trans h.b1⟩
theorem Q2.kept {w wi : World} {ca cb : Array Value} (h : Q2 w wi ca cb) {a : Addr} {v : Value} (ha : w.cell? a = some v) : wi.cell? a = some v := by rw [h.below.cell (lt_of_cell ha)]; exact ha
theorem Q2.c0 {w wi : World} {ca cb : Array Value} (h : Q2 w wi ca cb) (i : Nat) (v : Value) (hi : ca[i]? = some v) : wi.cell? ⟨w.heap.size, i, none⟩ = some v := by rw [Lib.cell_of_heap h.b0]; exact hi
theorem Q2.c1 {w wi : World} {ca cb : Array Value} (h : Q2 w wi ca cb) (i : Nat) (v : Value) (hi : cb[i]? = some v) : wi.cell? ⟨w.heap.size + 1, i, none⟩ = some v := by rw [Lib.cell_of_heap h.b1]; exact hi

theorem two_row {w : World} {B : Nat} {x y : JV} {ca cb cs : Array Value} {t : TypeId} (hh : w.heap[B]? = some (.cells cs t (0, 0))) (hcs : cs.toList = ca.toList ++ cb.toList) (hK : kJ.K w x ca.toList) (hL : kJ.K w y cb.toList) : kJ.C w (some ⟨B, 0, none⟩) [x, y].length [x, y] := by
  refine ⟨rfl, by simp, fun _ => ⟨_, rfl, fun j p hp => ?_⟩⟩
  match j, hp with
  | 0, hp =>
    simp at hp
    subst hp
    refine ⟨ca.toList, kJ.K_len hK, hK, fun i u hu => ?_⟩
    rw [Nat.zero_mul, Nat.zero_add]
    refine World.news_of_block hh i u ?_
    rw [hcs, List.getElem?_append_left (List.getElem?_eq_some_iff.1 hu).1]
    exact hu
  | 1, hp =>
    simp at hp
    subst hp
    refine ⟨cb.toList, kJ.K_len hL, hL, fun i u hu => ?_⟩
    refine World.news_of_block hh _ u ?_
    rw [hcs, List.getElem?_append_right (by rw [kJ.K_len hK]; omega), kJ.K_len hK]
    rw [show 1 * kJ.sz + i - kJ.sz = i by omega]
    exact hu
  | j + 2, hp => simp at hp
theorem CountLC.two {x y : JV} {b : Bool} (h : CountLC [x, y] b) {W : World} {B : Nat} {ca cb cs : Array Value} {t : TypeId} (hh : W.heap[B]? = some (.cells cs t (0, 0))) (hcs : cs.toList = ca.toList ++ cb.toList) (hK : kJ.K W x ca.toList) (hL : kJ.K W y cb.toList) : Calls Try.prog 6 #[.slice (some ⟨B, 0, none⟩) 2 2] W fun e w' => e = .returned (.bool b) ∧ Below W.heap.size W w' := h _ 2 W (two_row hh hcs hK hL) (Nat.le_refl _)
theorem oneJ {w : World} {B : Nat} {x : JV} {ca : Array Value} {t : TypeId} (hh : w.heap[B]? = some (.cells ca t (0, 0))) (hK : kJ.K w x ca.toList) : kJ.C w (some ⟨B, 0, none⟩) 1 [x] := by
  refine ⟨rfl, by simp, fun _ => ⟨_, rfl, fun j p hp => ?_⟩⟩
  match j, hp with
  | 0, hp =>
    simp at hp
    subst hp
    refine ⟨ca.toList, kJ.K_len hK, hK, fun i u hu => ?_⟩
    rw [Nat.zero_mul, Nat.zero_add]
    exact World.news_of_block hh i u hu
  | j + 1, hp => simp at hp
theorem two_rest {w : World} {B : Nat} {x y : JV} {ca cb Z : Array Value} {t : TypeId} (hh : w.heap[B]? = some (.cells (ca ++ (cb ++ Z)) t (0, 0))) (hK : kJ.K w x ca.toList) (hL : kJ.K w y cb.toList) : kJ.C w (some ⟨B, 0, none⟩) 2 [x, y] := by
  have hl1 : ca.toList.length = 6 := kJ.K_len hK
  refine ⟨rfl, by simp, fun _ => ⟨_, rfl, fun j p hp => ?_⟩⟩
  have hcs : (ca ++ (cb ++ Z)).toList = ca.toList ++ (cb.toList ++ Z.toList) := by rw [Array.toList_append, Array.toList_append]
  match j, hp with
  | 0, hp =>
    simp at hp
    subst hp
    refine ⟨ca.toList, kJ.K_len hK, hK, fun i u hu => ?_⟩
    rw [Nat.zero_mul, Nat.zero_add]
    refine World.news_of_block hh i u ?_
    rw [hcs, List.getElem?_append_left (List.getElem?_eq_some_iff.1 hu).1]
    exact hu
  | 1, hp =>
    simp at hp
    subst hp
    refine ⟨cb.toList, kJ.K_len hL, hL, fun i u hu => ?_⟩
    refine World.news_of_block hh _ u ?_
    rw [hcs, List.getElem?_append_right (by rw [kJ.K_len hK]; omega), kJ.K_len hK]
    rw [show 1 * kJ.sz + i - kJ.sz = i by omega, List.getElem?_append_left (List.getElem?_eq_some_iff.1 hu).1]
    exact hu
  | j + 2, hp => simp at hp
theorem alloc3 (w : World) (o1 o2 o3 : Obj) : (((w.alloc o1).alloc o2).alloc o3).drew.heap[w.heap.size + 1 + 1]? = some o3 ∧ Below w.heap.size w (((w.alloc o1).alloc o2).alloc o3).drew := by
  refine ⟨?_, ((((Below.refl _ _).alloc (Nat.le_refl _) _).alloc (by simp) _).alloc (by simp; omega) _).drew⟩
  have := heap_alloc_new ((w.alloc o1).alloc o2) o3
  rw [World.size_alloc, World.size_alloc] at this
  exact this
/-- jTurned: what comes out, its six cells laid open. -/
theorem turned (x : JV) (cs : Array Value) (w : World) (hd : Dp 1000 x) (hw : wfJ x) (hK : kJ.K w x cs.toList) : Calls Try.prog 9 #[.agg cs] w fun e w' => ∃ t4 t5, e = .returned (.agg #[.int .i64 (turn 1000 x).f0, .bool (turn 1000 x).f1, .int .i64 (turn 1000 x).f2, .string (turn 1000 x).f3, t4, t5]) ∧ kJ.K w' (turn 1000 x) (#[.int .i64 (turn 1000 x).f0, .bool (turn 1000 x).f1, .int .i64 (turn 1000 x).f2, .string (turn 1000 x).f3, t4, t5] : Array Value).toList ∧ Below w.heap.size w w' := by
  refine (tu 1000 x cs w hd hw hK).mono ?_
  rintro e w' ⟨cs', rfl, hM, hb⟩
  obtain ⟨t4, t5, ecs, _⟩ := k25_openM hM
  obtain rfl : cs' = #[.int .i64 (turn 1000 x).f0, .bool (turn 1000 x).f1, .int .i64 (turn 1000 x).f2, .string (turn 1000 x).f3, t4, t5] := by apply Array.toList_inj.1; rw [ecs]
  exact ⟨t4, t5, rfl, kJ.K_of_M hM, hb⟩
end Go.Proofs.Ytdleegmdpgefmaa.J
