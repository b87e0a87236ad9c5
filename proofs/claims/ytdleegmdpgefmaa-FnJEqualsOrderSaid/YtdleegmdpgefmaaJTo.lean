/- laws.jTurned: the other kinds; objects: what holds in the midst of the rounds, beside the row of places. -/
import Derived.Test.YtdleegmdpgefmaaJT1
namespace Go.Proofs.Ytdleegmdpgefmaa.J
open Go.RowKit Go.Proofs.YtdleegmdpgefmaaW.PrintWords Go.Proofs.YtdleegmdpgefmaaW.PrintLast Go.Proofs.YtdleegmdpgefmaaW.PrintMore Go.Proofs.Ytdleegmdpgefmaa.PJ Go.Proofs.Ytdleegmdpgefmaa.K Go.Maps
set_option linter.unusedVariables false
set_option linter.unusedSimpArgs false
set_option maxHeartbeats 4000000 in
set_option maxRecDepth 100000 in
theorem tu_plain (n : Nat) (hT : Tu n) (x : JV) (cs : Array Value) (w : World) (hd : Dp (n + 1) x) (hw : wfJ x) (hK : kJ.K w x cs.toList) (k4 : x.f0 ≠ 4) (k5 : x.f0 ≠ 5) : Calls Try.prog 9 #[.agg cs] w (TuP (turn (n + 1) x) w) := by
  obtain ⟨A4, c4, A5, c5, rfl, l4, g4, l5, g5⟩ := jopen2 hK
  have HL5 := Lib.hid g5
  have HD := Lib.hid hd.inv.2.2.2
  have HW := Lib.hid hw.inv.2.2.2
  have hl5 : x.f5.length * 88 ≤ 140737488351232 := hw.inv.2.2.1
  have HT := Lib.hid hT
  have e0 : turn (n + 1) x = ⟨x.f0, x.f1, x.f2, x.f3, [], []⟩ := by rw [turn, if_neg k5, if_neg k4, if_neg k5]
  rw [e0]
  have hTI : TI w (((w.alloc (.cells #[.int .i64 x.f0, .bool x.f1, .int .i64 x.f2, .string x.f3, .slice A4 x.f4.length c4, .slice A5 x.f5.length c5] 25)).alloc (.cells #[.int .i64 0, .bool false, .int .i64 0, .string ⟨#[]⟩, .slice none 0 0, .slice none 0 0] 25)).alloc (.cells #[.int .i64 x.f0, .bool x.f1, .int .i64 x.f2, .string x.f3, .slice none 0 0, .slice none 0 0] 25)) #[.int .i64 x.f0, .bool x.f1, .int .i64 x.f2, .string x.f3, .slice A4 x.f4.length c4, .slice A5 x.f5.length c5] (.int .i64 x.f0) (.bool x.f1) (.int .i64 x.f2) (.string x.f3) (.slice none 0 0) (.slice none 0 0) [] [] := by
    refine ⟨(((Below.refl _ _).alloc (Nat.le_refl _) _).alloc (by simp) _).alloc (by simp; omega) _, ?_, ?_, ?_, Kd.R_nil _ _ _ _ _, Kd.R_nil _ _ _ _ _⟩
    · rw [Below.heap_alloc _ _ _ (by simp <;> omega), Below.heap_alloc _ _ _ (by simp)]; exact heap_alloc_new w _
    · have := heap_alloc_new ((w.alloc (.cells #[.int .i64 x.f0, .bool x.f1, .int .i64 x.f2, .string x.f3, .slice A4 x.f4.length c4, .slice A5 x.f5.length c5] 25)).alloc (.cells #[.int .i64 0, .bool false, .int .i64 0, .string ⟨#[]⟩, .slice none 0 0, .slice none 0 0] 25)) (.cells #[.int .i64 x.f0, .bool x.f1, .int .i64 x.f2, .string x.f3, .slice none 0 0, .slice none 0 0] 25)
      rw [World.size_alloc, World.size_alloc] at this
      exact this
    · rw [Below.heap_alloc _ _ _ (by simp)]
      have := heap_alloc_new (w.alloc (.cells #[.int .i64 x.f0, .bool x.f1, .int .i64 x.f2, .string x.f3, .slice A4 x.f4.length c4, .slice A5 x.f5.length c5] 25)) (.cells #[.int .i64 0, .bool false, .int .i64 0, .string ⟨#[]⟩, .slice none 0 0, .slice none 0 0] 25)
      rw [World.size_alloc] at this
      exact this
  have HTI := Lib.hid hTI
  clear hd hw hT g4 g5 hK e0 hTI HTI
  go_enter Try.func9, Try.ntmps9
  go_wp2_with fail
  have hh : (((w.alloc (.cells #[.int .i64 x.f0, .bool x.f1, .int .i64 x.f2, .string x.f3, .slice A4 x.f4.length c4, .slice A5 x.f5.length c5] 25)).alloc (.cells #[.int .i64 x.f0, .bool x.f1, .int .i64 x.f2, .string x.f3, .slice none 0 0, .slice none 0 0] 25)).alloc (.cells #[.int .i64 x.f0, .bool x.f1, .int .i64 x.f2, .string x.f3, .slice none 0 0, .slice none 0 0] 25)).heap[w.heap.size + 1]? = some (.cells #[.int .i64 x.f0, .bool x.f1, .int .i64 x.f2, .string x.f3, .slice none 0 0, .slice none 0 0] 25 (0, 0)) := by
    rw [Below.heap_alloc _ _ _ (by simp)]
    have := heap_alloc_new (w.alloc (.cells #[.int .i64 x.f0, .bool x.f1, .int .i64 x.f2, .string x.f3, .slice A4 x.f4.length c4, .slice A5 x.f5.length c5] 25)) (.cells #[.int .i64 x.f0, .bool x.f1, .int .i64 x.f2, .string x.f3, .slice none 0 0, .slice none 0 0] 25)
    rw [World.size_alloc] at this
    exact this
  refine bodyPost_ret (results_cell_row rfl _ _ (w.heap.size + 1) 25 _ (0, 0) _ rfl hh Try.underlying25 rfl (by kernel_rfl)) rfl ?_
  exact ⟨_, rfl, k25_mkM _ _ _ (⟨x.f0, x.f1, x.f2, x.f3, [], []⟩ : JV) (Kd.R_nil _ _ _ _ _) (Kd.R_nil _ _ _ _ _), (((Below.refl _ _).alloc (Nat.le_refl _) _).alloc (by simp) _).alloc (by simp; omega) _⟩
/-- As TI; the two rows lie apart. -/
structure TO (w wi : World) (cs : Array Value) (v0 v1 v2 v3 nv ov : Value) (ns : List ByteArray) (xs : List JV) : Prop where
  ti : TI w wi cs v0 v1 v2 v3 nv ov ns xs
  apart : kJ.R 25 wi w.heap.size (fun k => w.heap.size + 2 < k ∧ some k ≠ nv.ownBlock) ov xs
theorem TO.step {w wi w' : World} {cs : Array Value} {v0 v1 v2 v3 nv ov : Value} {ns : List ByteArray} {xs : List JV} (h : TO w wi cs v0 v1 v2 v3 nv ov ns xs) (hb : Below wi.heap.size wi w') : TO w w' cs v0 v1 v2 v3 nv ov ns xs := ⟨h.ti.step hb, R_keep h.apart hb⟩
/-- Behind an append to the names: the items lie apart from the new row. -/
theorem R_after {α : Type} {d : Kd α} {e base : Nat} {ok : Nat → Prop} {W w1 : World} {u u1 v : Value} {xs : List α} (h : d.R e W base (fun k => ok k ∧ some k ≠ u.ownBlock) v xs) (hg : W.grownBy w1 u.ownBlock) (hat : u1.ownBlock = u.ownBlock ∨ ∃ b, u1.ownBlock = some b ∧ W.heap.size ≤ b) : d.R e w1 base (fun k => ok k ∧ some k ≠ u1.ownBlock) v xs := by
  obtain ⟨v', e', hr⟩ := Kd.M_after (d := Kd.slice e d) (v := u) (v1 := u1) (Kd.M_row h) hg hat
  obtain rfl : v = v' := by simpa using e'
  exact hr
theorem TO.next {w wr w1 w2 w3 : World} {cs : Array Value} {v0 v1 v2 v3 nv ov nv' ov' : Value} {ns ns' : List ByteArray} {xs xs' : List JV} (h : TO w wr cs v0 v1 v2 v3 nv ov ns xs)
    (hgN : wr.grownBy w1 nv.ownBlock) (hatN : nv'.ownBlock = nv.ownBlock ∨ ∃ b, nv'.ownBlock = some b ∧ wr.heap.size ≤ b) (hRN : Kd.string.R 9 w1 w.heap.size (fun k => w.heap.size + 2 < k) nv' ns')
    (hb12 : Below w1.heap.size w1 w2) (hgI : w2.grownBy w3 ov.ownBlock) (hb3 : Below w.heap.size w w3) (hRI : kJ.R 25 w3 w.heap.size (fun k => w.heap.size + 2 < k ∧ some k ≠ nv'.ownBlock) ov' xs') :
    TO w ((w3.setCell ⟨w.heap.size + 1 + 1, 4, none⟩ nv').setCell ⟨w.heap.size + 1 + 1, 5, none⟩ ov') cs v0 v1 v2 v3 nv' ov' ns' xs' := by
  have hl := h.ti.lt
  have hs1 := hgN.size
  have hs2 := hb12.size
  have hs3 := hgI.size
  have hap := R_after h.apart hgN hatN
  have hold : ∀ k, k ≤ w.heap.size + 2 → w3.heap[k]? = wr.heap[k]? := fun k hk => (hgI.block k (by omega) (fun e => by have := h.ti.items.1 _ e.symm; omega)).trans ((hb12.block k (by omega)).trans (hgN.block k (by omega) (fun e => by have := h.ti.names.1 _ e.symm; omega)))
  have hfar : ∀ k, w.heap.size + 2 < k → k < w3.heap.size → ((w3.setCell ⟨w.heap.size + 1 + 1, 4, none⟩ nv').setCell ⟨w.heap.size + 1 + 1, 5, none⟩ ov').heap[k]? = w3.heap[k]? := fun k hk _ => by
    rw [Below.heap_setCell _ _ _ _ (by show k ≠ w.heap.size + 1 + 1; omega), Below.heap_setCell _ _ _ _ (by show k ≠ w.heap.size + 1 + 1; omega)]
  have hN3 : Kd.string.R 9 w3 w.heap.size (fun k => w.heap.size + 2 < k ∧ some k ≠ ov.ownBlock) nv' ns' := by
    have h2 := R_keep hRN hb12
    have h3 : Kd.string.R 9 w2 w.heap.size (fun k => w.heap.size + 2 < k ∧ some k ≠ ov.ownBlock) nv' ns' := Kd.R_of_own (Kd.own_of_R h2) (fun k hk => ⟨h2.1 k hk, fun e => hap.1 k e.symm |>.2 (by rw [hk])⟩)
    exact R_step h3 fun k hk hlt => hgI.block k hlt hk.2
  refine ⟨⟨below_set (below_set hb3 (by omega)) (by omega), ?_, ?_, ?_, R_step (Kd.R_mono hN3 fun k hk => hk.1) hfar, R_step (Kd.R_mono hRI fun k hk => hk.1) hfar⟩, R_step hRI fun k hk => hfar k hk.1⟩
  · rw [Below.heap_setCell _ _ _ _ (by show w.heap.size ≠ w.heap.size + 1 + 1; omega), Below.heap_setCell _ _ _ _ (by show w.heap.size ≠ w.heap.size + 1 + 1; omega), hold _ (by omega)]; exact h.ti.arg
  · exact blk_put (cs := #[v0, v1, v2, v3, nv', ov]) (blk_put ((hold _ (Nat.le_refl _)).trans h.ti.out) 4 nv' rfl) 5 ov' rfl
  · rw [Below.heap_setCell _ _ _ _ (by show w.heap.size + 1 ≠ w.heap.size + 1 + 1; omega), Below.heap_setCell _ _ _ _ (by show w.heap.size + 1 ≠ w.heap.size + 1 + 1; omega), hold _ (by omega)]; exact h.ti.res
/-- As TO; what stands between out's box and the world w0 is as it was there, and the two rows lie behind. -/
structure TL (w w0 wi : World) (cs : Array Value) (v0 v1 v2 v3 nv ov : Value) (ns : List ByteArray) (xs : List JV) : Prop where
  tt : TO w wi cs v0 v1 v2 v3 nv ov ns xs
  sz : w0.heap.size ≤ wi.heap.size
  lo : w.heap.size + 2 < w0.heap.size
  keep : ∀ k, w.heap.size + 2 < k → k < w0.heap.size → wi.heap[k]? = w0.heap[k]?
  nb : ∀ k, nv.ownBlock = some k → w0.heap.size ≤ k
  ob : ∀ k, ov.ownBlock = some k → w0.heap.size ≤ k
theorem TL.step {w w0 wi w' : World} {cs : Array Value} {v0 v1 v2 v3 nv ov : Value} {ns : List ByteArray} {xs : List JV} (h : TL w w0 wi cs v0 v1 v2 v3 nv ov ns xs) (hb : Below wi.heap.size wi w') : TL w w0 w' cs v0 v1 v2 v3 nv ov ns xs :=
  ⟨h.tt.step hb, Nat.le_trans h.sz hb.size, h.lo, fun k h1 h2 => (hb.block k (Nat.lt_of_lt_of_le h2 h.sz)).trans (h.keep k h1 h2), h.nb, h.ob⟩
theorem TL.next {w w0 wr w1 w2 w3 : World} {cs : Array Value} {v0 v1 v2 v3 nv ov nv' ov' : Value} {ns ns' : List ByteArray} {xs xs' : List JV} (h : TL w w0 wr cs v0 v1 v2 v3 nv ov ns xs)
    (hgN : wr.grownBy w1 nv.ownBlock) (hatN : nv'.ownBlock = nv.ownBlock ∨ ∃ b, nv'.ownBlock = some b ∧ wr.heap.size ≤ b) (hRN : Kd.string.R 9 w1 w.heap.size (fun k => w.heap.size + 2 < k) nv' ns')
    (hb12 : Below w1.heap.size w1 w2) (hgI : w2.grownBy w3 ov.ownBlock) (hatI : ov'.ownBlock = ov.ownBlock ∨ ∃ b, ov'.ownBlock = some b ∧ w2.heap.size ≤ b) (hb3 : Below w.heap.size w w3) (hRI : kJ.R 25 w3 w.heap.size (fun k => w.heap.size + 2 < k ∧ some k ≠ nv'.ownBlock) ov' xs') :
    TL w w0 ((w3.setCell ⟨w.heap.size + 1 + 1, 4, none⟩ nv').setCell ⟨w.heap.size + 1 + 1, 5, none⟩ ov') cs v0 v1 v2 v3 nv' ov' ns' xs' := by
  have hs0 := h.sz
  have hs1 := hgN.size
  have hs2 := hb12.size
  have hs3 := hgI.size
  refine ⟨h.tt.next hgN hatN hRN hb12 hgI hb3 hRI, ?_, h.lo, fun k h1 h2 => ?_, fun k hk => ?_, fun k hk => ?_⟩
  · rw [World.size_setCell, World.size_setCell]; omega
  · rw [Below.heap_setCell _ _ _ _ (by show k ≠ w.heap.size + 1 + 1; omega), Below.heap_setCell _ _ _ _ (by show k ≠ w.heap.size + 1 + 1; omega), hgI.block k (by omega) (fun e => by have := h.ob _ e.symm; omega), hb12.block k (by omega), hgN.block k (by omega) (fun e => by have := h.nb _ e.symm; omega)]
    exact h.keep k h1 h2
  · rcases hatN with e | ⟨b, e, hb⟩
    · exact h.nb k (by rw [← e]; exact hk)
    · rw [e] at hk; cases hk; omega
  · rcases hatI with e | ⟨b, e, hb⟩
    · exact h.ob k (by rw [← e]; exact hk)
    · rw [e] at hk; cases hk; omega
theorem R_bound {α : Type} {d : Kd α} {e base : Nat} {ok : Nat → Prop} {w : World} {v : Value} {xs : List α} (h : d.R e w base ok v xs) : d.R e w base (fun k => ok k ∧ base ≤ k ∧ k < w.heap.size) v xs := by
  obtain ⟨v', e', hr⟩ := (Kd.slice e d).M_bound (Kd.M_row h)
  obtain rfl : v = v' := by simpa using e'
  exact Kd.R_mono hr fun k hk => ⟨hk.1, hk.2.1, hk.2.2.1⟩
theorem tAt {w : World} {A : Option Addr} {l : List Int} (h : (Kd.int .i64).C w A l.length l) (i : Nat) (hi : i < l.length) : ∃ ad, A = some ad ∧ w.cell? (ad.add i) = some (.int .i64 l[i]) := by
  obtain ⟨ad, rfl, hc⟩ := h.2.2 (by omega)
  obtain ⟨c, _, hk, hcell⟩ := hc i _ (List.getElem?_eq_getElem hi)
  obtain rfl : c = [.int .i64 l[i]] := hk
  refine ⟨ad, rfl, ?_⟩
  have := hcell 0 _ rfl
  simpa [Kd.int, Kd.scalar] using this
theorem tadd (a : Addr) (i : Nat) : (a.add i).block = a.block := by unfold Addr.add; split <;> rfl
theorem TL.start {w w0 : World} {cs : Array Value} {v0 v1 v2 v3 : Value} (h : TI w w0 cs v0 v1 v2 v3 (.slice none 0 0) (.slice none 0 0) [] []) : TL w w0 w0 cs v0 v1 v2 v3 (.slice none 0 0) (.slice none 0 0) [] [] :=
  ⟨⟨h, Kd.R_nil _ _ _ _ _⟩, Nat.le_refl _, h.lt, fun _ _ _ => rfl, (fun _ hk => nomatch hk), (fun _ hk => nomatch hk)⟩
theorem memR_take (x : JV) (ms : List Int) (hms : memL x.f4 x.f4.length = ms) (j : Nat) (hj : j < ms.length) : (memR x).take (ms.length - j) = (memR x).take (ms.length - (j + 1)) ++ [ms[j]] := by
  subst hms
  have hl : (memR x).length = (memL x.f4 x.f4.length).length := by unfold memR; rw [List.length_reverse]
  have e : (memL x.f4 x.f4.length).length - j = ((memL x.f4 x.f4.length).length - (j + 1)) + 1 := by omega
  rw [e, List.take_succ_eq_append_getElem (by omega)]
  congr 2
  simp only [memR, List.getElem_reverse]
  congr 1
  omega
end Go.Proofs.Ytdleegmdpgefmaa.J
