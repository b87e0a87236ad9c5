/- GraphQL types: the maker: newMaker, pos, typ. -/
import Derived.Test.YtamajbaojbghcaaTy1
import Derived.Lib.BufferOwn
namespace Go.Proofs.Ytamajbaojbghcaa.Ty
open Go.RowKit Go.Proofs.YtamajbaojbghcaaW.PrintWords Go.Proofs.YtamajbaojbghcaaW.PrintLast Go.Proofs.YtamajbaojbghcaaW.PrintMore Go.Proofs.Ytamajbaojbghcaa.PT Go.Proofs.Ytamajbaojbghcaa.K
set_option linter.unusedVariables false
set_option linter.unusedSimpArgs false
/-- A maker in block g that has met nothing bad. -/
def IsMk (w : World) (g : Nat) : Prop := ∃ S n, w.heap[g]? = some (.cells #[.pointer S, .int .i64 n, .bool false] 56 (0, 0))
theorem IsMk.lt {w : World} {g : Nat} (h : IsMk w g) : g < w.heap.size := by obtain ⟨S, n, h⟩ := h; exact heap_lt h
theorem IsMk.below {w w' : World} {g : Nat} (h : IsMk w g) (hb : Below w.heap.size w w') : IsMk w' g := by obtain ⟨S, n, h⟩ := h; exact ⟨S, n, (hb.block _ (heap_lt h)).trans h⟩
theorem gb_refl (w : World) (r : Option Nat) : w.grownBy w r := ⟨rfl, rfl, rfl, Nat.le_refl _, fun _ _ _ => rfl⟩
theorem gb_set (w : World) (g i : Nat) (v : Value) : w.grownBy (w.setCell ⟨g, i, none⟩ v) (some g) := ⟨rfl, rfl, rfl, by rw [World.size_setCell]; exact Nat.le_refl _, fun k _ hne => Below.heap_setCell _ _ _ _ (fun e => hne (by rw [show k = g from e]))⟩
theorem gb_below {w w1 w2 : World} {r : Option Nat} (h : w.grownBy w1 r) (hb : Below w1.heap.size w1 w2) : w.grownBy w2 r := ⟨hb.os.trans h.os, hb.tape.trans h.tape, hb.output.trans h.output, Nat.le_trans h.size hb.size, fun k hk hne => (hb.block k (Nat.lt_of_lt_of_le hk h.size)).trans (h.block k hk hne)⟩
theorem gb_trans {w w1 w2 : World} {r : Option Nat} (h : w.grownBy w1 r) (h2 : w1.grownBy w2 r) : w.grownBy w2 r := ⟨h2.os.trans h.os, h2.tape.trans h.tape, h2.output.trans h.output, Nat.le_trans h.size h2.size, fun k hk hne => (h2.block k (Nat.lt_of_lt_of_le hk h.size) hne).trans (h.block k hk hne)⟩
theorem below_gb {w w1 w2 : World} {r : Option Nat} (h : Below w.heap.size w w1) (h2 : w1.grownBy w2 r) : w.grownBy w2 r := ⟨h2.os.trans h.os, h2.tape.trans h.tape, h2.output.trans h.output, Nat.le_trans h.size h2.size, fun k hk hne => (h2.block k (Nat.lt_of_lt_of_le hk h.size) hne).trans (h.block k hk)⟩
theorem lt_of_cell {w : World} {a : Addr} {v : Value} (h : w.cell? a = some v) : a.block < w.heap.size := by
  rcases Nat.lt_or_ge a.block w.heap.size with h' | h'
  · exact h'
  · simp [World.cell?, Array.getElem?_eq_none h'] at h
theorem newMk (w : World) : Calls Try.prog 37 #[] w fun e w' => ∃ g, e = .returned (.pointer (some ⟨g, 0, none⟩)) ∧ w.heap.size ≤ g ∧ IsMk w' g ∧ Below w.heap.size w w' := by
  go_enter Try.func37, Try.ntmps37
  go_wp2
  go_ret
  refine ⟨w.heap.size + 1, rfl, by omega, ⟨some ⟨w.heap.size, 0, none⟩, 0, ?_⟩, ((Below.refl _ w).alloc (Nat.le_refl _) _).alloc (by simp) _⟩
  have := heap_alloc_new (w.alloc (.cells #[.string ⟨#[]⟩, .string ⟨#[]⟩, .bool false] 114)) (.cells #[.pointer (some ⟨w.heap.size, 0, none⟩), .int .i64 0, .bool false] 56)
  rw [World.size_alloc] at this
  exact this
set_option maxHeartbeats 1000000 in
theorem mkPos (w : World) (g : Nat) (h : IsMk w g) : Calls Try.prog 69 #[.pointer (some ⟨g, 0, none⟩)] w fun e w' => ∃ q, e = .returned (.pointer q) ∧ IsMk w' g ∧ w.grownBy w' (some g) := by
  obtain ⟨S, n, h⟩ := h
  have h0 : w.cell? ⟨g, 0, none⟩ = some (.pointer S) := by rw [Lib.cell_of_heap h]; rfl
  have h1 : w.cell? ⟨g, 1, none⟩ = some (.int .i64 n) := by rw [Lib.cell_of_heap h]; rfl
  have hf := blk_frozen h 1
  have H := Lib.hid h
  clear h
  go_enter Try.func69, Try.ntmps69
  go_wp2_with fail
  have hW := blk_put H.out 1 (.int .i64 (wrap64 (n + 1))) rfl
  have hG := gb_set w g 1 (.int .i64 (wrap64 (n + 1)))
  obtain ⟨w1, hw1⟩ : ∃ W, w.setCell ⟨g, 1, none⟩ (.int .i64 (wrap64 (n + 1))) = W := ⟨_, rfl⟩
  rw [hw1] at hW hG ⊢
  have g0 : w1.cell? ⟨g, 0, none⟩ = some (.pointer S) := by rw [Lib.cell_of_heap hW]; rfl
  have g1 : w1.cell? ⟨g, 1, none⟩ = some (.int .i64 (wrap64 (n + 1))) := by rw [Lib.cell_of_heap hW]; rfl
  have HW := Lib.hid hW
  have HG := Lib.hid hG
  clear hW hG hw1 h0 h1 hf H
  go_region_held3 (fun w' => w'.cell? ⟨g, 0, none⟩ = some (.pointer S) ∧ w'.cell? ⟨g, 1, none⟩ = some (.int .i64 (wrap64 (n + 1))))
    (go_keep)
    (fail)
  go_wp2_with fail
  have hb : ∀ o : Obj, Below w1.heap.size w1 (w1.alloc o).drew := fun o => ((Below.refl _ _).alloc (Nat.le_refl _) _).drew
  go_ret
  exact ⟨_, rfl, IsMk.below ⟨S, wrap64 (n + 1), HW.out⟩ (hb _), gb_below HG.out (hb _)⟩
/-- typ: what it makes of a type. -/
def MkP (g : Nat) (t : Ty) (w : World) (e : Ending) (w' : World) : Prop := ∃ p, e = .returned p ∧ TyAt w' w.heap.size t p ∧ IsMk w' g ∧ w.grownBy w' (some g)
/-- What holds behind the maker's first words: the argument's box stands, the maker has met nothing bad. -/
structure T1 (w w1 : World) (g : Nat) (cs : Array Value) : Prop where
  mm : IsMk w1 g
  grown : w.grownBy w1 (some g)
  box : w1.heap[w.heap.size]? = some (.cells cs 24 (0, 0))
  lt : g < w.heap.size
theorem T1.start {w : World} {g : Nat} (cs : Array Value) (h : IsMk w g) : T1 w ((w.alloc (.cells cs 24)).setCell ⟨g, 2, none⟩ (.bool false)) g cs := by
  obtain ⟨S, n, h⟩ := h
  have hlt := heap_lt h
  have hb : Below w.heap.size w (w.alloc (.cells cs 24)) := (Below.refl _ _).alloc (Nat.le_refl _) _
  refine ⟨⟨S, n, ?_⟩, below_gb hb (gb_set _ _ _ _), ?_, hlt⟩
  · exact blk_put (cs := #[.pointer S, .int .i64 n, .bool false]) ((hb.block _ hlt).trans h) 2 (.bool false) rfl
  · rw [Below.heap_setCell _ _ _ _ (by show w.heap.size ≠ g; omega)]; exact heap_alloc_new _ _
theorem T1.step {w w1 w2 : World} {g : Nat} {cs : Array Value} (h : T1 w w1 g cs) (hm : IsMk w2 g) (hg : w1.grownBy w2 (some g)) : T1 w w2 g cs := by
  have := h.lt
  exact ⟨hm, gb_trans h.grown hg, (hg.block _ (heap_lt h.box) (by intro e; cases e; omega)).trans h.box, h.lt⟩
theorem T1.c {w w1 : World} {g : Nat} {cs : Array Value} (h : T1 w w1 g cs) (i : Nat) (v : Value) (hi : cs[i]? = some v) : w1.cell? ⟨w.heap.size, i, none⟩ = some v := by rw [Lib.cell_of_heap h.box]; exact hi
set_option maxHeartbeats 4000000 in
set_option maxRecDepth 100000 in
theorem typ_name (t : TV) (cs : Array Value) (w0 w : World) (g : Nat) (h1 : t.f1 = []) (h2 : t.f0 ≠ ByteArray.empty) (hK : k24.K w0 t cs.toList) (hM : IsMk w g) : Calls Try.prog 38 #[.pointer (some ⟨g, 0, none⟩), .agg cs] w (MkP g (.named t.f0 t.f2) w) := by
  obtain ⟨A1, c1, hcs, l1, g1⟩ := k24_open hK
  obtain rfl : cs = #[.string t.f0, .slice A1 t.f1.length c1, .bool t.f2] := by apply Array.toList_inj.1; rw [hcs]
  have hl : t.f1.length = 0 := by rw [h1]; rfl
  rw [hl]
  have hT := T1.start #[.string t.f0, .slice A1 0 c1, .bool t.f2] hM
  obtain ⟨S, m, h⟩ := hM
  have he : t.f0.toList.isEmpty = false := by
    cases hx : t.f0.toList with
    | nil => exact absurd (by apply ByteArray.ext; apply Array.toList_inj.1; simpa [ByteArray.toList_eq] using hx) h2
    | cons a l => rfl
  have he2 : (t.f0.toList == ([] : List UInt8)) = false := by
    cases hx : t.f0.toList with
    | nil => rw [hx] at he; cases he
    | cons a l => rfl
  have m2 : (w.alloc (.cells #[.string t.f0, .slice A1 0 c1, .bool t.f2] 24)).cell? ⟨g, 2, none⟩ = some (.bool false) := by
    rw [Lib.cell_of_heap (((Below.refl w.heap.size w).alloc (Nat.le_refl _) _).block _ (heap_lt h) |>.trans h)]; rfl
  have f2 : (w.alloc (.cells #[.string t.f0, .slice A1 0 c1, .bool t.f2] 24)).frozen? ⟨g, 2, none⟩ = false := blk_frozen (((Below.refl w.heap.size w).alloc (Nat.le_refl _) _).block _ (heap_lt h) |>.trans h) 2
  have HT := Lib.hid hT
  clear hT hK hcs g1 l1 h1 h2 hl h
  go_enter Try.func38, Try.ntmps38
  go_wp2_with fail
  obtain ⟨w1, hw1⟩ : ∃ W, (w.alloc (.cells #[.string t.f0, .slice A1 0 c1, .bool t.f2] 24)).setCell ⟨g, 2, none⟩ (.bool false) = W := ⟨_, rfl⟩
  rw [hw1] at HT ⊢
  clear hw1 m2 f2 he he2
  have b0 := HT.out.c 0 _ rfl
  have b2 := HT.out.c 2 _ rfl
  have hgl := HT.out.lt
  go_region_held3 (fun w' => w'.cell? ⟨w.heap.size, 0, none⟩ = some (.string t.f0) ∧ w'.cell? ⟨w.heap.size, 2, none⟩ = some (.bool t.f2))
    (first
      | go_keep
      | (go_split_ands; exact ⟨HT2.out.c 0 _ rfl, HT2.out.c 2 _ rfl⟩))
    (first
      | (go_at_call 69; refine (mkPos _ g (HT.out.mm.below (Below.refl _ _).drew)).mono ?_; rintro e w2 ⟨q, rfl, hM2, hG2⟩; have HT2 := Lib.hid (HT.out.step hM2 (below_gb (Below.refl _ _).drew hG2)); have b1' : (w2.alloc (.cells #[.string t.f0, .pointer none, .bool t.f2, .pointer q] 117)).cell? ⟨w.heap.size, 1, none⟩ = some (.slice A1 0 c1) := ((Below.alloc (Below.refl _ _) (Nat.le_refl _) _).cell (lt_of_cell (HT2.out.c 1 _ rfl))).trans (HT2.out.c 1 _ rfl); clear hM2 hG2)
      | fail)
  go_wp2_with fail
  have hb : Below w2.heap.size w2 (w2.alloc (.cells #[.string t.f0, .pointer none, .bool t.f2, .pointer q] 117)) := (Below.refl _ _).alloc (Nat.le_refl _) _
  go_ret
  exact ⟨_, rfl, ⟨w2.heap.size, .pointer q, rfl, HT2.out.grown.size, heap_alloc_new _ _⟩, HT2.out.mm.below hb, gb_below HT2.out.grown hb⟩
theorem gb_far {w w1 : World} {r : Option Nat} (h : w.grownBy w1 r) (B i : Nat) (v : Value) (hB : w.heap.size ≤ B) : w.grownBy (w1.setCell ⟨B, i, none⟩ v) r := ⟨h.os, h.tape, h.output, by rw [World.size_setCell]; exact h.size, fun k hk hne => (Below.heap_setCell _ _ _ _ (by show k ≠ B; omega)).trans (h.block k hk hne)⟩
theorem TyAt.ptr {w : World} {b : Nat} : ∀ {t : Ty} {p : Value}, TyAt w b t p → ∃ g, p = .pointer (some ⟨g, 0, none⟩)
  | .named _ _, _, ⟨g, _, e, _⟩ => ⟨g, e⟩
  | .list _ _, _, ⟨g, _, _, e, _⟩ => ⟨g, e⟩
/-- The contract of typ, for types at most so deep. -/
def TypC (n : Nat) : Prop := ∀ (t : TV) (cs : Array Value) (w0 w : World) (g : Nat), Ft n t → k24.K w0 t cs.toList → Below w0.heap.size w0 w → w0.heap.size ≤ g → IsMk w g → Calls Try.prog 38 #[.pointer (some ⟨g, 0, none⟩), .agg cs] w (MkP g (toT n t) w)
theorem TypC.at_ {n : Nat} (h : TypC n) (t : TV) (cs : Array Value) (w0 w : World) (g : Nat) (h1 : Ft n t) (h2 : k24.K w0 t cs.toList) (h3 : Below w0.heap.size w0 w) (h4 : w0.heap.size ≤ g) (h5 : IsMk w g) : Calls Try.prog 38 #[.pointer (some ⟨g, 0, none⟩), .agg cs] w fun e w' => ∃ p, e = .returned p ∧ TyAt w' w.heap.size (toT n t) p ∧ IsMk w' g ∧ w.grownBy w' (some g) := h t cs w0 w g h1 h2 h3 h4 h5
set_option maxHeartbeats 4000000 in
set_option maxRecDepth 100000 in
theorem typ_list (n : Nat) (ih : TypC n) (t e : TV) (cs : Array Value) (w0 w : World) (g : Nat) (h1 : t.f1 = [e]) (h2 : t.f0 = ByteArray.empty) (h3 : Ft n e) (hK : k24.K w0 t cs.toList) (hB : Below w0.heap.size w0 w) (hg : w0.heap.size ≤ g) (hM : IsMk w g) : Calls Try.prog 38 #[.pointer (some ⟨g, 0, none⟩), .agg cs] w (MkP g (.list (toT n e) t.f2) w) := by
  obtain ⟨A1, c1, hcs, l1, g1⟩ := k24_open hK
  obtain rfl : cs = #[.string t.f0, .slice A1 t.f1.length c1, .bool t.f2] := by apply Array.toList_inj.1; rw [hcs]
  have hl : t.f1.length = 1 := by rw [h1]; rfl
  rw [h2, hl]
  have hT := T1.start #[.string ByteArray.empty, .slice A1 1 c1, .bool t.f2] hM
  obtain ⟨S, m, h⟩ := hM
  obtain ⟨ad, B1, d1, rfl, z0, z1, z2, lg1, gg1⟩ := at_T24 g1 0 (by decide) (by omega)
  rw [rd0 _ e h1] at z0 z1 z2 lg1 gg1
  rw [show ad.add ((0 : Int).toNat * 3) = ad from rfl] at z0 z1 z2
  have he : ByteArray.empty.toList.isEmpty = true := by rw [ByteArray.toList_eq]; rfl
  have he2 : (ByteArray.empty.toList == ([] : List UInt8)) = true := by rw [ByteArray.toList_eq]; rfl
  have m2 : (w.alloc (.cells #[.string ByteArray.empty, .slice (some ad) 1 c1, .bool t.f2] 24)).cell? ⟨g, 2, none⟩ = some (.bool false) := by
    rw [Lib.cell_of_heap (((Below.refl w.heap.size w).alloc (Nat.le_refl _) _).block _ (heap_lt h) |>.trans h)]; rfl
  have f2 : (w.alloc (.cells #[.string ByteArray.empty, .slice (some ad) 1 c1, .bool t.f2] 24)).frozen? ⟨g, 2, none⟩ = false := blk_frozen (((Below.refl w.heap.size w).alloc (Nat.le_refl _) _).block _ (heap_lt h) |>.trans h) 2
  have HT := Lib.hid hT
  have HKe := Lib.hid (k24_mk w0 e lg1 gg1)
  have HB := Lib.hid hB
  have HF := Lib.hid h3
  have IH := Lib.hid ih
  have Z0 := Lib.hid z0
  have Z1 := Lib.hid z1
  have Z2 := Lib.hid z2
  clear hT hK hcs g1 l1 h1 h2 hl h lg1 gg1 hB h3 ih z0 z1 z2
  go_enter Try.func38, Try.ntmps38
  go_wp2_with fail
  obtain ⟨w1, hw1⟩ : ∃ W, (w.alloc (.cells #[.string ByteArray.empty, .slice (some ad) 1 c1, .bool t.f2] 24)).setCell ⟨g, 2, none⟩ (.bool false) = W := ⟨_, rfl⟩
  rw [hw1] at HT ⊢
  clear hw1 m2 f2 he he2
  have b0 := HT.out.c 0 _ rfl
  have b2 := HT.out.c 2 _ rfl
  have hgl := HT.out.lt
  go_region_held3 (fun w' => w'.cell? ⟨w.heap.size, 0, none⟩ = some (.string ByteArray.empty) ∧ w'.cell? ⟨w.heap.size, 2, none⟩ = some (.bool t.f2))
    (first
      | go_keep
      | (go_split_ands; exact ⟨HT2.out.c 0 _ rfl, HT2.out.c 2 _ rfl⟩))
    (first
      | (go_at_call 69; refine (mkPos _ g (HT.out.mm.below (Below.refl _ _).drew)).mono ?_; rintro e1 w2 ⟨q, rfl, hM2, hG2⟩; have HT2 := Lib.hid (HT.out.step hM2 (below_gb (Below.refl _ _).drew hG2)); clear hM2 hG2)
      | fail)
  have hb : Below w2.heap.size w2 (w2.alloc (.cells #[.string ByteArray.empty, .pointer none, .bool t.f2, .pointer q] 117)) := (Below.refl _ _).alloc (Nat.le_refl _) _
  have hh3 := heap_alloc_new w2 (.cells #[.string ByteArray.empty, .pointer none, .bool t.f2, .pointer q] 117)
  have hs3 : (w2.alloc (.cells #[.string ByteArray.empty, .pointer none, .bool t.f2, .pointer q] 117)).heap.size = w2.heap.size + 1 := by rw [World.size_alloc]
  have HT3 := Lib.hid (HT2.out.step (HT2.out.mm.below hb) (gb_below (gb_refl _ _) hb))
  obtain ⟨w3, hw3⟩ : ∃ W, w2.alloc (.cells #[.string ByteArray.empty, .pointer none, .bool t.f2, .pointer q] 117) = W := ⟨_, rfl⟩
  rw [hw3] at HT3 hh3 hs3 ⊢
  have hB3 : Below w0.heap.size w0 w3 := HB.out.grown HT3.out.grown (HB.out.size) (fun k hk => by cases hk; exact hg)
  have b1 := HT3.out.c 1 _ rfl
  have x0 := (hB3.cell (lt_of_cell Z0.out)).trans Z0.out
  have x1 := (hB3.cell (lt_of_cell Z1.out)).trans Z1.out
  have x2 := (hB3.cell (lt_of_cell Z2.out)).trans Z2.out
  have HH3 := Lib.hid hh3
  have HS3 := Lib.hid hs3
  have HB3 := Lib.hid hB3
  have hws : w.heap.size ≤ w2.heap.size := HT2.out.grown.size
  clear hw3 hb hh3 hs3 hB3 b0 b2 HT HT2
  go_wp2_with fail
  refine (IH.out.at_ e #[.string e.f0, .slice B1 e.f1.length d1, .bool e.f2] w0 w3 g HF.out HKe.out HB3.out hg HT3.out.mm).mono ?_
  rintro e1 w4 ⟨p, rfl, hTy, hM4, hG4⟩
  obtain ⟨pg, rfl⟩ := hTy.ptr
  have hs := HS3.out
  have hh4 : w4.heap[w2.heap.size]? = some (.cells #[.string ByteArray.empty, .pointer none, .bool t.f2, .pointer q] 117 (0, 0)) := (hG4.block _ (by omega) (by intro e; cases e; omega)).trans HH3.out
  have y1 : w4.cell? ⟨w2.heap.size, 1, none⟩ = some (.pointer none) := by rw [Lib.cell_of_heap hh4]; rfl
  have yf := blk_frozen hh4 1
  have HTy := Lib.hid hTy
  have HM4 := Lib.hid hM4
  have HG4 := Lib.hid hG4
  have HH4 := Lib.hid hh4
  clear hTy hM4 hG4 hh4 hs x0 x1 x2 b1
  go_wp2_with fail
  go_ret
  have hs := HS3.out
  refine ⟨_, rfl, ⟨w2.heap.size, .pointer q, .pointer (some ⟨pg, 0, none⟩), rfl, hws, blk_put HH4.out 1 (.pointer (some ⟨pg, 0, none⟩)) rfl, ?_⟩, ?_, ?_⟩
  · refine TyAt.mono (show w.heap.size ≤ w3.heap.size by omega) (HTy.out.keep fun k hk _ => Below.heap_setCell _ _ _ _ (by show k ≠ w2.heap.size; omega))
  · obtain ⟨S, m, h⟩ := HM4.out
    exact ⟨S, m, (Below.heap_setCell _ _ _ _ (by show g ≠ w2.heap.size; omega)).trans h⟩
  · exact gb_far (gb_trans HT3.out.grown HG4.out) _ _ _ hws
theorem typ : ∀ n, TypC n
  | 0 => fun t cs w0 w g hF hK hB hg hM => by
    cases hF with
    | name _ _ h1 h2 => rw [toT_name h1]; exact typ_name t cs w0 w g h1 h2 hK hM
  | n + 1 => fun t cs w0 w g hF hK hB hg hM => by
    cases hF with
    | name _ _ h1 h2 => rw [toT_name h1]; exact typ_name t cs w0 w g h1 h2 hK hM
    | list _ _ e h1 h2 h3 => rw [toT_list h1]; exact typ_list n (typ n) t e cs w0 w g h1 h2 h3 hK hB hg hM
end Go.Proofs.Ytamajbaojbghcaa.Ty
