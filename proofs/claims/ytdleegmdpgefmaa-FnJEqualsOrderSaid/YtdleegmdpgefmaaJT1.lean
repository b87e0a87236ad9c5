/- laws.jTurned: the walk. -/
import Derived.Test.YtdleegmdpgefmaaJT0
import Derived.Test.YtdleegmdpgefmaaPhase
import Derived.Deep.RegionHeld3
namespace Go.Proofs.Ytdleegmdpgefmaa.J
open Go.RowKit Go.Proofs.YtdleegmdpgefmaaW.PrintWords Go.Proofs.YtdleegmdpgefmaaW.PrintLast Go.Proofs.YtdleegmdpgefmaaW.PrintMore Go.Proofs.Ytdleegmdpgefmaa.PJ Go.Proofs.Ytdleegmdpgefmaa.K Go.Maps
set_option linter.unusedVariables false
set_option linter.unusedSimpArgs false
theorem jopen2 {w : World} {x : JV} {cs : Array Value} (hK : kJ.K w x cs.toList) : ∃ A4 c4 A5 c5, cs = #[.int .i64 x.f0, .bool x.f1, .int .i64 x.f2, .string x.f3, .slice A4 x.f4.length c4, .slice A5 x.f5.length c5] ∧ x.f4.length ≤ c4 ∧ Kd.string.C w A4 x.f4.length x.f4 ∧ x.f5.length ≤ c5 ∧ kJ.C w A5 x.f5.length x.f5 := by
  obtain ⟨A4, c4, A5, c5, hcs, l4, g4, l5, g5⟩ := k25_open hK
  exact ⟨A4, c4, A5, c5, by apply Array.toList_inj.1; rw [hcs], l4, g4, l5, g5⟩
/-- What jTurned makes of values at most so deep. -/
def TuP (y : JV) (w : World) (e : Ending) (w' : World) : Prop := ∃ cs' : Array Value, e = .returned (.agg cs') ∧ kJ.M w' w.heap.size (fun _ => True) y cs'.toList ∧ Below w.heap.size w w'
def Tu (n : Nat) : Prop := ∀ (x : JV) (cs : Array Value) (w : World), Dp n x → wfJ x → kJ.K w x cs.toList → Calls Try.prog 9 #[.agg cs] w (TuP (turn n x) w)
theorem Tu.at_ {n : Nat} (h : Tu n) (x : JV) (cs : Array Value) (w : World) (h1 : Dp n x) (h2 : wfJ x) (h3 : kJ.K w x cs.toList) : Calls Try.prog 9 #[.agg cs] w fun e w' => ∃ cs' : Array Value, e = .returned (.agg cs') ∧ kJ.M w' w.heap.size (fun _ => True) (turn n x) cs'.toList ∧ Below w.heap.size w w' := h x cs w h1 h2 h3
/-- In the midst of the rounds: the argument's box stands; the box of what comes out holds its two rows. -/
structure TI (w wi : World) (cs : Array Value) (v0 v1 v2 v3 nv ov : Value) (ns : List ByteArray) (xs : List JV) : Prop where
  below : Below w.heap.size w wi
  arg : wi.heap[w.heap.size]? = some (.cells cs 25 (0, 0))
  out : wi.heap[w.heap.size + 2]? = some (.cells #[v0, v1, v2, v3, nv, ov] 25 (0, 0))
  res : wi.heap[w.heap.size + 1]? = some (.cells #[.int .i64 0, .bool false, .int .i64 0, .string ⟨#[]⟩, .slice none 0 0, .slice none 0 0] 25 (0, 0))
  names : Kd.string.R 9 wi w.heap.size (fun k => w.heap.size + 2 < k) nv ns
  items : kJ.R 25 wi w.heap.size (fun k => w.heap.size + 2 < k) ov xs
theorem TI.lt {w wi : World} {cs : Array Value} {v0 v1 v2 v3 nv ov : Value} {ns : List ByteArray} {xs : List JV} (h : TI w wi cs v0 v1 v2 v3 nv ov ns xs) : w.heap.size + 2 < wi.heap.size := by
  rcases Nat.lt_or_ge (w.heap.size + 2) wi.heap.size with h' | h'
  · exact h'
  · have := h.out; rw [Array.getElem?_eq_none h'] at this; cases this
theorem TI.c {w wi : World} {cs : Array Value} {v0 v1 v2 v3 nv ov : Value} {ns : List ByteArray} {xs : List JV} (h : TI w wi cs v0 v1 v2 v3 nv ov ns xs) (i : Nat) (v : Value) (hi : cs[i]? = some v) : wi.cell? ⟨w.heap.size, i, none⟩ = some v := by rw [Lib.cell_of_heap h.arg]; exact hi
theorem TI.o {w wi : World} {cs : Array Value} {v0 v1 v2 v3 nv ov : Value} {ns : List ByteArray} {xs : List JV} (h : TI w wi cs v0 v1 v2 v3 nv ov ns xs) (i : Nat) (v : Value) (hi : (#[v0, v1, v2, v3, nv, ov] : Array Value)[i]? = some v) : wi.cell? ⟨w.heap.size + 2, i, none⟩ = some v := by rw [Lib.cell_of_heap h.out]; exact hi
theorem R_step {α : Type} {d : Kd α} {e base : Nat} {ok : Nat → Prop} {w w1 : World} {v : Value} {xs : List α} (h : d.R e w base ok v xs) (hm : ∀ k, ok k → k < w.heap.size → w1.heap[k]? = w.heap[k]?) : d.R e w1 base ok v xs := by
  obtain ⟨v', e', hr⟩ := Kd.M_step (d := Kd.slice e d) (Kd.M_row h) hm
  obtain rfl : v = v' := by simpa using e'
  exact hr
/-- Behind what touches no elder block. -/
theorem R_keep {α : Type} {d : Kd α} {e base : Nat} {ok : Nat → Prop} {w w1 : World} {v : Value} {xs : List α} (h : d.R e w base ok v xs) (hb : Below w.heap.size w w1) : d.R e w1 base ok v xs := by
  obtain ⟨v', e', hr⟩ := Kd.M_below (d := Kd.slice e d) (Kd.M_row h) hb
  obtain rfl : v = v' := by simpa using e'
  exact hr
theorem TI.step {w wi w' : World} {cs : Array Value} {v0 v1 v2 v3 nv ov : Value} {ns : List ByteArray} {xs : List JV} (h : TI w wi cs v0 v1 v2 v3 nv ov ns xs) (hb : Below wi.heap.size wi w') : TI w w' cs v0 v1 v2 v3 nv ov ns xs := by
  have hl := h.lt
  exact ⟨h.below.trans (hb.mono h.below.size), (hb.block _ (by omega)).trans h.arg, (hb.block _ (by omega)).trans h.out, (hb.block _ (by omega)).trans h.res, R_keep h.names hb, R_keep h.items hb⟩
/-- The result's box takes what stands in out's box. -/
theorem TI.fin {w wr : World} {cs : Array Value} {nv ov : Value} (y : JV) (h : TI w wr cs (.int .i64 y.f0) (.bool y.f1) (.int .i64 y.f2) (.string y.f3) nv ov y.f4 y.f5) (X : World) (hX : ((((((wr.setCell ⟨w.heap.size + 1, 0, none⟩ (.int .i64 y.f0)).setCell ⟨w.heap.size + 1, 1, none⟩ (.bool y.f1)).setCell ⟨w.heap.size + 1, 2, none⟩ (.int .i64 y.f2)).setCell ⟨w.heap.size + 1, 3, none⟩ (.string y.f3)).setCell ⟨w.heap.size + 1, 4, none⟩ nv).setCell ⟨w.heap.size + 1, 5, none⟩ ov) = X) :
    X.heap[w.heap.size + 1]? = some (.cells #[.int .i64 y.f0, .bool y.f1, .int .i64 y.f2, .string y.f3, nv, ov] 25 (0, 0)) ∧ kJ.M X w.heap.size (fun _ => True) y (#[.int .i64 y.f0, .bool y.f1, .int .i64 y.f2, .string y.f3, nv, ov] : Array Value).toList ∧ Below w.heap.size w X := by
  have hk : ∀ k, w.heap.size + 2 < k → k < wr.heap.size → X.heap[k]? = wr.heap[k]? := by
    intro k hk _
    subst hX
    rw [Below.heap_setCell _ _ _ _ (by simp; omega), Below.heap_setCell _ _ _ _ (by simp; omega), Below.heap_setCell _ _ _ _ (by simp; omega), Below.heap_setCell _ _ _ _ (by simp; omega), Below.heap_setCell _ _ _ _ (by simp; omega), Below.heap_setCell _ _ _ _ (by simp; omega)]
  refine ⟨?_, ?_, ?_⟩
  · subst hX
    refine blk_put (cs := #[.int .i64 y.f0, .bool y.f1, .int .i64 y.f2, .string y.f3, nv, .slice none 0 0]) ?_ 5 _ rfl
    refine blk_put (cs := #[.int .i64 y.f0, .bool y.f1, .int .i64 y.f2, .string y.f3, .slice none 0 0, .slice none 0 0]) ?_ 4 _ rfl
    refine blk_put (cs := #[.int .i64 y.f0, .bool y.f1, .int .i64 y.f2, .string ⟨#[]⟩, .slice none 0 0, .slice none 0 0]) ?_ 3 _ rfl
    refine blk_put (cs := #[.int .i64 y.f0, .bool y.f1, .int .i64 0, .string ⟨#[]⟩, .slice none 0 0, .slice none 0 0]) ?_ 2 _ rfl
    refine blk_put (cs := #[.int .i64 y.f0, .bool false, .int .i64 0, .string ⟨#[]⟩, .slice none 0 0, .slice none 0 0]) ?_ 1 _ rfl
    exact blk_put h.res 0 _ rfl
  · exact k25_mkM X _ _ y (Kd.R_mono (R_step h.names hk) fun _ _ => trivial) (Kd.R_mono (R_step h.items hk) fun _ _ => trivial)
  · subst hX
    exact below_set (below_set (below_set (below_set (below_set (below_set h.below (by omega)) (by omega)) (by omega)) (by omega)) (by omega)) (by omega)
theorem tu_far {W : World} {p : Addr} {v u : Value} {g j : Nat} (hp : p.block ≠ g) (h : W.cell? p = some v) : (W.setCell ⟨g, j, none⟩ u).cell? p = some v := (World.cell?_of_block (Below.heap_setCell W ⟨g, j, none⟩ u p.block hp)).trans h
theorem tu_hp {w1 : World} {b b' : Nat} {y : JV} {cs : List Value} (h : kJ.M w1 b' (fun _ => True) y cs) (hb : b ≤ b') : kJ.M w1 b (fun k => b' ≤ k) y cs := kJ.M_lower hb (kJ.M_mono (fun k hk => hk.2.1) (kJ.M_bound h))
theorem R_own_lt {α : Type} {d : Kd α} {e base : Nat} {ok : Nat → Prop} {w : World} {v : Value} {xs : List α} (h : d.R e w base ok v xs) (k : Nat) (hk : v.ownBlock = some k) : k < w.heap.size := by
  obtain ⟨v', e', hr⟩ := (Kd.slice e d).M_bound (Kd.M_row h)
  obtain rfl : v = v' := by simpa using e'
  exact (hr.1 k hk).2.2.1
theorem TI.next {w wr w1 w2 : World} {cs : Array Value} {v0 v1 v2 v3 nv ov v : Value} {ns : List ByteArray} {xs : List JV} {p : JV} (h : TI w wr cs v0 v1 v2 v3 nv ov ns xs) (hb1 : Below wr.heap.size wr w1) (hg : w1.grownBy w2 ov.ownBlock) (hb2 : Below w.heap.size w w2) (hR : kJ.R 25 w2 w.heap.size (fun k => w.heap.size + 2 < k) v (xs ++ [p])) (hN : ∀ W : World, (∀ k, w.heap.size + 2 < k → k < w2.heap.size → W.heap[k]? = w2.heap[k]?) → Kd.string.R 9 W w.heap.size (fun k => w.heap.size + 2 < k) nv ns) : TI w (w2.setCell ⟨w.heap.size + 1 + 1, 5, none⟩ v) cs v0 v1 v2 v3 nv v ns (xs ++ [p]) := by
  have hl := h.lt
  have hs1 := hb1.size
  have hold : ∀ k, k ≤ w.heap.size + 2 → w2.heap[k]? = wr.heap[k]? := fun k hk => (hg.block k (by omega) (fun e => by have := h.items.1 _ e.symm; omega)).trans (hb1.block k (by omega))
  have hfar : ∀ k, w.heap.size + 2 < k → k < w2.heap.size → (w2.setCell ⟨w.heap.size + 1 + 1, 5, none⟩ v).heap[k]? = w2.heap[k]? := fun k hk _ => Below.heap_setCell _ _ _ _ (by show k ≠ w.heap.size + 1 + 1; omega)
  refine ⟨below_set hb2 (by omega), ?_, ?_, ?_, hN _ hfar, R_step hR hfar⟩
  · rw [Below.heap_setCell _ _ _ _ (by show w.heap.size ≠ w.heap.size + 1 + 1; omega), hold _ (by omega)]; exact h.arg
  · exact blk_put ((hold _ (Nat.le_refl _)).trans h.out) 5 v rfl
  · rw [Below.heap_setCell _ _ _ _ (by show w.heap.size + 1 ≠ w.heap.size + 1 + 1; omega), hold _ (by omega)]; exact h.res
set_option maxHeartbeats 4000000 in
set_option maxRecDepth 100000 in
theorem tu_arr (n : Nat) (hT : Tu n) (x : JV) (cs : Array Value) (w : World) (hd : Dp (n + 1) x) (hw : wfJ x) (hK : kJ.K w x cs.toList) (k4 : x.f0 = 4) : Calls Try.prog 9 #[.agg cs] w (TuP (turn (n + 1) x) w) := by
  obtain ⟨A4, c4, A5, c5, rfl, l4, g4, l5, g5⟩ := jopen2 hK
  have HL5 := Lib.hid g5
  have HD := Lib.hid hd.inv.2.2.2
  have HW := Lib.hid hw.inv.2.2.2
  have hl5 : x.f5.length * 88 ≤ 140737488351232 := hw.inv.2.2.1
  have HT := Lib.hid hT
  have e0 : turn (n + 1) x = ⟨x.f0, x.f1, x.f2, x.f3, [], x.f5.map (turn n)⟩ := by rw [turn, if_neg (by omega), if_pos k4]
  rw [e0, k4]
  have hTI : TI w (((w.alloc (.cells #[.int .i64 4, .bool x.f1, .int .i64 x.f2, .string x.f3, .slice A4 x.f4.length c4, .slice A5 x.f5.length c5] 25)).alloc (.cells #[.int .i64 0, .bool false, .int .i64 0, .string ⟨#[]⟩, .slice none 0 0, .slice none 0 0] 25)).alloc (.cells #[.int .i64 4, .bool x.f1, .int .i64 x.f2, .string x.f3, .slice none 0 0, .slice none 0 0] 25)) #[.int .i64 4, .bool x.f1, .int .i64 x.f2, .string x.f3, .slice A4 x.f4.length c4, .slice A5 x.f5.length c5] (.int .i64 4) (.bool x.f1) (.int .i64 x.f2) (.string x.f3) (.slice none 0 0) (.slice none 0 0) [] [] := by
    refine ⟨(((Below.refl _ _).alloc (Nat.le_refl _) _).alloc (by simp) _).alloc (by simp; omega) _, ?_, ?_, ?_, Kd.R_nil _ _ _ _ _, Kd.R_nil _ _ _ _ _⟩
    · rw [Below.heap_alloc _ _ _ (by simp <;> omega), Below.heap_alloc _ _ _ (by simp)]; exact heap_alloc_new w _
    · have := heap_alloc_new ((w.alloc (.cells #[.int .i64 4, .bool x.f1, .int .i64 x.f2, .string x.f3, .slice A4 x.f4.length c4, .slice A5 x.f5.length c5] 25)).alloc (.cells #[.int .i64 0, .bool false, .int .i64 0, .string ⟨#[]⟩, .slice none 0 0, .slice none 0 0] 25)) (.cells #[.int .i64 4, .bool x.f1, .int .i64 x.f2, .string x.f3, .slice none 0 0, .slice none 0 0] 25)
      rw [World.size_alloc, World.size_alloc] at this
      exact this
    · rw [Below.heap_alloc _ _ _ (by simp)]
      have := heap_alloc_new (w.alloc (.cells #[.int .i64 4, .bool x.f1, .int .i64 x.f2, .string x.f3, .slice A4 x.f4.length c4, .slice A5 x.f5.length c5] 25)) (.cells #[.int .i64 0, .bool false, .int .i64 0, .string ⟨#[]⟩, .slice none 0 0, .slice none 0 0] 25)
      rw [World.size_alloc] at this
      exact this
  have HTI := Lib.hid hTI
  clear hd hw hT g4 g5 hTI hK e0 k4
  go_enter Try.func9, Try.ntmps9
  go_wp2_with fail
  go_loopw [4] (fun iv wi => ∃ i : Nat, iv = .int .i64 i ∧ i ≤ x.f5.length ∧ ∃ ov, Hid (TI w wi #[.int .i64 4, .bool x.f1, .int .i64 x.f2, .string x.f3, .slice A4 x.f4.length c4, .slice A5 x.f5.length c5] (.int .i64 4) (.bool x.f1) (.int .i64 x.f2) (.string x.f3) (.slice none 0 0) ov [] ((x.f5.map (turn n)).take i))) (fun iv _ => x.f5.length - (intOf iv).toNat)
  case atStart => exact ⟨0, rfl, by omega, _, HTI⟩
  case round =>
    obtain ⟨i, rfl, hil, ov, HS⟩ := hrel
    by_cases hlt : i < x.f5.length
    · have hd1 : decide ((i : Int) < (x.f5.length : Int)) = true := decide_eq_true (by omega)
      have a5 := HS.out.c 5 _ rfl
      have o5 := HS.out.o 5 _ rfl
      obtain ⟨xa, G4, gc4, G5, gc5, hxa, x0, x1, x2, x3, x4, x5, lg4, gg4, lg5, gg5⟩ := at_T25 (Kd.C_below HL5.out HS.out.below) (i : Int) (by omega) (by omega)
      subst hxa
      rw [Int.toNat_natCast] at x0 x1 x2 x3 x4 x5
      obtain ⟨g, hgg⟩ : ∃ g, rd_T25 x.f5 (i : Int) = g := ⟨_, rfl⟩
      rw [hgg] at x0 x1 x2 x3 x4 x5 lg4 gg4 lg5 gg5
      have hgj : x.f5[i] = g := by rw [← hgg, rdJ _ _ hlt]
      have HKg := Lib.hid (k25_mk wr g lg4 gg4 lg5 gg5)
      have HDG := Lib.hid (show Dp n g by rw [← hgj]; exact HD.out _ (List.getElem_mem _))
      have HWG := Lib.hid (show wfJ g by rw [← hgj]; exact HW.out _ (List.getElem_mem _))
      have HE := Lib.hid hgj
      have hi0 : (0 : Int) ≤ (i : Int) := Int.natCast_nonneg _
      have hi1 : (i : Int) < (x.f5.length : Int) := by omega
      have hXb : (xa.add (i * 6)).block ≤ w.heap.size + 2 := by
        obtain ⟨xa', _, _, _, _, e, z0, _⟩ := at_T25 HL5.out (i : Int) (by omega) (by omega)
        obtain rfl : xa = xa' := Option.some.inj e
        rw [Int.toNat_natCast] at z0
        have := lt_of_cell z0
        omega
      have hXn : (xa.add (i * 6)).block ≠ w.heap.size + 2 := by
        obtain ⟨xa', _, _, _, _, e, z0, _⟩ := at_T25 HL5.out (i : Int) (by omega) (by omega)
        obtain rfl : xa = xa' := Option.some.inj e
        rw [Int.toNat_natCast] at z0
        have := lt_of_cell z0
        omega
      have hwl := HS.out.lt
      have HXB := Lib.hid (And.intro hXb hXn)
      clear lg4 gg4 lg5 gg5 hgg hgj
      have hS : ∀ W : World, (∀ (p : Addr) (v : Value), p.block ≤ w.heap.size + 2 → wr.cell? p = some v → W.cell? p = some v) → (fun w' : World => w'.cell? ⟨w.heap.size + 1 + 1, 5, none⟩ = some ov ∧ w'.cell? ⟨w.heap.size, 5, none⟩ = some (.slice (some xa) x.f5.length c5) ∧ w'.cell? (xa.add (i * 6)) = some (.int .i64 g.f0) ∧ w'.cell? ⟨(xa.add (i * 6)).block, (xa.add (i * 6)).off + 1, none⟩ = some (.bool g.f1) ∧ w'.cell? ⟨(xa.add (i * 6)).block, (xa.add (i * 6)).off + 2, none⟩ = some (.int .i64 g.f2) ∧ w'.cell? ⟨(xa.add (i * 6)).block, (xa.add (i * 6)).off + 3, none⟩ = some (.string g.f3) ∧ w'.cell? ⟨(xa.add (i * 6)).block, (xa.add (i * 6)).off + 4, none⟩ = some (.slice G4 g.f4.length gc4) ∧ w'.cell? ⟨(xa.add (i * 6)).block, (xa.add (i * 6)).off + 5, none⟩ = some (.slice G5 g.f5.length gc5)) W := fun W h => ⟨h ⟨w.heap.size + 2, 5, none⟩ _ (Nat.le_refl _) o5, h ⟨w.heap.size, 5, none⟩ _ (Nat.le_add_right _ _) a5, h (xa.add (i * 6)) _ hXb x0, h ⟨(xa.add (i * 6)).block, (xa.add (i * 6)).off + 1, none⟩ _ hXb x1, h ⟨(xa.add (i * 6)).block, (xa.add (i * 6)).off + 2, none⟩ _ hXb x2, h ⟨(xa.add (i * 6)).block, (xa.add (i * 6)).off + 3, none⟩ _ hXb x3, h ⟨(xa.add (i * 6)).block, (xa.add (i * 6)).off + 4, none⟩ _ hXb x4, h ⟨(xa.add (i * 6)).block, (xa.add (i * 6)).off + 5, none⟩ _ hXb x5⟩
      have HSS := Lib.hid hS
      clear hS
      go_wp2_with fail
      refine Ph.region_phases (S := (fun w' : World => w'.cell? ⟨w.heap.size + 1 + 1, 5, none⟩ = some ov ∧ w'.cell? ⟨w.heap.size, 5, none⟩ = some (.slice (some xa) x.f5.length c5) ∧ w'.cell? (xa.add (i * 6)) = some (.int .i64 g.f0) ∧ w'.cell? ⟨(xa.add (i * 6)).block, (xa.add (i * 6)).off + 1, none⟩ = some (.bool g.f1) ∧ w'.cell? ⟨(xa.add (i * 6)).block, (xa.add (i * 6)).off + 2, none⟩ = some (.int .i64 g.f2) ∧ w'.cell? ⟨(xa.add (i * 6)).block, (xa.add (i * 6)).off + 3, none⟩ = some (.string g.f3) ∧ w'.cell? ⟨(xa.add (i * 6)).block, (xa.add (i * 6)).off + 4, none⟩ = some (.slice G4 g.f4.length gc4) ∧ w'.cell? ⟨(xa.add (i * 6)).block, (xa.add (i * 6)).off + 5, none⟩ = some (.slice G5 g.f5.length gc5))) (ops₁ := ?pops) 10 2 (by kernel_rfl) ?phops ?phn ?phsz ?phe ?phl ?ph
      case phops => simp only [List.take_succ_cons, List.take_zero]; exact rfl
      case phn => kernel_rfl
      case phsz => kernel_rfl
      case phe => kernel_rfl
      case phl => kernel_rfl
      have hH0 : ((fun w' : World => w'.cell? ⟨w.heap.size + 1 + 1, 5, none⟩ = some ov ∧ w'.cell? ⟨w.heap.size, 5, none⟩ = some (.slice (some xa) x.f5.length c5) ∧ w'.cell? (xa.add (i * 6)) = some (.int .i64 g.f0) ∧ w'.cell? ⟨(xa.add (i * 6)).block, (xa.add (i * 6)).off + 1, none⟩ = some (.bool g.f1) ∧ w'.cell? ⟨(xa.add (i * 6)).block, (xa.add (i * 6)).off + 2, none⟩ = some (.int .i64 g.f2) ∧ w'.cell? ⟨(xa.add (i * 6)).block, (xa.add (i * 6)).off + 3, none⟩ = some (.string g.f3) ∧ w'.cell? ⟨(xa.add (i * 6)).block, (xa.add (i * 6)).off + 4, none⟩ = some (.slice G4 g.f4.length gc4) ∧ w'.cell? ⟨(xa.add (i * 6)).block, (xa.add (i * 6)).off + 5, none⟩ = some (.slice G5 g.f5.length gc5))) _ := HSS.out _ (fun p v _ hv => hv)
      refine wpAnyH_take (i := 0) (oi := ?p0toi) (v := ?p0tv) ?p0thi (by kernel_rfl) (by kernel_rfl) (by kernel_rfl) ?p0thq ?p0thy (by assumption) ?p0trest
      case p0thi => simp only [List.getElem?_toArray, List.getElem?_cons_succ, List.getElem?_cons_zero]; exact rfl
      case p0thq => exact fun _ _ _ h => h
      case p0thy => (refine Or.inl ⟨by rfl, ?_⟩; intro w' hSw; (try dsimp only at hSw); go_simp; try with_reducible rfl)
      try simp only [Act.put, List.setIfInBounds_toArray, List.set_cons_zero, List.set_cons_succ]
      refine wpAnyH_take (i := 1) (oi := ?p1toi) (v := ?p1tv) ?p1thi (by kernel_rfl) (by kernel_rfl) (by kernel_rfl) ?p1thq ?p1thy (by assumption) ?p1trest
      case p1thi => simp only [List.getElem?_toArray, List.getElem?_cons_succ, List.getElem?_cons_zero]; exact rfl
      case p1thq => exact fun _ _ _ h => h
      case p1thy => (refine Or.inl ⟨by rfl, ?_⟩; intro w' hSw; (try dsimp only at hSw); go_simp; try with_reducible rfl)
      try simp only [Act.put, List.setIfInBounds_toArray, List.set_cons_zero, List.set_cons_succ]
      refine wpAnyH_take (i := 2) (oi := ?p2toi) (v := ?p2tv) ?p2thi (by kernel_rfl) (by kernel_rfl) (by kernel_rfl) ?p2thq ?p2thy (by assumption) ?p2trest
      case p2thi => simp only [List.getElem?_toArray, List.getElem?_cons_succ, List.getElem?_cons_zero]; exact rfl
      case p2thq => exact fun _ _ _ h => h
      case p2thy => (refine Or.inl ⟨by rfl, ?_⟩; intro w' hSw; (try dsimp only at hSw); go_simp; try with_reducible rfl)
      try simp only [Act.put, List.setIfInBounds_toArray, List.set_cons_zero, List.set_cons_succ]
      refine wpAnyH_take (i := 3) (oi := ?p3toi) (v := ?p3tv) ?p3thi (by kernel_rfl) (by kernel_rfl) (by kernel_rfl) ?p3thq ?p3thy (by assumption) ?p3trest
      case p3thi => simp only [List.getElem?_toArray, List.getElem?_cons_succ, List.getElem?_cons_zero]; exact rfl
      case p3thq => exact fun _ _ _ h => h
      case p3thy => (refine Or.inl ⟨by rfl, ?_⟩; intro w' hSw; (try dsimp only at hSw); go_simp; try with_reducible rfl)
      try simp only [Act.put, List.setIfInBounds_toArray, List.set_cons_zero, List.set_cons_succ]
      refine wpAnyH_take (i := 4) (oi := ?p4toi) (v := ?p4tv) ?p4thi (by kernel_rfl) (by kernel_rfl) (by kernel_rfl) ?p4thq ?p4thy (by assumption) ?p4trest
      case p4thi => simp only [List.getElem?_toArray, List.getElem?_cons_succ, List.getElem?_cons_zero]; exact rfl
      case p4thq => exact fun _ _ _ h => h
      case p4thy => (refine Or.inl ⟨by rfl, ?_⟩; intro w' hSw; (try dsimp only at hSw); go_simp; try with_reducible rfl)
      try simp only [Act.put, List.setIfInBounds_toArray, List.set_cons_zero, List.set_cons_succ]
      refine wpAnyH_take (i := 5) (oi := ?p5toi) (v := ?p5tv) ?p5thi (by kernel_rfl) (by kernel_rfl) (by kernel_rfl) ?p5thq ?p5thy (by assumption) ?p5trest
      case p5thi => simp only [List.getElem?_toArray, List.getElem?_cons_succ, List.getElem?_cons_zero]; exact rfl
      case p5thq => exact fun _ _ _ h => h
      case p5thy => (refine Or.inl ⟨by rfl, ?_⟩; intro w' hSw; (try dsimp only at hSw); go_simp; try with_reducible rfl)
      try simp only [Act.put, List.setIfInBounds_toArray, List.set_cons_zero, List.set_cons_succ]
      refine wpAnyH_take (i := 6) (oi := ?p6toi) (v := ?p6tv) ?p6thi (by kernel_rfl) (by kernel_rfl) (by kernel_rfl) ?p6thq ?p6thy (by assumption) ?p6trest
      case p6thi => simp only [List.getElem?_toArray, List.getElem?_cons_succ, List.getElem?_cons_zero]; exact rfl
      case p6thq => exact fun _ _ _ h => h
      case p6thy => (refine Or.inl ⟨by rfl, ?_⟩; intro w' hSw; (try dsimp only at hSw); go_simp; try with_reducible rfl)
      try simp only [Act.put, List.setIfInBounds_toArray, List.set_cons_zero, List.set_cons_succ]
      refine wpAnyH_ready (rs := [7]) (by kernel_rfl) (by simp) ?_
      refine AllReadyH.cons (o := ?p7so) ?p7sho (fun K hK => ?p7shs) AllReadyH.nil
      case p7sho => simp only [List.getElem?_toArray, List.getElem?_cons_succ, List.getElem?_cons_zero]; exact rfl
      go_simp
      refine (HT.out.at_ g #[.int .i64 g.f0, .bool g.f1, .int .i64 g.f2, .string g.f3, .slice G4 g.f4.length gc4, .slice G5 g.f5.length gc5] _ HDG.out HWG.out (by first | exact HKg.out | exact kJ.K_below (Below.refl _ _).drew HKg.out)).mono ?_
      rintro e w1 ⟨cs', rfl, hM, hbl⟩
      obtain ⟨t4, t5, ecs, _⟩ := k25_openM hM
      obtain rfl : cs' = #[.int .i64 (turn n g).f0, .bool (turn n g).f1, .int .i64 (turn n g).f2, .string (turn n g).f3, t4, t5] := by apply Array.toList_inj.1; rw [ecs]
      have hb1 : Below wr.heap.size wr w1 := by first | exact hbl | exact (Below.refl _ _).drew.trans hbl
      have hk1 : ∀ (p : Addr) (v : Value), p.block ≤ w.heap.size + 2 → wr.cell? p = some v → w1.cell? p = some v := fun p v hp hv => (World.cell?_of_block (hb1.block _ (by omega))).trans hv
      dsimp only
      refine hK.out _ _ ?_ (fun hH1 => ?_)
      · exact HSS.out _ hk1
      clear hK K hH0
      try simp only [Act.put, List.setIfInBounds_toArray, List.set_cons_zero, List.set_cons_succ]
      refine wpAnyH_ready (rs := [8]) (by kernel_rfl) (by simp) ?_
      refine AllReadyH.cons (o := ?p8so) ?p8sho (fun K hK => ?p8shs) AllReadyH.nil
      case p8sho => simp only [List.getElem?_toArray, List.getElem?_cons_succ, List.getElem?_cons_zero]; exact rfl
      go_simp
      refine hK.out _ _ ?_ (fun hH2 => ?_)
      · exact HSS.out _ (fun p v hp hv => ((Below.alloc (Below.refl _ _) (Nat.le_refl _) _).cell (lt_of_cell (hk1 p v hp hv))).trans (hk1 p v hp hv))
      clear hK K hH1
      try simp only [Act.put, List.setIfInBounds_toArray, List.set_cons_zero, List.set_cons_succ]
      refine wpAnyH_ready (rs := [9]) (by kernel_rfl) (by simp) ?_
      refine AllReadyH.cons (o := ?p9so) ?p9sho (fun K hK => ?p9shs) AllReadyH.nil
      case p9sho => simp only [List.getElem?_toArray, List.getElem?_cons_succ, List.getElem?_cons_zero]; exact rfl
      have hp := tu_hp hM HS.out.below.size
      have hB1 := HS.out.below.trans (hb1.mono HS.out.below.size)
      have hO := R_keep HS.out.items hb1
      have hsz1 := hb1.size
      have hb0 : w.heap.size ≤ w1.heap.size := hB1.size
      have hlen : (((x.f5.map (turn n)).take i).length + 1) * 88 ≤ 140737488355328 := by rw [List.length_take, List.length_map]; omega
      refine Kd.R_append_step kJ (W := w1) (w0 := w) w.heap.size (by rfl) (.tmp 27) (.tmp 34) 23 25 (.agg #[.int .i64 0, .bool false, .int .i64 0, .string ⟨#[]⟩, .slice none 0 0, .slice none 0 0]) 88 (by rfl) Try.underlying23 (by kernel_rfl) (by rfl) (by decide) (by decide) ov ((x.f5.map (turn n)).take i) (turn n g) [.int .i64 (turn n g).f0, .bool (turn n g).f1, .int .i64 (turn n g).f2, .string (turn n g).f3, t4, t5] (fun k => w.heap.size + 2 < k) (fun k => wr.heap.size ≤ k) (by rfl) (by rfl) hp (fun k hk => ⟨by omega, fun e => by have := R_own_lt HS.out.items k e.symm; omega⟩) (fun k hk => by omega) hO hB1 hb0 hlen ?_
      intro v1 w2 hR hb2 hg2 hat2
      have hk2 : ∀ (p : Addr) (v : Value), p.block ≤ w.heap.size + 2 → wr.cell? p = some v → w2.cell? p = some v := fun p v hp hv => (World.cell?_of_block (hg2.block _ (by omega) (fun e => by have := HS.out.items.1 _ e.symm; omega))).trans (hk1 p v hp hv)
      have o5' : w2.cell? ⟨w.heap.size + 1 + 1, 5, none⟩ = some ov := hk2 _ _ (Nat.le_refl _) o5
      have hbo : w2.heap[w.heap.size + 2]? = some (.cells #[.int .i64 4, .bool x.f1, .int .i64 x.f2, .string x.f3, .slice none 0 0, ov] 25 (0, 0)) := (hg2.block _ (by omega) (fun e => by have := HS.out.items.1 _ e.symm; omega)).trans ((hb1.block _ (by omega)).trans HS.out.out)
      have fz5 : w2.frozen? ⟨w.heap.size + 1 + 1, 5, none⟩ = false := blk_frozen hbo 5
      have HN := Lib.hid (HS.out.next hb1 hg2 hb2 hR (fun W _ => Kd.R_nil _ _ _ _ _))
      obtain ⟨vA, vc, rfl, hvc, _⟩ := Kd.R_reads hR
      refine hK.out _ _ ?_ (fun hH3 => ?_)
      · exact HSS.out _ hk2
      clear hK K hH2
      try simp only [Act.put, List.setIfInBounds_toArray, List.set_cons_zero, List.set_cons_succ]
      refine wpAnyH_done (by kernel_rfl) ?_ _
      refine Ph.Then.go ?_
      clear hH3
      refine wpAnyH_ready (rs := [10]) (by kernel_rfl) (by simp) ?_
      refine AllReadyH.cons (o := ?p10so) ?p10sho (fun K hK => ?p10shs) AllReadyH.nil
      case p10sho => simp only [List.getElem?_toArray, List.getElem?_cons_succ, List.getElem?_cons_zero]; exact rfl
      go_simp
      refine hK.out _ _ trivial (fun _ => ?_)
      clear hK K
      try simp only [Act.put, List.setIfInBounds_toArray, List.set_cons_zero, List.set_cons_succ]
      refine wpAnyH_ready (rs := [11]) (by kernel_rfl) (by simp) ?_
      refine AllReadyH.cons (o := ?p11so) ?p11sho (fun K hK => ?p11shs) AllReadyH.nil
      case p11sho => simp only [List.getElem?_toArray, List.getElem?_cons_succ, List.getElem?_cons_zero]; exact rfl
      go_simp
      refine hK.out _ _ trivial (fun _ => ?_)
      clear hK K
      try simp only [Act.put, List.setIfInBounds_toArray, List.set_cons_zero, List.set_cons_succ]
      refine wpAnyH_done (by kernel_rfl) ?_ _
      have eL : ((x.f5.map (turn n)).take i ++ [turn n g]).length = i + 1 := by rw [List.length_append, List.length_take, List.length_map, List.length_singleton]; omega
      have eT : (x.f5.map (turn n)).take i ++ [turn n g] = (x.f5.map (turn n)).take (i + 1) := by rw [List.take_succ_eq_append_getElem (by simpa using hlt), List.getElem_map, HE.out]
      rw [eL, eT] at HN
      clear hR hb2 hg2 hat2 hk1 hk2 hb1 hM eL eT
      go_wp2_with fail
      go_roundw
      case rel => first | exact ⟨i + 1, by go_num, by omega, _, HN⟩ | exact ⟨i + 1, by go_num, by omega, _, Lib.hid (HN.out.step (Below.refl _ _).drew)⟩
      case measure => simp [intOf]; omega
    · obtain rfl : i = x.f5.length := by omega
      have hd1 : decide ((x.f5.length : Int) < (x.f5.length : Int)) = false := by simp
      have o0 := HS.out.o 0 _ rfl
      have o1 := HS.out.o 1 _ rfl
      have o2 := HS.out.o 2 _ rfl
      have o3 := HS.out.o 3 _ rfl
      have o4 := HS.out.o 4 _ rfl
      have o5 := HS.out.o 5 _ rfl
      clear hlt
      have a5 := HS.out.c 5 _ rfl
      have a0 := HS.out.c 0 _ rfl
      obtain ⟨oA, oc, rfl, hoc, _⟩ := Kd.R_reads HS.out.items
      have r0 : wr.cell? ⟨w.heap.size + 1, 0, none⟩ = some (.int .i64 0) := by rw [Lib.cell_of_heap HS.out.res]; rfl
      have r1 : wr.cell? ⟨w.heap.size + 1, 1, none⟩ = some (.bool false) := by rw [Lib.cell_of_heap HS.out.res]; rfl
      have r2 : wr.cell? ⟨w.heap.size + 1, 2, none⟩ = some (.int .i64 0) := by rw [Lib.cell_of_heap HS.out.res]; rfl
      have r3 : wr.cell? ⟨w.heap.size + 1, 3, none⟩ = some (.string ⟨#[]⟩) := by rw [Lib.cell_of_heap HS.out.res]; rfl
      have r4 : wr.cell? ⟨w.heap.size + 1, 4, none⟩ = some (.slice none 0 0) := by rw [Lib.cell_of_heap HS.out.res]; rfl
      have r5 : wr.cell? ⟨w.heap.size + 1, 5, none⟩ = some (.slice none 0 0) := by rw [Lib.cell_of_heap HS.out.res]; rfl
      have f0 := blk_frozen HS.out.res 0
      have f1 := blk_frozen HS.out.res 1
      have f2 := blk_frozen HS.out.res 2
      have f3 := blk_frozen HS.out.res 3
      have f4 := blk_frozen HS.out.res 4
      have f5 := blk_frozen HS.out.res 5
      go_wp2_with fail
      have hT : TI w wr #[.int .i64 4, .bool x.f1, .int .i64 x.f2, .string x.f3, .slice A4 x.f4.length c4, .slice A5 x.f5.length c5] (.int .i64 4) (.bool x.f1) (.int .i64 x.f2) (.string x.f3) (.slice none 0 0) (.slice oA x.f5.length oc) [] (x.f5.map (turn n)) := by
        have := HS.out
        rw [List.take_of_length_le (l := x.f5.map (turn n)) (by simp), List.length_map] at this
        exact this
      have F := TI.fin (y := ⟨4, x.f1, x.f2, x.f3, [], x.f5.map (turn n)⟩) hT _ rfl
      dsimp only at F
      refine bodyPost_ret (results_cell_row rfl _ _ (w.heap.size + 1) 25 _ (0, 0) _ rfl F.1 Try.underlying25 rfl (by kernel_rfl)) rfl ?_
      exact ⟨_, rfl, F.2.1, F.2.2⟩
end Go.Proofs.Ytdleegmdpgefmaa.J
