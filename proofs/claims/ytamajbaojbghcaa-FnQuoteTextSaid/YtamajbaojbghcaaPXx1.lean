-- PRINTED by print.py (a twelfth state) out of the translation. Not trusted: Lean checks it.
import Derived.Test.YtamajbaojbghcaaPXx0
namespace Go.Proofs.Ytamajbaojbghcaa.PX
open Go.RowKit Go.Proofs.YtamajbaojbghcaaW.PrintWords Go.Proofs.YtamajbaojbghcaaW.PrintLast Go.Proofs.YtamajbaojbghcaaW.PrintMore
attribute [local go_sem] max2_int min2_int max_two min_two max_three min_three max_four min_four   -- for this text's walks alone
set_option linter.unusedVariables false
set_option linter.unusedSimpArgs false

/-- A state of type 65 at block g of W; what its slices lead to came in by w0. -/
def IsS65 (w0 W : World) (g : Nat) (f0 : List Int) (f1 : Int) (f2 : List (S36)) (f3 : Bool) (f4 : Int) (f5 : Int) (f6 : Int) : Prop := ∃ A0 c0, ∃ A2 c2, W.heap[g]? = some (.cells #[.slice A0 f0.length c0, .int .i64 f1, .slice A2 f2.length c2, .bool f3, .int .i64 f4, .int .i64 f5, .int .i64 f6] 65 (0, 0)) ∧ w0.heap.size ≤ g ∧ Kd.C (Kd.int .i32) w0 A0 f0.length f0 ∧ Kd.C k36 w0 A2 f2.length f2
theorem IsS65.grown {w0 W : World} {g : Nat} {f0 : List Int} {f1 : Int} {f2 : List (S36)} {f3 : Bool} {f4 : Int} {f5 : Int} {f6 : Int} {W1 : World} {row : Option Nat} (h : IsS65 w0 W g f0 f1 f2 f3 f4 f5 f6) (hw : W.grownBy W1 row) (hne : some g ≠ row) : IsS65 w0 W1 g f0 f1 f2 f3 f4 f5 f6 := by
  obtain ⟨A0, c0, A2, c2, hb, hg, hr0, hr2⟩ := h
  exact ⟨A0, c0, A2, c2, blk_grown hb hw hne, hg, hr0, hr2⟩
theorem IsS65.own_neN {w0 W : World} {g : Nat} {f0 : List Int} {f1 : Int} {f2 : List (S36)} {f3 : Bool} {f4 : Int} {f5 : Int} {f6 : Int} {α : Type} {d : Kd α} {e : Nat} {base : Nat} {ok : Nat → Prop} {v : Value} {xs : List α} (h : IsS65 w0 W g f0 f1 f2 f3 f4 f5 f6) (ho : Kd.N d e W base ok v xs) (ht : e ≠ 65) : some g ≠ v.ownBlock := by
  obtain ⟨A0, c0, A2, c2, hb, hg, hr0, hr2⟩ := h
  exact Kd.N_ne ho hb ht
theorem IsS65.fresh {w0 W : World} {g : Nat} {f0 : List Int} {f1 : Int} {f2 : List (S36)} {f3 : Bool} {f4 : Int} {f5 : Int} {f6 : Int} (h : IsS65 w0 W g f0 f1 f2 f3 f4 f5 f6) : ∀ k, W.heap.size ≤ k → k ≠ g := by
  obtain ⟨A0, c0, A2, c2, hb, hg, hr0, hr2⟩ := h
  exact Kd.freshB hb
theorem IsS65.kept {w0 W : World} {g : Nat} {f0 : List Int} {f1 : Int} {f2 : List (S36)} {f3 : Bool} {f4 : Int} {f5 : Int} {f6 : Int} {W1 : World} {S : Nat → Prop} (h : IsS65 w0 W g f0 f1 f2 f3 f4 f5 f6) (hk : Kept W W1 S) (hne : ¬ S g) : IsS65 w0 W1 g f0 f1 f2 f3 f4 f5 f6 := by
  obtain ⟨A0, c0, A2, c2, hb, hg, hr0, hr2⟩ := h
  exact ⟨A0, c0, A2, c2, blk_kept hb hk hne, hg, hr0, hr2⟩
theorem IsS65.below {w0 W : World} {g : Nat} {f0 : List Int} {f1 : Int} {f2 : List (S36)} {f3 : Bool} {f4 : Int} {f5 : Int} {f6 : Int} {W1 : World} (h : IsS65 w0 W g f0 f1 f2 f3 f4 f5 f6) (hw : Below W.heap.size W W1) : IsS65 w0 W1 g f0 f1 f2 f3 f4 f5 f6 := h.grown (grown_of_below hw none) (by simp)
theorem IsS65.alloc {w0 W : World} {g : Nat} {f0 : List Int} {f1 : Int} {f2 : List (S36)} {f3 : Bool} {f4 : Int} {f5 : Int} {f6 : Int} (h : IsS65 w0 W g f0 f1 f2 f3 f4 f5 f6) (o : Obj) : IsS65 w0 (W.alloc o) g f0 f1 f2 f3 f4 f5 f6 := h.below (below_alloc (Below.refl _ _) o)
theorem IsS65.drewN {w0 W : World} {g : Nat} {f0 : List Int} {f1 : Int} {f2 : List (S36)} {f3 : Bool} {f4 : Int} {f5 : Int} {f6 : Int} (h : IsS65 w0 W g f0 f1 f2 f3 f4 f5 f6) (m : Nat) : IsS65 w0 (W.drewN m) g f0 f1 f2 f3 f4 f5 f6 := h
theorem IsS65.drew {w0 W : World} {g : Nat} {f0 : List Int} {f1 : Int} {f2 : List (S36)} {f3 : Bool} {f4 : Int} {f5 : Int} {f6 : Int} (h : IsS65 w0 W g f0 f1 f2 f3 f4 f5 f6) : IsS65 w0 W.drew g f0 f1 f2 f3 f4 f5 f6 := h
theorem IsS65.at_ {w0 W : World} {g : Nat} {f0 : List Int} {f1 : Int} {f2 : List (S36)} {f3 : Bool} {f4 : Int} {f5 : Int} {f6 : Int} {w' : World} {m : Nat} (hq : W.drewN m = w') (h : IsS65 w0 W g f0 f1 f2 f3 f4 f5 f6) : IsS65 w0 w' g f0 f1 f2 f3 f4 f5 f6 := by subst hq; exact IsS65.drewN h m
theorem IsS65.apart {w0 W : World} {g : Nat} {f0 : List Int} {f1 : Int} {f2 : List (S36)} {f3 : Bool} {f4 : Int} {f5 : Int} {f6 : Int} {α : Type} {d : Kd α} {e : Nat} {base : Nat} {ok : Nat → Prop} {v : Value} {xs : List α} (h : IsS65 w0 W g f0 f1 f2 f3 f4 f5 f6) (ho : d.R e W base ok v xs) (ht : ∀ q, q ∈ e :: d.E → q ≠ 65) : d.R e W base (fun k => ok k ∧ k ≠ g) v xs := by
  obtain ⟨A0, c0, A2, c2, hb, hg, hr0, hr2⟩ := h
  exact Kd.R_types ho hb ht
theorem IsS65.own_ne {w0 W : World} {g : Nat} {f0 : List Int} {f1 : Int} {f2 : List (S36)} {f3 : Bool} {f4 : Int} {f5 : Int} {f6 : Int} {α : Type} {d : Kd α} {e : Nat} {base : Nat} {ok : Nat → Prop} {v : Value} {xs : List α} (h : IsS65 w0 W g f0 f1 f2 f3 f4 f5 f6) (ho : d.R e W base ok v xs) (ht : e ≠ 65) : some g ≠ v.ownBlock := by
  obtain ⟨A0, c0, A2, c2, hb, hg, hr0, hr2⟩ := h
  exact Kd.R_ne ho hb ht
theorem IsS65.apartQ {w0 W : World} {g : Nat} {f0 : List Int} {f1 : Int} {f2 : List (S36)} {f3 : Bool} {f4 : Int} {f5 : Int} {f6 : Int} {α : Type} {d : Kd α} {e : Nat} {base : Nat} {ok : Nat → Prop} {v : Value} {xs : List α} (h : IsS65 w0 W g f0 f1 f2 f3 f4 f5 f6) (ho : d.Q e W base ok v xs) (ht : ∀ q, q ∈ e :: d.E → q ≠ 65) : d.Q e W base (fun k => ok k ∧ k ≠ g) v xs := by
  obtain ⟨A0, c0, A2, c2, hb, hg, hr0, hr2⟩ := h
  exact Kd.Q_types ho hb ht
theorem IsS65.own_neQ {w0 W : World} {g : Nat} {f0 : List Int} {f1 : Int} {f2 : List (S36)} {f3 : Bool} {f4 : Int} {f5 : Int} {f6 : Int} {α : Type} {d : Kd α} {e : Nat} {base : Nat} {ok : Nat → Prop} {v : Value} {xs : List α} (h : IsS65 w0 W g f0 f1 f2 f3 f4 f5 f6) (ho : d.Q e W base ok v xs) (ht : e ≠ 65) : some g ≠ v.ownBlock := by
  obtain ⟨A0, c0, A2, c2, hb, hg, hr0, hr2⟩ := h
  exact Kd.Q_ne ho hb ht
theorem IsS65.apartS {w0 W : World} {g : Nat} {f0 : List Int} {f1 : Int} {f2 : List (S36)} {f3 : Bool} {f4 : Int} {f5 : Int} {f6 : Int} {α : Type} {d : Kd α} {e : Nat} {base : Nat} {ok : Nat → Prop} {v : Value} {xs : List α} (h : IsS65 w0 W g f0 f1 f2 f3 f4 f5 f6) (ho : d.S e W base ok v xs) (ht : ∀ q, q ∈ e :: d.E → q ≠ 65) : d.S e W base (fun k => ok k ∧ k ≠ g) v xs := by
  obtain ⟨A0, c0, A2, c2, hb, hg, hr0, hr2⟩ := h
  exact Kd.S_types ho hb ht
theorem IsS65.own_neS {w0 W : World} {g : Nat} {f0 : List Int} {f1 : Int} {f2 : List (S36)} {f3 : Bool} {f4 : Int} {f5 : Int} {f6 : Int} {α : Type} {d : Kd α} {e : Nat} {base : Nat} {ok : Nat → Prop} {v : Value} {xs : List α} (h : IsS65 w0 W g f0 f1 f2 f3 f4 f5 f6) (ho : d.S e W base ok v xs) (ht : e ≠ 65) : some g ≠ v.ownBlock := by
  obtain ⟨A0, c0, A2, c2, hb, hg, hr0, hr2⟩ := h
  exact Kd.S_ne ho hb ht
theorem IsS65.lt {w0 W : World} {g : Nat} {f0 : List Int} {f1 : Int} {f2 : List (S36)} {f3 : Bool} {f4 : Int} {f5 : Int} {f6 : Int} (h : IsS65 w0 W g f0 f1 f2 f3 f4 f5 f6) : g < W.heap.size := by
  obtain ⟨A0, c0, A2, c2, hb, hg, hr0, hr2⟩ := h
  exact blk_lt hb
theorem IsS65.ge {w0 W : World} {g : Nat} {f0 : List Int} {f1 : Int} {f2 : List (S36)} {f3 : Bool} {f4 : Int} {f5 : Int} {f6 : Int} (h : IsS65 w0 W g f0 f1 f2 f3 f4 f5 f6) : w0.heap.size ≤ g := by
  obtain ⟨A0, c0, A2, c2, hb, hg, hr0, hr2⟩ := h
  exact hg
theorem IsS65.ne_blk {w0 W : World} {g : Nat} {f0 : List Int} {f1 : Int} {f2 : List (S36)} {f3 : Bool} {f4 : Int} {f5 : Int} {f6 : Int} {a : Nat} {cs : Array Value} {t : TypeId} {fr : Nat × Nat} (h : IsS65 w0 W g f0 f1 f2 f3 f4 f5 f6) (hb2 : W.heap[a]? = some (.cells cs t fr)) (ht : t ≠ 65) : g ≠ a := by
  obtain ⟨A0, c0, A2, c2, hb, hg, hr0, hr2⟩ := h
  rintro rfl
  rw [hb] at hb2
  injection hb2 with hb2
  injection hb2 with _ ht2
  exact ht ht2.symm
theorem IsS65.far {w0 W : World} {g : Nat} {f0 : List Int} {f1 : Int} {f2 : List (S36)} {f3 : Bool} {f4 : Int} {f5 : Int} {f6 : Int} {p : Addr} (h : IsS65 w0 W g f0 f1 f2 f3 f4 f5 f6) (hne : g ≠ p.block) (u : Value) : IsS65 w0 (W.setCell p u) g f0 f1 f2 f3 f4 f5 f6 := by
  obtain ⟨A0, c0, A2, c2, hb, hg, hr0, hr2⟩ := h
  exact ⟨A0, c0, A2, c2, blk_far hb hne u, hg, hr0, hr2⟩
theorem cellS65_0 {W : World} {g : Nat} {A0 : Option Addr} {c0 : Nat} {A2 : Option Addr} {c2 : Nat} {f0 : List Int} {f1 : Int} {f2 : List (S36)} {f3 : Bool} {f4 : Int} {f5 : Int} {f6 : Int} (h : W.heap[g]? = some (.cells #[.slice A0 f0.length c0, .int .i64 f1, .slice A2 f2.length c2, .bool f3, .int .i64 f4, .int .i64 f5, .int .i64 f6] 65 (0, 0))) : W.cell? ⟨g, 0, none⟩ = some (.slice A0 f0.length c0) := (blk_cell h 0).trans rfl
theorem cellS65_1 {W : World} {g : Nat} {A0 : Option Addr} {c0 : Nat} {A2 : Option Addr} {c2 : Nat} {f0 : List Int} {f1 : Int} {f2 : List (S36)} {f3 : Bool} {f4 : Int} {f5 : Int} {f6 : Int} (h : W.heap[g]? = some (.cells #[.slice A0 f0.length c0, .int .i64 f1, .slice A2 f2.length c2, .bool f3, .int .i64 f4, .int .i64 f5, .int .i64 f6] 65 (0, 0))) : W.cell? ⟨g, 1, none⟩ = some (.int .i64 f1) := (blk_cell h 1).trans rfl
theorem IsS65.set_1 {w0 W : World} {g : Nat} {f0 : List Int} {f1 : Int} {f2 : List (S36)} {f3 : Bool} {f4 : Int} {f5 : Int} {f6 : Int} (h : IsS65 w0 W g f0 f1 f2 f3 f4 f5 f6) (x : Int) : IsS65 w0 (W.setCell ⟨g, 1, none⟩ (.int .i64 x)) g f0 x f2 f3 f4 f5 f6 := by
  obtain ⟨A0, c0, A2, c2, hb, hg, hr0, hr2⟩ := h
  exact ⟨A0, c0, A2, c2, by simpa using blk_set hb 1 (.int .i64 x), hg, hr0, hr2⟩
theorem cellS65_2 {W : World} {g : Nat} {A0 : Option Addr} {c0 : Nat} {A2 : Option Addr} {c2 : Nat} {f0 : List Int} {f1 : Int} {f2 : List (S36)} {f3 : Bool} {f4 : Int} {f5 : Int} {f6 : Int} (h : W.heap[g]? = some (.cells #[.slice A0 f0.length c0, .int .i64 f1, .slice A2 f2.length c2, .bool f3, .int .i64 f4, .int .i64 f5, .int .i64 f6] 65 (0, 0))) : W.cell? ⟨g, 2, none⟩ = some (.slice A2 f2.length c2) := (blk_cell h 2).trans rfl
theorem cellS65_3 {W : World} {g : Nat} {A0 : Option Addr} {c0 : Nat} {A2 : Option Addr} {c2 : Nat} {f0 : List Int} {f1 : Int} {f2 : List (S36)} {f3 : Bool} {f4 : Int} {f5 : Int} {f6 : Int} (h : W.heap[g]? = some (.cells #[.slice A0 f0.length c0, .int .i64 f1, .slice A2 f2.length c2, .bool f3, .int .i64 f4, .int .i64 f5, .int .i64 f6] 65 (0, 0))) : W.cell? ⟨g, 3, none⟩ = some (.bool f3) := (blk_cell h 3).trans rfl
theorem IsS65.set_3 {w0 W : World} {g : Nat} {f0 : List Int} {f1 : Int} {f2 : List (S36)} {f3 : Bool} {f4 : Int} {f5 : Int} {f6 : Int} (h : IsS65 w0 W g f0 f1 f2 f3 f4 f5 f6) (x : Bool) : IsS65 w0 (W.setCell ⟨g, 3, none⟩ (.bool x)) g f0 f1 f2 x f4 f5 f6 := by
  obtain ⟨A0, c0, A2, c2, hb, hg, hr0, hr2⟩ := h
  exact ⟨A0, c0, A2, c2, by simpa using blk_set hb 3 (.bool x), hg, hr0, hr2⟩
theorem cellS65_4 {W : World} {g : Nat} {A0 : Option Addr} {c0 : Nat} {A2 : Option Addr} {c2 : Nat} {f0 : List Int} {f1 : Int} {f2 : List (S36)} {f3 : Bool} {f4 : Int} {f5 : Int} {f6 : Int} (h : W.heap[g]? = some (.cells #[.slice A0 f0.length c0, .int .i64 f1, .slice A2 f2.length c2, .bool f3, .int .i64 f4, .int .i64 f5, .int .i64 f6] 65 (0, 0))) : W.cell? ⟨g, 4, none⟩ = some (.int .i64 f4) := (blk_cell h 4).trans rfl
theorem IsS65.set_4 {w0 W : World} {g : Nat} {f0 : List Int} {f1 : Int} {f2 : List (S36)} {f3 : Bool} {f4 : Int} {f5 : Int} {f6 : Int} (h : IsS65 w0 W g f0 f1 f2 f3 f4 f5 f6) (x : Int) : IsS65 w0 (W.setCell ⟨g, 4, none⟩ (.int .i64 x)) g f0 f1 f2 f3 x f5 f6 := by
  obtain ⟨A0, c0, A2, c2, hb, hg, hr0, hr2⟩ := h
  exact ⟨A0, c0, A2, c2, by simpa using blk_set hb 4 (.int .i64 x), hg, hr0, hr2⟩
theorem cellS65_5 {W : World} {g : Nat} {A0 : Option Addr} {c0 : Nat} {A2 : Option Addr} {c2 : Nat} {f0 : List Int} {f1 : Int} {f2 : List (S36)} {f3 : Bool} {f4 : Int} {f5 : Int} {f6 : Int} (h : W.heap[g]? = some (.cells #[.slice A0 f0.length c0, .int .i64 f1, .slice A2 f2.length c2, .bool f3, .int .i64 f4, .int .i64 f5, .int .i64 f6] 65 (0, 0))) : W.cell? ⟨g, 5, none⟩ = some (.int .i64 f5) := (blk_cell h 5).trans rfl
theorem IsS65.set_5 {w0 W : World} {g : Nat} {f0 : List Int} {f1 : Int} {f2 : List (S36)} {f3 : Bool} {f4 : Int} {f5 : Int} {f6 : Int} (h : IsS65 w0 W g f0 f1 f2 f3 f4 f5 f6) (x : Int) : IsS65 w0 (W.setCell ⟨g, 5, none⟩ (.int .i64 x)) g f0 f1 f2 f3 f4 x f6 := by
  obtain ⟨A0, c0, A2, c2, hb, hg, hr0, hr2⟩ := h
  exact ⟨A0, c0, A2, c2, by simpa using blk_set hb 5 (.int .i64 x), hg, hr0, hr2⟩
theorem cellS65_6 {W : World} {g : Nat} {A0 : Option Addr} {c0 : Nat} {A2 : Option Addr} {c2 : Nat} {f0 : List Int} {f1 : Int} {f2 : List (S36)} {f3 : Bool} {f4 : Int} {f5 : Int} {f6 : Int} (h : W.heap[g]? = some (.cells #[.slice A0 f0.length c0, .int .i64 f1, .slice A2 f2.length c2, .bool f3, .int .i64 f4, .int .i64 f5, .int .i64 f6] 65 (0, 0))) : W.cell? ⟨g, 6, none⟩ = some (.int .i64 f6) := (blk_cell h 6).trans rfl
theorem IsS65.set_6 {w0 W : World} {g : Nat} {f0 : List Int} {f1 : Int} {f2 : List (S36)} {f3 : Bool} {f4 : Int} {f5 : Int} {f6 : Int} (h : IsS65 w0 W g f0 f1 f2 f3 f4 f5 f6) (x : Int) : IsS65 w0 (W.setCell ⟨g, 6, none⟩ (.int .i64 x)) g f0 f1 f2 f3 f4 f5 x := by
  obtain ⟨A0, c0, A2, c2, hb, hg, hr0, hr2⟩ := h
  exact ⟨A0, c0, A2, c2, by simpa using blk_set hb 6 (.int .i64 x), hg, hr0, hr2⟩
theorem IsS65.new (w0 W : World) (A0 : Option Addr) (c0 : Nat) (A2 : Option Addr) (c2 : Nat) (f0 : List Int) (f1 : Int) (f2 : List (S36)) (f3 : Bool) (f4 : Int) (f5 : Int) (f6 : Int) (hB : Below w0.heap.size w0 W) (hr0 : Kd.C (Kd.int .i32) w0 A0 f0.length f0) (hr2 : Kd.C k36 w0 A2 f2.length f2) : IsS65 w0 (W.alloc (.cells #[.slice A0 f0.length c0, .int .i64 f1, .slice A2 f2.length c2, .bool f3, .int .i64 f4, .int .i64 f5, .int .i64 f6] 65)) W.heap.size f0 f1 f2 f3 f4 f5 f6 := ⟨A0, c0, A2, c2, by simpa using heap_alloc_new W _, hB.size, hr0, hr2⟩

/-! ### spec_lexer_peek: function 74 -/
def spec_lexer_peek.f (s0_0 : List Int) (s0_1 : Int) (s0_2 : List (S36)) (s0_3 : Bool) (s0_4 : Int) (s0_5 : Int) (s0_6 : Int) (a1 : Int) : Option (Int × Int × Bool × Int × Int × Int) := if (wrap64 (s0_1 + a1)) < (s0_0.length : Int) then (if 0 ≤ (wrap64 (s0_1 + a1)) then (some (rd s0_0 (wrap64 (s0_1 + a1)), s0_1, s0_3, s0_4, s0_5, s0_6)) else (none)) else (some (0, s0_1, s0_3, s0_4, s0_5, s0_6))
set_option maxHeartbeats 8000000 in
set_option maxRecDepth 100000 in
theorem spec_lexer_peek.calls (g : Nat) (s0_0 : List Int) (s0_1 : Int) (s0_2 : List (S36)) (s0_3 : Bool) (s0_4 : Int) (s0_5 : Int) (s0_6 : Int) (a1 : Int) (r1 : Int) (r2 : Int) (r3 : Bool) (r4 : Int) (r5 : Int) (r6 : Int) (w0 w : World) (hI : IsS65 w0 w g s0_0 s0_1 s0_2 s0_3 s0_4 s0_5 s0_6) (hB : Below w0.heap.size w0 w) (h : spec_lexer_peek.f s0_0 s0_1 s0_2 s0_3 s0_4 s0_5 s0_6 a1 = some (r1, r2, r3, r4, r5, r6)) :
    Calls Try.prog 74 #[.pointer (some ⟨g, 0, none⟩), .int .i64 a1] w fun e w' => e = .returned (.int .i32 r1) ∧ IsS65 w0 w' g s0_0 r2 s0_2 r3 r4 r5 r6 ∧ Below w0.heap.size w0 w' ∧ KeepBut w w' g none := by
  have HI0 := Aside0.mk hI
  have HK := Aside0.mk (KeepBut.refl w g none)
  have HL := Aside0.mk hB.size
  clear hI
  have HW0 := Aside0.mk hB.size
  have HB := Aside0.mk hB
  clear hB
  have H : (if (wrap64 (s0_1 + a1)) < (s0_0.length : Int) then (if 0 ≤ (wrap64 (s0_1 + a1)) then (some (rd s0_0 (wrap64 (s0_1 + a1)), s0_1, s0_3, s0_4, s0_5, s0_6)) else (none)) else (some (0, s0_1, s0_3, s0_4, s0_5, s0_6))) = some (r1, r2, r3, r4, r5, r6) := h
  clear h
  by_cases c3 : (wrap64 (s0_1 + a1)) < (s0_0.length : Int)
  · rw [if_pos c3] at H
    have c3b0 : decide ((wrap64 (s0_1 + a1)) < (s0_0.length : Int)) = true := decide_eq_true c3
    clear c3
    obtain ⟨ji4, hji4⟩ : ∃ j_ : Int, (wrap64 (s0_1 + a1)) = j_ := ⟨_, rfl⟩
    replace H : (if 0 ≤ (ji4) then (some (rd s0_0 (ji4), s0_1, s0_3, s0_4, s0_5, s0_6)) else (none)) = some (r1, r2, r3, r4, r5, r6) := by first | (rw [hji4] at H; exact H) | (simp only [hji4] at H ⊢; exact H)
    (try rw [hji4] at c3b0)
    have hji4w : (IntKind.i64.wrap (s0_1 + a1)) = ji4 := (i64_w _).trans hji4
    by_cases c5 : 0 ≤ (ji4)
    · rw [if_pos c5] at H
      have c5b0 : decide (0 ≤ (ji4)) = true := decide_eq_true c5
      clear c5
      simp only [Option.some.injEq, Prod.mk.injEq] at H
      obtain ⟨rfl, rfl, rfl, rfl, rfl, rfl⟩ := H
      obtain ⟨ASz6_0, cSz6_0, ASz6_2, cSz6_2, HGz6, hgz6, HSz6_0, HSz6_2⟩ := HI0.out
      have hcz6_0 := cellS65_0 HGz6
      have hcz6_1 := cellS65_1 HGz6
      have hcz6_2 := cellS65_2 HGz6
      have hcz6_3 := cellS65_3 HGz6
      have hcz6_4 := cellS65_4 HGz6
      have hcz6_5 := cellS65_5 HGz6
      have hcz6_6 := cellS65_6 HGz6
      have hfz6_1 := blk_frozen HGz6 1
      have hfz6_3 := blk_frozen HGz6 3
      have hfz6_4 := blk_frozen HGz6 4
      have hfz6_5 := blk_frozen HGz6 5
      have hfz6_6 := blk_frozen HGz6 6
      clear HGz6 hgz6
      have p101 : 0 ≤ ((ji4) : Int) := of_decide_eq_true (by first | (with_reducible assumption) | assumption)
      have q101 : (ji4) < (s0_0.length : Int) := of_decide_eq_true (by first | (with_reducible assumption) | assumption)
      obtain ⟨ad101, e101, hx101_0⟩ := Kd.at_int HSz6_0 (ji4) p101 q101
      cases e101
      replace hx101_0 := pw_cell_below HB.out hx101_0
      replace p101 := eq_true p101
      replace q101 := eq_true q101
      go_enter Try.func74, Try.ntmps74
      go_wp2
      repeat (go_quiet (fail); try go_wp2)
      go_ret
      exact ⟨by first | rfl | (simp [errW_none, errW_some] <;> rfl) | (simp only [← hji4]; first | rfl | (simp [errW_none, errW_some] <;> rfl)) | (simp [*, errW_none, errW_some] <;> rfl), by repeat (first | (with_reducible first | exact HI0.out | apply IsS65.alloc | apply IsS65.drewN | apply IsS65.drew | apply IsS65.set_1 | apply IsS65.set_3 | apply IsS65.set_4 | apply IsS65.set_5 | apply IsS65.set_6) | exact HI0.out), by repeat (first | (with_reducible first | exact HB.out | apply below_alloc | apply pw_below_drewN | apply below_drew1 | refine below_set ?_ (IsS65.ge HI0.out)) | exact HB.out), by repeat (first | (with_reducible first | exact HK.out | apply KeepBut.set_ | apply keep_drewN | apply keep_drew | apply keep_alloc) | exact HK.out)⟩
    · rw [if_neg c5] at H
      exact absurd H (by simp)
  · rw [if_neg c3] at H
    have c3b0 : decide ((wrap64 (s0_1 + a1)) < (s0_0.length : Int)) = false := decide_eq_false c3
    clear c3
    simp only [Option.some.injEq, Prod.mk.injEq] at H
    obtain ⟨rfl, rfl, rfl, rfl, rfl, rfl⟩ := H
    obtain ⟨ASz7_0, cSz7_0, ASz7_2, cSz7_2, HGz7, hgz7, HSz7_0, HSz7_2⟩ := HI0.out
    have hcz7_0 := cellS65_0 HGz7
    have hcz7_1 := cellS65_1 HGz7
    have hcz7_2 := cellS65_2 HGz7
    have hcz7_3 := cellS65_3 HGz7
    have hcz7_4 := cellS65_4 HGz7
    have hcz7_5 := cellS65_5 HGz7
    have hcz7_6 := cellS65_6 HGz7
    have hfz7_1 := blk_frozen HGz7 1
    have hfz7_3 := blk_frozen HGz7 3
    have hfz7_4 := blk_frozen HGz7 4
    have hfz7_5 := blk_frozen HGz7 5
    have hfz7_6 := blk_frozen HGz7 6
    clear HGz7 hgz7
    go_enter Try.func74, Try.ntmps74
    go_wp2
    repeat (go_quiet (fail); try go_wp2)
    go_ret
    exact ⟨by first | rfl | (simp [errW_none, errW_some] <;> rfl) | (simp [*, errW_none, errW_some] <;> rfl), by repeat (first | (with_reducible first | exact HI0.out | apply IsS65.alloc | apply IsS65.drewN | apply IsS65.drew | apply IsS65.set_1 | apply IsS65.set_3 | apply IsS65.set_4 | apply IsS65.set_5 | apply IsS65.set_6) | exact HI0.out), by repeat (first | (with_reducible first | exact HB.out | apply below_alloc | apply pw_below_drewN | apply below_drew1 | refine below_set ?_ (IsS65.ge HI0.out)) | exact HB.out), by repeat (first | (with_reducible first | exact HK.out | apply KeepBut.set_ | apply keep_drewN | apply keep_drew | apply keep_alloc) | exact HK.out)⟩

/-! ### spec_IsDigit: function 68 -/
def spec_IsDigit.f (a0 : Int) : Option (Bool) := if a0 ≥ 48 then (some (decide (a0 ≤ 57))) else (some false)
set_option maxHeartbeats 8000000 in
set_option maxRecDepth 100000 in
theorem spec_IsDigit.calls (a0 : Int) (r : Bool) (w : World) (h : spec_IsDigit.f a0 = some r) :
    Calls Try.prog 68 #[.int .i32 a0] w fun e w' => e = .returned (.bool r) ∧ Drawn0 w w' := by
  have H : (if a0 ≥ 48 then (some (decide (a0 ≤ 57))) else (some false)) = some r := h
  clear h
  by_cases c2 : a0 ≥ 48
  · rw [if_pos c2] at H
    have c2b0 : decide (48 ≤ a0) = true := decide_eq_true c2
    clear c2
    obtain rfl := Option.some.inj H
    go_enter Try.func68, Try.ntmps68
    go_wp2
    go_ret
    exact ⟨by first | rfl | (simp; done) | (simp [*]; done), by repeat (first | exact Drawn0.refl _ | apply Drawn0.step)⟩
  · rw [if_neg c2] at H
    have c2b0 : decide (48 ≤ a0) = false := decide_eq_false c2
    clear c2
    obtain rfl := Option.some.inj H
    go_enter Try.func68, Try.ntmps68
    go_wp2
    go_ret
    exact ⟨by first | rfl | (simp; done) | (simp [*]; done), by repeat (first | exact Drawn0.refl _ | apply Drawn0.step)⟩

/-- THE ONE PURE STATEMENT of spec_IsDigit: yours. -/
def spec_IsDigit.Pure : Prop := ∀ (a0 : Int), (Lit.int .i32 a0).wf = true → spec_IsDigit.f a0 = some true
theorem spec_IsDigit.walk (P : spec_IsDigit.Pure) (a0 : Int) (w : World) (w0 : (Lit.int .i32 a0).wf = true) :
    Calls Try.prog 68 #[.int .i32 a0] w fun e w' => e = .returned (.bool true) ∧ Below w.heap.size w w' := by
  have h := P a0 w0
  refine (spec_IsDigit.calls a0 true w h).mono ?_
  rintro e w' ⟨rfl, hd⟩
  exact ⟨rfl, hd.below⟩

/-! ### spec_Hex: function 115 -/
def spec_Hex.j0 : Nat → Int → Bool → Option (Int)
  | 0, _, _ => none
  | k + 1, x0, x9 => if x9 = true then (some (wrap64 ((wrap64 (wrap32 (x0 - 97))) + 10))) else (if x0 ≥ 65 then (if x0 ≤ 70 then (some (wrap64 ((wrap64 (wrap32 (x0 - 65))) + 10))) else (some (-1))) else (some (-1)))
def spec_Hex.f (k : Nat) (a0 : Int) : Option (Int) := (spec_IsDigit.f a0).bind fun t102 => (if t102 = true then (some (wrap64 (wrap32 (a0 - 48)))) else (if a0 ≥ 97 then (spec_Hex.j0 k a0 (decide (a0 ≤ 102))) else (spec_Hex.j0 k a0 false)))
theorem spec_Hex.mono_l : ∀ k, (∀ y0 y1, LeO (spec_Hex.j0 k y0 y1) (spec_Hex.j0 (k + 1) y0 y1))
  | 0 => fun _ _ r h => by simp [spec_Hex.j0] at h
  | k + 1 => by
    have ih0 := spec_Hex.mono_l k
    · intro y0 y1
      unfold spec_Hex.j0
      repeat' first
      | (with_reducible exact ih0 _ _)
      | (with_reducible exact LeO.refl _)
      | (with_reducible exact LeO.none _)
      | (with_reducible refine LeO.ite ?_ ?_)
      | (with_reducible refine LeO.bind ?_ (fun _ => ?_))
      | exact ih0 _ _
      | exact LeO.none _
      | refine LeO.ite ?_ ?_
      | refine LeO.bind ?_ (fun _ => ?_)
theorem spec_Hex.mono : ∀ a0 k, LeO (spec_Hex.f k a0) (spec_Hex.f (k + 1) a0) := by
  intro a0 k
  have ih0 := spec_Hex.mono_l k
  unfold spec_Hex.f
  repeat' first
      | (with_reducible exact ih0 _ _)
      | (with_reducible exact LeO.refl _)
      | (with_reducible exact LeO.none _)
      | (with_reducible refine LeO.ite ?_ ?_)
      | (with_reducible refine LeO.bind ?_ (fun _ => ?_))
      | exact ih0 _ _
      | exact LeO.none _
      | refine LeO.ite ?_ ?_
      | refine LeO.bind ?_ (fun _ => ?_)
set_option maxHeartbeats 8000000 in
set_option maxRecDepth 100000 in
theorem spec_Hex.calls (k : Nat) (a0 : Int) (r : Int) (w : World) (h : spec_Hex.f k a0 = some r) :
    Calls Try.prog 115 #[.int .i32 a0] w fun e w' => e = .returned (.int .i64 r) ∧ Drawn0 w w' := by
  have H : ((spec_IsDigit.f a0).bind fun t102 => (if t102 = true then (some (wrap64 (wrap32 (a0 - 48)))) else (if a0 ≥ 97 then (spec_Hex.j0 k a0 (decide (a0 ≤ 102))) else (spec_Hex.j0 k a0 false)))) = some r := h
  clear h
  replace H := Option.bind_eq_some_iff.mp H
  obtain ⟨t102, A20, H⟩ := H
  replace H : (if t102 = true then (some (wrap64 (wrap32 (a0 - 48)))) else (if a0 ≥ 97 then (spec_Hex.j0 k a0 (decide (a0 ≤ 102))) else (spec_Hex.j0 k a0 false))) = some r := H
  have A2 := Aside0.mk A20
  clear A20
  by_cases c3 : t102 = true
  · subst c3
    have H1 : (some (wrap64 (wrap32 (a0 - 48)))) = some r := by rw [if_pos rfl] at H; exact H
    clear H
    have H := H1
    clear H1
    obtain rfl := Option.some.inj H
    go_enter Try.func115, Try.ntmps115
    go_wp2_with (first | ((with_reducible refine gate_callee (f := 68) rfl ?_); refine goesL_ (some 5) rfl rfl Try.func68 (by kernel_rfl) rfl #[.int .i32 a0] rfl (by (try simp only [List.map_toArray, List.map_cons, List.map_nil]); first | done | rfl | (simp only [List.length_drop, List.length_take]; rfl)) ?_; (with_reducible refine (spec_IsDigit.calls a0 true _ A2.out).mono ?_); rintro e w' ⟨rfl, ⟨nd, rfl⟩⟩; refine ⟨_, rfl, ?_⟩))
    go_ret
    exact ⟨by first | rfl | (simp; done) | (simp [*]; done), by repeat (first | exact Drawn0.refl _ | apply Drawn0.step)⟩
  · replace c3 := Bool.eq_false_iff.mpr c3
    subst c3
    have H1 : (if a0 ≥ 97 then (spec_Hex.j0 k a0 (decide (a0 ≤ 102))) else (spec_Hex.j0 k a0 false)) = some r := by rw [if_neg (show ¬ (false = true) by decide)] at H; exact H
    clear H
    have H := H1
    clear H1
    have HC4 := Aside0.mk H
    clear H
    go_enter Try.func115, Try.ntmps115
    go_upto_region 3 with (first | ((with_reducible refine gate_callee (f := 68) rfl ?_); refine goesL_ (some 5) rfl rfl Try.func68 (by kernel_rfl) rfl #[.int .i32 a0] rfl (by (try simp only [List.map_toArray, List.map_cons, List.map_nil]); first | done | rfl | (simp only [List.length_drop, List.length_take]; rfl)) ?_; (with_reducible refine (spec_IsDigit.calls a0 false _ A2.out).mono ?_); rintro e w' ⟨rfl, ⟨nd, rfl⟩⟩; refine ⟨_, rfl, ?_⟩))
    (try simp only [Act.put, List.setIfInBounds_toArray, List.set_cons_zero, List.set_cons_succ])
    go_cut [9] (fun v9 wc => ∃ (kq : Nat) (x9_3 : Bool), v9 = .bool x9_3 ∧ Aside0 (spec_Hex.j0 kq a0 x9_3 = some r) ∧ Aside0 (kq ≤ k) ∧ Drawn0 w wc)
    case first =>
      have H := HC4.out
      clear HC4
      by_cases c5 : a0 ≥ 97
      · rw [if_pos c5] at H
        have c5b0 : decide (97 ≤ a0) = true := decide_eq_true c5
        clear c5
        (first | rw [c5b0] | (simp only [i64_w, i32_w]; rw [c5b0]) | skip)
        have H' := Aside0.mk H
        clear H
        go_wp2
        go_meet
        case rel => exact ⟨_, (decide (a0 ≤ 102)), (by first | rfl | (simp; done) | (simp [*]; done)), H', ⟨by first | omega | exact Nat.le_refl _⟩, by repeat (first | exact Drawn0.refl _ | apply Drawn0.step)⟩
      · rw [if_neg c5] at H
        have c5b0 : decide (97 ≤ a0) = false := decide_eq_false c5
        clear c5
        (first | rw [c5b0] | (simp only [i64_w, i32_w]; rw [c5b0]) | skip)
        have H' := Aside0.mk H
        clear H
        go_wp2
        go_meet
        case rel => exact ⟨_, (false), (by first | rfl | (simp; done) | (simp [*]; done)), H', ⟨by first | omega | exact Nat.le_refl _⟩, by repeat (first | exact Drawn0.refl _ | apply Drawn0.step)⟩
    case rest =>
      clear HC4
      try clear c1
      try clear p2
      try clear c3
      try clear p3
      try clear c5
      try clear c5b0
      obtain ⟨kq, x9_3, rfl, HA, HJ3, ⟨mc3, rfl⟩⟩ := hcut
      cases kq with
      | zero => exact absurd HA.out (by simp [spec_Hex.j0])
      | succ kj3 =>
        have H := HA.out
        clear HA
        simp only [spec_Hex.j0] at H
        by_cases c6 : x9_3 = true
        · subst c6
          have H1 : (some (wrap64 ((wrap64 (wrap32 (a0 - 97))) + 10))) = some r := by rw [if_pos rfl] at H; exact H
          clear H
          have H := H1
          clear H1
          obtain rfl := Option.some.inj H
          go_wp2
          go_ret
          exact ⟨by first | rfl | (simp; done) | (simp [*]; done), by repeat (first | exact Drawn0.refl _ | apply Drawn0.step)⟩
        · replace c6 := Bool.eq_false_iff.mpr c6
          subst c6
          have H1 : (if a0 ≥ 65 then (if a0 ≤ 70 then (some (wrap64 ((wrap64 (wrap32 (a0 - 65))) + 10))) else (some (-1))) else (some (-1))) = some r := by rw [if_neg (show ¬ (false = true) by decide)] at H; exact H
          clear H
          have H := H1
          clear H1
          by_cases c7 : a0 ≥ 65
          · rw [if_pos c7] at H
            have c7b0 : decide (65 ≤ a0) = true := decide_eq_true c7
            clear c7
            by_cases c8 : a0 ≤ 70
            · rw [if_pos c8] at H
              have c8b0 : decide (a0 ≤ 70) = true := decide_eq_true c8
              clear c8
              obtain rfl := Option.some.inj H
              go_wp2
              go_ret
              exact ⟨by first | rfl | (simp; done) | (simp [*]; done), by repeat (first | exact Drawn0.refl _ | apply Drawn0.step)⟩
            · rw [if_neg c8] at H
              have c8b0 : decide (a0 ≤ 70) = false := decide_eq_false c8
              clear c8
              obtain rfl := Option.some.inj H
              go_wp2
              go_ret
              exact ⟨by first | rfl | (simp; done) | (simp [*]; done), by repeat (first | exact Drawn0.refl _ | apply Drawn0.step)⟩
          · rw [if_neg c7] at H
            have c7b0 : decide (65 ≤ a0) = false := decide_eq_false c7
            clear c7
            obtain rfl := Option.some.inj H
            go_wp2
            go_ret
            exact ⟨by first | rfl | (simp; done) | (simp [*]; done), by repeat (first | exact Drawn0.refl _ | apply Drawn0.step)⟩

/-! ### spec_lexer_escape: function 101 -/
mutual
def spec_lexer_escape.j0 : Nat → Int → Int → Bool → List Int → Int → List (S36) → Bool → Int → Int → Int → Option (Int × Bool × Int × Bool × Int × Int × Int)
  | 0, _, _, _, _, _, _, _, _, _, _ => none
  | k + 1, x4, x16, x17, x1000, x1001, x1002, x1003, x1004, x1005, x1006 => if x17 = true then (some (x4, true, x1001, x1003, x1004, x1005, x1006)) else (if x16 = 98 then (some (8, true, x1001, x1003, x1004, x1005, x1006)) else (if x16 = 102 then (some (12, true, x1001, x1003, x1004, x1005, x1006)) else (if x16 = 110 then (some (10, true, x1001, x1003, x1004, x1005, x1006)) else (if x16 = 114 then (some (13, true, x1001, x1003, x1004, x1005, x1006)) else (if x16 = 116 then (some (9, true, x1001, x1003, x1004, x1005, x1006)) else (if x16 = 117 then ((spec_lexer_peek.f x1000 x1001 x1002 x1003 x1004 x1005 x1006 0).bind fun bt109 => (if bt109.1 = 123 then (some (0, false, bt109.2.1, false, bt109.2.2.2.1, bt109.2.2.2.2.1, bt109.2.2.2.2.2)) else (spec_lexer_escape.l0 k 0 0 x1000 bt109.2.1 x1002 bt109.2.2.1 bt109.2.2.2.1 bt109.2.2.2.2.1 bt109.2.2.2.2.2))) else (some (0, false, x1001, x1003, x1004, x1005, x1006))))))))
def spec_lexer_escape.l0 : Nat → Int → Int → List Int → Int → List (S36) → Bool → Int → Int → Int → Option (Int × Bool × Int × Bool × Int × Int × Int)
  | 0, _, _, _, _, _, _, _, _, _ => none
  | k + 1, x5, x40, x1000, x1001, x1002, x1003, x1004, x1005, x1006 => if x40 < 4 then ((spec_lexer_peek.f x1000 x1001 x1002 x1003 x1004 x1005 x1006 0).bind fun bt115 => ((spec_Hex.f k bt115.1).bind fun t121 => (if t121 < 0 then (some (0, false, bt115.2.1, bt115.2.2.1, bt115.2.2.2.1, bt115.2.2.2.2.1, bt115.2.2.2.2.2)) else (spec_lexer_escape.l0 k (wrap64 ((wrap64 (16 * x5)) + t121)) (wrap64 (x40 + 1)) x1000 (wrap64 (bt115.2.1 + 1)) x1002 bt115.2.2.1 bt115.2.2.2.1 bt115.2.2.2.2.1 bt115.2.2.2.2.2)))) else (if x5 ≥ 55296 then (if x5 < 57344 then (some (wrap32 (x5), true, x1001, false, x1004, x1005, x1006)) else (some (wrap32 (x5), true, x1001, x1003, x1004, x1005, x1006))) else (some (wrap32 (x5), true, x1001, x1003, x1004, x1005, x1006)))
end
def spec_lexer_escape.f (k : Nat) (s0_0 : List Int) (s0_1 : Int) (s0_2 : List (S36)) (s0_3 : Bool) (s0_4 : Int) (s0_5 : Int) (s0_6 : Int) : Option (Int × Bool × Int × Bool × Int × Int × Int) := (spec_lexer_peek.f s0_0 s0_1 s0_2 s0_3 s0_4 s0_5 s0_6 0).bind fun bt103 => (if bt103.1 = 34 then (spec_lexer_escape.j0 k bt103.1 bt103.1 (bt103.1 == 34) s0_0 (wrap64 (bt103.2.1 + 1)) s0_2 bt103.2.2.1 bt103.2.2.2.1 bt103.2.2.2.2.1 bt103.2.2.2.2.2) else (if bt103.1 = 92 then (spec_lexer_escape.j0 k bt103.1 bt103.1 (bt103.1 == 92) s0_0 (wrap64 (bt103.2.1 + 1)) s0_2 bt103.2.2.1 bt103.2.2.2.1 bt103.2.2.2.2.1 bt103.2.2.2.2.2) else (spec_lexer_escape.j0 k bt103.1 bt103.1 (bt103.1 == 47) s0_0 (wrap64 (bt103.2.1 + 1)) s0_2 bt103.2.2.1 bt103.2.2.2.1 bt103.2.2.2.2.1 bt103.2.2.2.2.2)))
theorem spec_lexer_escape.mono_l : ∀ k, (∀ y0 y1 y2 y3 y4 y5 y6 y7 y8 y9, LeO (spec_lexer_escape.j0 k y0 y1 y2 y3 y4 y5 y6 y7 y8 y9) (spec_lexer_escape.j0 (k + 1) y0 y1 y2 y3 y4 y5 y6 y7 y8 y9)) ∧ (∀ y0 y1 y2 y3 y4 y5 y6 y7 y8, LeO (spec_lexer_escape.l0 k y0 y1 y2 y3 y4 y5 y6 y7 y8) (spec_lexer_escape.l0 (k + 1) y0 y1 y2 y3 y4 y5 y6 y7 y8))
  | 0 => ⟨fun _ _ _ _ _ _ _ _ _ _ r h => by simp [spec_lexer_escape.j0] at h, fun _ _ _ _ _ _ _ _ _ r h => by simp [spec_lexer_escape.l0] at h⟩
  | k + 1 => by
    obtain ⟨ih0, ih1⟩ := spec_lexer_escape.mono_l k
    refine ⟨?_, ?_⟩
    · intro y0 y1 y2 y3 y4 y5 y6 y7 y8 y9
      unfold spec_lexer_escape.j0
      repeat' first
      | (with_reducible exact ih0 _ _ _ _ _ _ _ _ _ _)
      | (with_reducible exact ih1 _ _ _ _ _ _ _ _ _)
      | (with_reducible exact spec_Hex.mono _ _)
      | (with_reducible exact LeO.refl _)
      | (with_reducible exact LeO.none _)
      | (with_reducible refine LeO.ite ?_ ?_)
      | (with_reducible refine LeO.bind ?_ (fun _ => ?_))
      | exact ih0 _ _ _ _ _ _ _ _ _ _
      | exact ih1 _ _ _ _ _ _ _ _ _
      | exact spec_Hex.mono _ _
      | exact LeO.none _
      | refine LeO.ite ?_ ?_
      | refine LeO.bind ?_ (fun _ => ?_)
    · intro y0 y1 y2 y3 y4 y5 y6 y7 y8
      unfold spec_lexer_escape.l0
      repeat' first
      | (with_reducible exact ih0 _ _ _ _ _ _ _ _ _ _)
      | (with_reducible exact ih1 _ _ _ _ _ _ _ _ _)
      | (with_reducible exact spec_Hex.mono _ _)
      | (with_reducible exact LeO.refl _)
      | (with_reducible exact LeO.none _)
      | (with_reducible refine LeO.ite ?_ ?_)
      | (with_reducible refine LeO.bind ?_ (fun _ => ?_))
      | exact ih0 _ _ _ _ _ _ _ _ _ _
      | exact ih1 _ _ _ _ _ _ _ _ _
      | exact spec_Hex.mono _ _
      | exact LeO.none _
      | refine LeO.ite ?_ ?_
      | refine LeO.bind ?_ (fun _ => ?_)
theorem spec_lexer_escape.mono : ∀ a0 a1 a2 a3 a4 a5 a6 k, LeO (spec_lexer_escape.f k a0 a1 a2 a3 a4 a5 a6) (spec_lexer_escape.f (k + 1) a0 a1 a2 a3 a4 a5 a6) := by
  intro a0 a1 a2 a3 a4 a5 a6 k
  obtain ⟨ih0, ih1⟩ := spec_lexer_escape.mono_l k
  unfold spec_lexer_escape.f
  repeat' first
      | (with_reducible exact ih0 _ _ _ _ _ _ _ _ _ _)
      | (with_reducible exact ih1 _ _ _ _ _ _ _ _ _)
      | (with_reducible exact spec_Hex.mono _ _)
      | (with_reducible exact LeO.refl _)
      | (with_reducible exact LeO.none _)
      | (with_reducible refine LeO.ite ?_ ?_)
      | (with_reducible refine LeO.bind ?_ (fun _ => ?_))
      | exact ih0 _ _ _ _ _ _ _ _ _ _
      | exact ih1 _ _ _ _ _ _ _ _ _
      | exact spec_Hex.mono _ _
      | exact LeO.none _
      | refine LeO.ite ?_ ?_
      | refine LeO.bind ?_ (fun _ => ?_)
set_option maxHeartbeats 8000000 in
set_option maxRecDepth 100000 in
theorem spec_lexer_escape.calls (k : Nat) (g : Nat) (s0_0 : List Int) (s0_1 : Int) (s0_2 : List (S36)) (s0_3 : Bool) (s0_4 : Int) (s0_5 : Int) (s0_6 : Int) (r1 : Int) (r2 : Bool) (r3 : Int) (r4 : Bool) (r5 : Int) (r6 : Int) (r7 : Int) (w0 w : World) (hI : IsS65 w0 w g s0_0 s0_1 s0_2 s0_3 s0_4 s0_5 s0_6) (hB : Below w0.heap.size w0 w) (h : spec_lexer_escape.f k s0_0 s0_1 s0_2 s0_3 s0_4 s0_5 s0_6 = some (r1, r2, r3, r4, r5, r6, r7)) :
    Calls Try.prog 101 #[.pointer (some ⟨g, 0, none⟩)] w fun e w' => e = .returned (.tuple #[.int .i32 r1, .bool r2]) ∧ IsS65 w0 w' g s0_0 r3 s0_2 r4 r5 r6 r7 ∧ Below w0.heap.size w0 w' ∧ KeepBut w w' g none := by
  have HI0 := Aside0.mk hI
  have HK := Aside0.mk (KeepBut.refl w g none)
  have HL := Aside0.mk hB.size
  clear hI
  have HW0 := Aside0.mk hB.size
  have HB := Aside0.mk hB
  clear hB
  have H : ((spec_lexer_peek.f s0_0 s0_1 s0_2 s0_3 s0_4 s0_5 s0_6 0).bind fun bt103 => (if bt103.1 = 34 then (spec_lexer_escape.j0 k bt103.1 bt103.1 (bt103.1 == 34) s0_0 (wrap64 (bt103.2.1 + 1)) s0_2 bt103.2.2.1 bt103.2.2.2.1 bt103.2.2.2.2.1 bt103.2.2.2.2.2) else (if bt103.1 = 92 then (spec_lexer_escape.j0 k bt103.1 bt103.1 (bt103.1 == 92) s0_0 (wrap64 (bt103.2.1 + 1)) s0_2 bt103.2.2.1 bt103.2.2.2.1 bt103.2.2.2.2.1 bt103.2.2.2.2.2) else (spec_lexer_escape.j0 k bt103.1 bt103.1 (bt103.1 == 47) s0_0 (wrap64 (bt103.2.1 + 1)) s0_2 bt103.2.2.1 bt103.2.2.2.1 bt103.2.2.2.2.1 bt103.2.2.2.2.2)))) = some (r1, r2, r3, r4, r5, r6, r7) := h
  clear h
  replace H := Option.bind_eq_some_iff.mp H
  obtain ⟨⟨t103, t104, t105, t106, t107, t108⟩, A20, H⟩ := H
  replace H : (if t103 = 34 then (spec_lexer_escape.j0 k t103 t103 (t103 == 34) s0_0 (wrap64 (t104 + 1)) s0_2 t105 t106 t107 t108) else (if t103 = 92 then (spec_lexer_escape.j0 k t103 t103 (t103 == 92) s0_0 (wrap64 (t104 + 1)) s0_2 t105 t106 t107 t108) else (spec_lexer_escape.j0 k t103 t103 (t103 == 47) s0_0 (wrap64 (t104 + 1)) s0_2 t105 t106 t107 t108))) = some (r1, r2, r3, r4, r5, r6, r7) := H
  have A2 := Aside0.mk A20
  clear A20
  have HC3 := Aside0.mk H
  clear H
  go_enter Try.func101, Try.ntmps101
  go_upto_if 17 with (first | ((with_reducible refine gate_callee (f := 74) rfl ?_); refine goesL_ (some 8) rfl rfl Try.func74 (by kernel_rfl) rfl #[.pointer (some ⟨g, 0, none⟩), .int .i64 0] rfl (by (try simp only [List.map_toArray, List.map_cons, List.map_nil]); first | done | rfl | (simp only [List.length_drop, List.length_take]; rfl)) ?_; (with_reducible refine (spec_lexer_peek.calls g s0_0 s0_1 s0_2 s0_3 s0_4 s0_5 s0_6 0 t103 t104 t105 t106 t107 t108 w0 _ ?side1 ?side2 A2.out).mono ?_); (case side1 => repeat (first | (with_reducible first | exact HI0.out | apply IsS65.alloc | apply IsS65.drewN | apply IsS65.drew | apply IsS65.set_1 | apply IsS65.set_3 | apply IsS65.set_4 | apply IsS65.set_5 | apply IsS65.set_6) | exact HI0.out)); (case side2 => repeat (first | (with_reducible first | exact HB.out | apply below_alloc | apply pw_below_drewN | apply below_drew1 | refine below_set ?_ (IsS65.ge HI0.out)) | exact HB.out)); rintro e w4 ⟨rfl, hi, hb, hk⟩; refine ⟨_, rfl, ?_⟩; have n0_ := Aside0.mk (KeepBut.trans (by repeat (first | (with_reducible first | exact HK.out | apply KeepBut.set_ | apply keep_drewN | apply keep_drew | apply keep_alloc) | exact HK.out)) hk (.inl rfl)); have n1_ := Aside0.mk (hb); have n2_ := Aside0.mk (hi); clear HK; clear HB; clear HI0; have HK := n0_; have HB := n1_; have HI0 := n2_; clear n0_ n1_ n2_; (try clear hb); (try clear hb2); (try clear hk); (try clear hi); obtain ⟨ASz5_0, cSz5_0, ASz5_2, cSz5_2, HGz5, hgz5, HSz5_0, HSz5_2⟩ := HI0.out; have hcz5_0 := cellS65_0 HGz5; have hcz5_1 := cellS65_1 HGz5; have hcz5_2 := cellS65_2 HGz5; have hcz5_3 := cellS65_3 HGz5; have hcz5_4 := cellS65_4 HGz5; have hcz5_5 := cellS65_5 HGz5; have hcz5_6 := cellS65_6 HGz5; have hfz5_1 := blk_frozen HGz5 1; have hfz5_3 := blk_frozen HGz5 3; have hfz5_4 := blk_frozen HGz5 4; have hfz5_5 := blk_frozen HGz5 5; have hfz5_6 := blk_frozen HGz5 6; clear HGz5 hgz5))
  (try simp only [Act.put, List.setIfInBounds_toArray, List.set_cons_zero, List.set_cons_succ])
  go_cut [17] (fun v17 wc => ∃ (kq : Nat) (x17_2 : Bool), v17 = .bool x17_2 ∧ Aside0 (spec_lexer_escape.j0 kq t103 t103 x17_2 s0_0 (wrap64 (t104 + 1)) s0_2 t105 t106 t107 t108 = some (r1, r2, r3, r4, r5, r6, r7)) ∧ Aside0 (kq ≤ k) ∧ Aside0 (IsS65 w0 wc g s0_0 (wrap64 (t104 + 1)) s0_2 t105 t106 t107 t108) ∧ Aside0 (KeepBut w wc g none) ∧ Aside0 (Below w0.heap.size w0 wc))
  case first =>
    have H := HC3.out
    clear HC3
    by_cases c6 : t103 = 34
    · rw [if_pos c6] at H
      have c6b0 : (t103 == 34) = true := beq_iff_eq.mpr c6
      have c6b1 : (t103 != 34) = false := bne_eq_false_iff_eq.mpr c6
      clear c6
      (first | rw [c6b0] | (simp only [i64_w, i32_w]; rw [c6b0]) | skip)
      have H' := Aside0.mk H
      clear H
      go_wp2
      go_meet
      case rel => exact ⟨_, ((t103 == 34)), (by first | rfl | (simp; done) | (simp [*]; done)), H', ⟨by first | omega | exact Nat.le_refl _⟩, ⟨by repeat (first | (with_reducible first | exact HI0.out | apply IsS65.alloc | apply IsS65.drewN | apply IsS65.drew | apply IsS65.set_1 | apply IsS65.set_3 | apply IsS65.set_4 | apply IsS65.set_5 | apply IsS65.set_6) | exact HI0.out)⟩, ⟨by repeat (first | (with_reducible first | exact HK.out | apply KeepBut.set_ | apply keep_drewN | apply keep_drew | apply keep_alloc) | exact HK.out)⟩, ⟨by repeat (first | (with_reducible first | exact HB.out | apply below_alloc | apply pw_below_drewN | apply below_drew1 | refine below_set ?_ (IsS65.ge HI0.out)) | exact HB.out)⟩⟩
    · rw [if_neg c6] at H
      have c6b0 : (t103 == 34) = false := beq_eq_false_iff_ne.mpr c6
      have c6b1 : (t103 != 34) = true := bne_iff_ne.mpr c6
      (first | rw [c6b0] | (simp only [i64_w, i32_w]; rw [c6b0]) | skip)
      by_cases c7 : t103 = 92
      · rw [if_pos c7] at H
        have c7b0 : (t103 == 92) = true := beq_iff_eq.mpr c7
        have c7b1 : (t103 != 92) = false := bne_eq_false_iff_eq.mpr c7
        clear c7
        have H' := Aside0.mk H
        clear H
        go_wp2
        go_meet
        case rel => exact ⟨_, ((t103 == 92)), (by first | rfl | (simp; done) | (simp [*]; done)), H', ⟨by first | omega | exact Nat.le_refl _⟩, ⟨by repeat (first | (with_reducible first | exact HI0.out | apply IsS65.alloc | apply IsS65.drewN | apply IsS65.drew | apply IsS65.set_1 | apply IsS65.set_3 | apply IsS65.set_4 | apply IsS65.set_5 | apply IsS65.set_6) | exact HI0.out)⟩, ⟨by repeat (first | (with_reducible first | exact HK.out | apply KeepBut.set_ | apply keep_drewN | apply keep_drew | apply keep_alloc) | exact HK.out)⟩, ⟨by repeat (first | (with_reducible first | exact HB.out | apply below_alloc | apply pw_below_drewN | apply below_drew1 | refine below_set ?_ (IsS65.ge HI0.out)) | exact HB.out)⟩⟩
      · rw [if_neg c7] at H
        have c7b0 : (t103 == 92) = false := beq_eq_false_iff_ne.mpr c7
        have c7b1 : (t103 != 92) = true := bne_iff_ne.mpr c7
        have H' := Aside0.mk H
        clear H
        go_wp2
        go_meet
        case rel => exact ⟨_, ((t103 == 47)), (by first | rfl | (simp; done) | (simp [*]; done)), H', ⟨by first | omega | exact Nat.le_refl _⟩, ⟨by repeat (first | (with_reducible first | exact HI0.out | apply IsS65.alloc | apply IsS65.drewN | apply IsS65.drew | apply IsS65.set_1 | apply IsS65.set_3 | apply IsS65.set_4 | apply IsS65.set_5 | apply IsS65.set_6) | exact HI0.out)⟩, ⟨by repeat (first | (with_reducible first | exact HK.out | apply KeepBut.set_ | apply keep_drewN | apply keep_drew | apply keep_alloc) | exact HK.out)⟩, ⟨by repeat (first | (with_reducible first | exact HB.out | apply below_alloc | apply pw_below_drewN | apply below_drew1 | refine below_set ?_ (IsS65.ge HI0.out)) | exact HB.out)⟩⟩
  case rest =>
    clear HC3
    try clear c1
    try clear p2
    try clear c6
    try clear c6b0
    try clear c6b1
    try clear p6
    try clear c7
    try clear c7b0
    try clear c7b1
    try clear hcz5_0
    try clear hcz5_1
    try clear hcz5_2
    try clear hcz5_3
    try clear hcz5_4
    try clear hcz5_5
    try clear hcz5_6
    try clear hfz5_1
    try clear hfz5_3
    try clear hfz5_4
    try clear hfz5_5
    try clear hfz5_6
    obtain ⟨kq, x17_2, rfl, HA, HJ2, HI0, HK, HB⟩ := hcut
    cases kq with
    | zero => exact absurd HA.out (by simp [spec_lexer_escape.j0])
    | succ kj2 =>
      have H := HA.out
      clear HA
      simp only [spec_lexer_escape.j0] at H
      by_cases c8 : x17_2 = true
      · subst c8
        have H1 : (some (t103, true, (wrap64 (t104 + 1)), t105, t106, t107, t108)) = some (r1, r2, r3, r4, r5, r6, r7) := by rw [if_pos rfl] at H; exact H
        clear H
        have H := H1
        clear H1
        simp only [Option.some.injEq, Prod.mk.injEq] at H
        obtain ⟨rfl, rfl, rfl, rfl, rfl, rfl, rfl⟩ := H
        go_wp2
        go_ret2
        exact ⟨by first | rfl | (simp [errW_none, errW_some] <;> rfl) | (simp [*, errW_none, errW_some] <;> rfl), by repeat (first | (with_reducible first | exact HI0.out | apply IsS65.alloc | apply IsS65.drewN | apply IsS65.drew | apply IsS65.set_1 | apply IsS65.set_3 | apply IsS65.set_4 | apply IsS65.set_5 | apply IsS65.set_6) | exact HI0.out), by repeat (first | (with_reducible first | exact HB.out | apply below_alloc | apply pw_below_drewN | apply below_drew1 | refine below_set ?_ (IsS65.ge HI0.out)) | exact HB.out), by repeat (first | (with_reducible first | exact HK.out | apply KeepBut.set_ | apply keep_drewN | apply keep_drew | apply keep_alloc) | exact HK.out)⟩
      · replace c8 := Bool.eq_false_iff.mpr c8
        subst c8
        have H1 : (if t103 = 98 then (some (8, true, (wrap64 (t104 + 1)), t105, t106, t107, t108)) else (if t103 = 102 then (some (12, true, (wrap64 (t104 + 1)), t105, t106, t107, t108)) else (if t103 = 110 then (some (10, true, (wrap64 (t104 + 1)), t105, t106, t107, t108)) else (if t103 = 114 then (some (13, true, (wrap64 (t104 + 1)), t105, t106, t107, t108)) else (if t103 = 116 then (some (9, true, (wrap64 (t104 + 1)), t105, t106, t107, t108)) else (if t103 = 117 then ((spec_lexer_peek.f s0_0 (wrap64 (t104 + 1)) s0_2 t105 t106 t107 t108 0).bind fun bt109 => (if bt109.1 = 123 then (some (0, false, bt109.2.1, false, bt109.2.2.2.1, bt109.2.2.2.2.1, bt109.2.2.2.2.2)) else (spec_lexer_escape.l0 kj2 0 0 s0_0 bt109.2.1 s0_2 bt109.2.2.1 bt109.2.2.2.1 bt109.2.2.2.2.1 bt109.2.2.2.2.2))) else (some (0, false, (wrap64 (t104 + 1)), t105, t106, t107, t108)))))))) = some (r1, r2, r3, r4, r5, r6, r7) := by rw [if_neg (show ¬ (false = true) by decide)] at H; exact H
        clear H
        have H := H1
        clear H1
        by_cases c9 : t103 = 98
        · rw [if_pos c9] at H
          have c9b0 : (t103 == 98) = true := beq_iff_eq.mpr c9
          have c9b1 : (t103 != 98) = false := bne_eq_false_iff_eq.mpr c9
          clear c9
          simp only [Option.some.injEq, Prod.mk.injEq] at H
          obtain ⟨rfl, rfl, rfl, rfl, rfl, rfl, rfl⟩ := H
          go_wp2
          go_ret2
          exact ⟨by first | rfl | (simp [errW_none, errW_some] <;> rfl) | (simp [*, errW_none, errW_some] <;> rfl), by repeat (first | (with_reducible first | exact HI0.out | apply IsS65.alloc | apply IsS65.drewN | apply IsS65.drew | apply IsS65.set_1 | apply IsS65.set_3 | apply IsS65.set_4 | apply IsS65.set_5 | apply IsS65.set_6) | exact HI0.out), by repeat (first | (with_reducible first | exact HB.out | apply below_alloc | apply pw_below_drewN | apply below_drew1 | refine below_set ?_ (IsS65.ge HI0.out)) | exact HB.out), by repeat (first | (with_reducible first | exact HK.out | apply KeepBut.set_ | apply keep_drewN | apply keep_drew | apply keep_alloc) | exact HK.out)⟩
        · rw [if_neg c9] at H
          have c9b0 : (t103 == 98) = false := beq_eq_false_iff_ne.mpr c9
          have c9b1 : (t103 != 98) = true := bne_iff_ne.mpr c9
          by_cases c10 : t103 = 102
          · rw [if_pos c10] at H
            have c10b0 : (t103 == 102) = true := beq_iff_eq.mpr c10
            have c10b1 : (t103 != 102) = false := bne_eq_false_iff_eq.mpr c10
            clear c10
            simp only [Option.some.injEq, Prod.mk.injEq] at H
            obtain ⟨rfl, rfl, rfl, rfl, rfl, rfl, rfl⟩ := H
            go_wp2
            go_ret2
            exact ⟨by first | rfl | (simp [errW_none, errW_some] <;> rfl) | (simp [*, errW_none, errW_some] <;> rfl), by repeat (first | (with_reducible first | exact HI0.out | apply IsS65.alloc | apply IsS65.drewN | apply IsS65.drew | apply IsS65.set_1 | apply IsS65.set_3 | apply IsS65.set_4 | apply IsS65.set_5 | apply IsS65.set_6) | exact HI0.out), by repeat (first | (with_reducible first | exact HB.out | apply below_alloc | apply pw_below_drewN | apply below_drew1 | refine below_set ?_ (IsS65.ge HI0.out)) | exact HB.out), by repeat (first | (with_reducible first | exact HK.out | apply KeepBut.set_ | apply keep_drewN | apply keep_drew | apply keep_alloc) | exact HK.out)⟩
          · rw [if_neg c10] at H
            have c10b0 : (t103 == 102) = false := beq_eq_false_iff_ne.mpr c10
            have c10b1 : (t103 != 102) = true := bne_iff_ne.mpr c10
            by_cases c11 : t103 = 110
            · rw [if_pos c11] at H
              have c11b0 : (t103 == 110) = true := beq_iff_eq.mpr c11
              have c11b1 : (t103 != 110) = false := bne_eq_false_iff_eq.mpr c11
              clear c11
              simp only [Option.some.injEq, Prod.mk.injEq] at H
              obtain ⟨rfl, rfl, rfl, rfl, rfl, rfl, rfl⟩ := H
              go_wp2
              go_ret2
              exact ⟨by first | rfl | (simp [errW_none, errW_some] <;> rfl) | (simp [*, errW_none, errW_some] <;> rfl), by repeat (first | (with_reducible first | exact HI0.out | apply IsS65.alloc | apply IsS65.drewN | apply IsS65.drew | apply IsS65.set_1 | apply IsS65.set_3 | apply IsS65.set_4 | apply IsS65.set_5 | apply IsS65.set_6) | exact HI0.out), by repeat (first | (with_reducible first | exact HB.out | apply below_alloc | apply pw_below_drewN | apply below_drew1 | refine below_set ?_ (IsS65.ge HI0.out)) | exact HB.out), by repeat (first | (with_reducible first | exact HK.out | apply KeepBut.set_ | apply keep_drewN | apply keep_drew | apply keep_alloc) | exact HK.out)⟩
            · rw [if_neg c11] at H
              have c11b0 : (t103 == 110) = false := beq_eq_false_iff_ne.mpr c11
              have c11b1 : (t103 != 110) = true := bne_iff_ne.mpr c11
              by_cases c12 : t103 = 114
              · rw [if_pos c12] at H
                have c12b0 : (t103 == 114) = true := beq_iff_eq.mpr c12
                have c12b1 : (t103 != 114) = false := bne_eq_false_iff_eq.mpr c12
                clear c12
                simp only [Option.some.injEq, Prod.mk.injEq] at H
                obtain ⟨rfl, rfl, rfl, rfl, rfl, rfl, rfl⟩ := H
                go_wp2
                go_ret2
                exact ⟨by first | rfl | (simp [errW_none, errW_some] <;> rfl) | (simp [*, errW_none, errW_some] <;> rfl), by repeat (first | (with_reducible first | exact HI0.out | apply IsS65.alloc | apply IsS65.drewN | apply IsS65.drew | apply IsS65.set_1 | apply IsS65.set_3 | apply IsS65.set_4 | apply IsS65.set_5 | apply IsS65.set_6) | exact HI0.out), by repeat (first | (with_reducible first | exact HB.out | apply below_alloc | apply pw_below_drewN | apply below_drew1 | refine below_set ?_ (IsS65.ge HI0.out)) | exact HB.out), by repeat (first | (with_reducible first | exact HK.out | apply KeepBut.set_ | apply keep_drewN | apply keep_drew | apply keep_alloc) | exact HK.out)⟩
              · rw [if_neg c12] at H
                have c12b0 : (t103 == 114) = false := beq_eq_false_iff_ne.mpr c12
                have c12b1 : (t103 != 114) = true := bne_iff_ne.mpr c12
                by_cases c13 : t103 = 116
                · rw [if_pos c13] at H
                  have c13b0 : (t103 == 116) = true := beq_iff_eq.mpr c13
                  have c13b1 : (t103 != 116) = false := bne_eq_false_iff_eq.mpr c13
                  clear c13
                  simp only [Option.some.injEq, Prod.mk.injEq] at H
                  obtain ⟨rfl, rfl, rfl, rfl, rfl, rfl, rfl⟩ := H
                  go_wp2
                  go_ret2
                  exact ⟨by first | rfl | (simp [errW_none, errW_some] <;> rfl) | (simp [*, errW_none, errW_some] <;> rfl), by repeat (first | (with_reducible first | exact HI0.out | apply IsS65.alloc | apply IsS65.drewN | apply IsS65.drew | apply IsS65.set_1 | apply IsS65.set_3 | apply IsS65.set_4 | apply IsS65.set_5 | apply IsS65.set_6) | exact HI0.out), by repeat (first | (with_reducible first | exact HB.out | apply below_alloc | apply pw_below_drewN | apply below_drew1 | refine below_set ?_ (IsS65.ge HI0.out)) | exact HB.out), by repeat (first | (with_reducible first | exact HK.out | apply KeepBut.set_ | apply keep_drewN | apply keep_drew | apply keep_alloc) | exact HK.out)⟩
                · rw [if_neg c13] at H
                  have c13b0 : (t103 == 116) = false := beq_eq_false_iff_ne.mpr c13
                  have c13b1 : (t103 != 116) = true := bne_iff_ne.mpr c13
                  by_cases c14 : t103 = 117
                  · rw [if_pos c14] at H
                    have c14b0 : (t103 == 117) = true := beq_iff_eq.mpr c14
                    have c14b1 : (t103 != 117) = false := bne_eq_false_iff_eq.mpr c14
                    clear c14
                    replace H := Option.bind_eq_some_iff.mp H
                    obtain ⟨⟨t109, t110, t111, t112, t113, t114⟩, A150, H⟩ := H
                    replace H : (if t109 = 123 then (some (0, false, t110, false, t112, t113, t114)) else (spec_lexer_escape.l0 kj2 0 0 s0_0 t110 s0_2 t111 t112 t113 t114)) = some (r1, r2, r3, r4, r5, r6, r7) := H
                    have A15 := Aside0.mk A150
                    clear A150
                    by_cases c16 : t109 = 123
                    · rw [if_pos c16] at H
                      have c16b0 : (t109 == 123) = true := beq_iff_eq.mpr c16
                      have c16b1 : (t109 != 123) = false := bne_eq_false_iff_eq.mpr c16
                      clear c16
                      simp only [Option.some.injEq, Prod.mk.injEq] at H
                      obtain ⟨rfl, rfl, rfl, rfl, rfl, rfl, rfl⟩ := H
                      go_wp2_with (first | ((with_reducible refine gate_callee (f := 74) rfl ?_); refine goesL_ (some 35) rfl rfl Try.func74 (by kernel_rfl) rfl #[.pointer (some ⟨g, 0, none⟩), .int .i64 0] rfl (by (try simp only [List.map_toArray, List.map_cons, List.map_nil]); first | done | rfl | (simp only [List.length_drop, List.length_take]; rfl)) ?_; (with_reducible refine (spec_lexer_peek.calls g s0_0 (wrap64 (t104 + 1)) s0_2 t105 t106 t107 t108 0 t109 t110 t111 t112 t113 t114 w0 _ ?side1 ?side2 A15.out).mono ?_); (case side1 => repeat (first | (with_reducible first | exact HI0.out | apply IsS65.alloc | apply IsS65.drewN | apply IsS65.drew | apply IsS65.set_1 | apply IsS65.set_3 | apply IsS65.set_4 | apply IsS65.set_5 | apply IsS65.set_6) | exact HI0.out)); (case side2 => repeat (first | (with_reducible first | exact HB.out | apply below_alloc | apply pw_below_drewN | apply below_drew1 | refine below_set ?_ (IsS65.ge HI0.out)) | exact HB.out)); rintro e w17 ⟨rfl, hi, hb, hk⟩; refine ⟨_, rfl, ?_⟩; have n0_ := Aside0.mk (KeepBut.trans (by repeat (first | (with_reducible first | exact HK.out | apply KeepBut.set_ | apply keep_drewN | apply keep_drew | apply keep_alloc) | exact HK.out)) hk (.inl rfl)); have n1_ := Aside0.mk (hb); have n2_ := Aside0.mk (hi); clear HK; clear HB; clear HI0; have HK := n0_; have HB := n1_; have HI0 := n2_; clear n0_ n1_ n2_; (try clear hb); (try clear hb2); (try clear hk); (try clear hi); obtain ⟨ASz18_0, cSz18_0, ASz18_2, cSz18_2, HGz18, hgz18, HSz18_0, HSz18_2⟩ := HI0.out; have hcz18_0 := cellS65_0 HGz18; have hcz18_1 := cellS65_1 HGz18; have hcz18_2 := cellS65_2 HGz18; have hcz18_3 := cellS65_3 HGz18; have hcz18_4 := cellS65_4 HGz18; have hcz18_5 := cellS65_5 HGz18; have hcz18_6 := cellS65_6 HGz18; have hfz18_1 := blk_frozen HGz18 1; have hfz18_3 := blk_frozen HGz18 3; have hfz18_4 := blk_frozen HGz18 4; have hfz18_5 := blk_frozen HGz18 5; have hfz18_6 := blk_frozen HGz18 6; clear HGz18 hgz18))
                      go_ret2
                      exact ⟨by first | rfl | (simp [errW_none, errW_some] <;> rfl) | (simp [*, errW_none, errW_some] <;> rfl), by repeat (first | (with_reducible first | exact HI0.out | apply IsS65.alloc | apply IsS65.drewN | apply IsS65.drew | apply IsS65.set_1 | apply IsS65.set_3 | apply IsS65.set_4 | apply IsS65.set_5 | apply IsS65.set_6) | exact HI0.out), by repeat (first | (with_reducible first | exact HB.out | apply below_alloc | apply pw_below_drewN | apply below_drew1 | refine below_set ?_ (IsS65.ge HI0.out)) | exact HB.out), by repeat (first | (with_reducible first | exact HK.out | apply KeepBut.set_ | apply keep_drewN | apply keep_drew | apply keep_alloc) | exact HK.out)⟩
                    · rw [if_neg c16] at H
                      have c16b0 : (t109 == 123) = false := beq_eq_false_iff_ne.mpr c16
                      have c16b1 : (t109 != 123) = true := bne_iff_ne.mpr c16
                      have H' := Aside0.mk H
                      clear H
                      go_wp2_with (first | ((with_reducible refine gate_callee (f := 74) rfl ?_); refine goesL_ (some 35) rfl rfl Try.func74 (by kernel_rfl) rfl #[.pointer (some ⟨g, 0, none⟩), .int .i64 0] rfl (by (try simp only [List.map_toArray, List.map_cons, List.map_nil]); first | done | rfl | (simp only [List.length_drop, List.length_take]; rfl)) ?_; (with_reducible refine (spec_lexer_peek.calls g s0_0 (wrap64 (t104 + 1)) s0_2 t105 t106 t107 t108 0 t109 t110 t111 t112 t113 t114 w0 _ ?side1 ?side2 A15.out).mono ?_); (case side1 => repeat (first | (with_reducible first | exact HI0.out | apply IsS65.alloc | apply IsS65.drewN | apply IsS65.drew | apply IsS65.set_1 | apply IsS65.set_3 | apply IsS65.set_4 | apply IsS65.set_5 | apply IsS65.set_6) | exact HI0.out)); (case side2 => repeat (first | (with_reducible first | exact HB.out | apply below_alloc | apply pw_below_drewN | apply below_drew1 | refine below_set ?_ (IsS65.ge HI0.out)) | exact HB.out)); rintro e w19 ⟨rfl, hi, hb, hk⟩; refine ⟨_, rfl, ?_⟩; have n0_ := Aside0.mk (KeepBut.trans (by repeat (first | (with_reducible first | exact HK.out | apply KeepBut.set_ | apply keep_drewN | apply keep_drew | apply keep_alloc) | exact HK.out)) hk (.inl rfl)); have n1_ := Aside0.mk (hb); have n2_ := Aside0.mk (hi); clear HK; clear HB; clear HI0; have HK := n0_; have HB := n1_; have HI0 := n2_; clear n0_ n1_ n2_; (try clear hb); (try clear hb2); (try clear hk); (try clear hi)))
                      go_loopg [5, 40] kj2 (fun kq v5 v40 w' => ∃ (x5_2 : Int) (x40_2 : Int) (x1001_2 : Int) (x1003_2 : Bool) (x1004_2 : Int) (x1005_2 : Int) (x1006_2 : Int), v5 = .int .i64 x5_2 ∧ v40 = .int .i64 x40_2 ∧ Aside0 (spec_lexer_escape.l0 kq x5_2 x40_2 s0_0 x1001_2 s0_2 x1003_2 x1004_2 x1005_2 x1006_2 = some (r1, r2, r3, r4, r5, r6, r7)) ∧ Aside0 (kq ≤ kj2) ∧ Aside0 (IsS65 w0 w' g s0_0 x1001_2 s0_2 x1003_2 x1004_2 x1005_2 x1006_2) ∧ Aside0 (KeepBut w w' g none) ∧ Aside0 (Below w0.heap.size w0 w'))
                      case atStart => exact ⟨(0), (0), (t110), (t111), (t112), (t113), (t114), (by first | rfl | (simp; done) | (simp [*]; done)), (by first | rfl | (simp; done) | (simp [*]; done)), H', ⟨Nat.le_refl _⟩, ⟨by repeat (first | (with_reducible first | exact HI0.out | apply IsS65.alloc | apply IsS65.drewN | apply IsS65.drew | apply IsS65.set_1 | apply IsS65.set_3 | apply IsS65.set_4 | apply IsS65.set_5 | apply IsS65.set_6) | exact HI0.out)⟩, ⟨by repeat (first | (with_reducible first | exact HK.out | apply KeepBut.set_ | apply keep_drewN | apply keep_drew | apply keep_alloc) | exact HK.out)⟩, ⟨by repeat (first | (with_reducible first | exact HB.out | apply below_alloc | apply pw_below_drewN | apply below_drew1 | refine below_set ?_ (IsS65.ge HI0.out)) | exact HB.out)⟩⟩
                      case round =>
                        clear H'
                        try clear c1
                        try clear p2
                        try clear c6
                        try clear c6b0
                        try clear c6b1
                        try clear p6
                        try clear c7
                        try clear c7b0
                        try clear c7b1
                        try clear c8
                        try clear c9
                        try clear c9b0
                        try clear c9b1
                        try clear c10
                        try clear c10b0
                        try clear c10b1
                        try clear c11
                        try clear c11b0
                        try clear c11b1
                        try clear c12
                        try clear c12b0
                        try clear c12b1
                        try clear c13
                        try clear c13b0
                        try clear c13b1
                        try clear c14
                        try clear c14b0
                        try clear c14b1
                        try clear c16
                        try clear c16b0
                        try clear c16b1
                        try clear hcz18_0
                        try clear hcz18_1
                        try clear hcz18_2
                        try clear hcz18_3
                        try clear hcz18_4
                        try clear hcz18_5
                        try clear hcz18_6
                        try clear hcz5_0
                        try clear hcz5_1
                        try clear hcz5_2
                        try clear hcz5_3
                        try clear hcz5_4
                        try clear hcz5_5
                        try clear hcz5_6
                        try clear hfz18_1
                        try clear hfz18_3
                        try clear hfz18_4
                        try clear hfz18_5
                        try clear hfz18_6
                        try clear hfz5_1
                        try clear hfz5_3
                        try clear hfz5_4
                        try clear hfz5_5
                        try clear hfz5_6
                        try clear p2
                        try clear p6
                        obtain ⟨x5_2, x40_2, x1001_2, x1003_2, x1004_2, x1005_2, x1006_2, rfl, rfl, HA, HK2, HI0, HK, HB⟩ := hrel
                        cases gk with
                        | zero => exact absurd HA.out (by simp [spec_lexer_escape.l0])
                        | succ k2 =>
                          have H := HA.out
                          clear HA
                          simp only [spec_lexer_escape.l0] at H
                          by_cases c20 : x40_2 < 4
                          · rw [if_pos c20] at H
                            have c20b0 : decide (x40_2 < 4) = true := decide_eq_true c20
                            clear c20
                            replace H := Option.bind_eq_some_iff.mp H
                            obtain ⟨⟨t115, t116, t117, t118, t119, t120⟩, A210, H⟩ := H
                            replace H : ((spec_Hex.f k2 t115).bind fun t121 => (if t121 < 0 then (some (0, false, t116, t117, t118, t119, t120)) else (spec_lexer_escape.l0 k2 (wrap64 ((wrap64 (16 * x5_2)) + t121)) (wrap64 (x40_2 + 1)) s0_0 (wrap64 (t116 + 1)) s0_2 t117 t118 t119 t120))) = some (r1, r2, r3, r4, r5, r6, r7) := H
                            have A21 := Aside0.mk A210
                            clear A210
                            replace H := Option.bind_eq_some_iff.mp H
                            obtain ⟨t121, A220, H⟩ := H
                            replace H : (if t121 < 0 then (some (0, false, t116, t117, t118, t119, t120)) else (spec_lexer_escape.l0 k2 (wrap64 ((wrap64 (16 * x5_2)) + t121)) (wrap64 (x40_2 + 1)) s0_0 (wrap64 (t116 + 1)) s0_2 t117 t118 t119 t120)) = some (r1, r2, r3, r4, r5, r6, r7) := H
                            have A22 := Aside0.mk A220
                            clear A220
                            by_cases c23 : t121 < 0
                            · rw [if_pos c23] at H
                              have c23b0 : decide (t121 < 0) = true := decide_eq_true c23
                              clear c23
                              simp only [Option.some.injEq, Prod.mk.injEq] at H
                              obtain ⟨rfl, rfl, rfl, rfl, rfl, rfl, rfl⟩ := H
                              go_wp2_with (first | ((with_reducible refine gate_callee (f := 74) rfl ?_); refine goesL_ (some 43) rfl rfl Try.func74 (by kernel_rfl) rfl #[.pointer (some ⟨g, 0, none⟩), .int .i64 0] rfl (by (try simp only [List.map_toArray, List.map_cons, List.map_nil]); first | done | rfl | (simp only [List.length_drop, List.length_take]; rfl)) ?_; (with_reducible refine (spec_lexer_peek.calls g s0_0 x1001_2 s0_2 x1003_2 x1004_2 x1005_2 x1006_2 0 t115 t116 t117 t118 t119 t120 w0 _ ?side1 ?side2 A21.out).mono ?_); (case side1 => repeat (first | (with_reducible first | exact HI0.out | apply IsS65.alloc | apply IsS65.drewN | apply IsS65.drew | apply IsS65.set_1 | apply IsS65.set_3 | apply IsS65.set_4 | apply IsS65.set_5 | apply IsS65.set_6) | exact HI0.out)); (case side2 => repeat (first | (with_reducible first | exact HB.out | apply below_alloc | apply pw_below_drewN | apply below_drew1 | refine below_set ?_ (IsS65.ge HI0.out)) | exact HB.out)); rintro e w24 ⟨rfl, hi, hb, hk⟩; refine ⟨_, rfl, ?_⟩; have n0_ := Aside0.mk (KeepBut.trans (by repeat (first | (with_reducible first | exact HK.out | apply KeepBut.set_ | apply keep_drewN | apply keep_drew | apply keep_alloc) | exact HK.out)) hk (.inl rfl)); have n1_ := Aside0.mk (hb); have n2_ := Aside0.mk (hi); clear HK; clear HB; clear HI0; have HK := n0_; have HB := n1_; have HI0 := n2_; clear n0_ n1_ n2_; (try clear hb); (try clear hb2); (try clear hk); (try clear hi)) | ((with_reducible refine gate_callee (f := 115) rfl ?_); refine goesL_ (some 44) rfl rfl Try.func115 (by kernel_rfl) rfl #[.int .i32 t115] rfl (by (try simp only [List.map_toArray, List.map_cons, List.map_nil]); first | done | rfl | (simp only [List.length_drop, List.length_take]; rfl)) ?_; (with_reducible refine (spec_Hex.calls k2 t115 t121 _ A22.out).mono ?_); rintro e w' ⟨rfl, ⟨nd, rfl⟩⟩; refine ⟨_, rfl, ?_⟩))
                              go_ret2
                              exact ⟨by first | rfl | (simp [errW_none, errW_some] <;> rfl) | (simp [*, errW_none, errW_some] <;> rfl), by repeat (first | (with_reducible first | exact HI0.out | apply IsS65.alloc | apply IsS65.drewN | apply IsS65.drew | apply IsS65.set_1 | apply IsS65.set_3 | apply IsS65.set_4 | apply IsS65.set_5 | apply IsS65.set_6) | exact HI0.out), by repeat (first | (with_reducible first | exact HB.out | apply below_alloc | apply pw_below_drewN | apply below_drew1 | refine below_set ?_ (IsS65.ge HI0.out)) | exact HB.out), by repeat (first | (with_reducible first | exact HK.out | apply KeepBut.set_ | apply keep_drewN | apply keep_drew | apply keep_alloc) | exact HK.out)⟩
                            · rw [if_neg c23] at H
                              have c23b0 : decide (t121 < 0) = false := decide_eq_false c23
                              clear c23
                              have H' := Aside0.mk H
                              clear H
                              go_wp2_with (first | ((with_reducible refine gate_callee (f := 74) rfl ?_); refine goesL_ (some 43) rfl rfl Try.func74 (by kernel_rfl) rfl #[.pointer (some ⟨g, 0, none⟩), .int .i64 0] rfl (by (try simp only [List.map_toArray, List.map_cons, List.map_nil]); first | done | rfl | (simp only [List.length_drop, List.length_take]; rfl)) ?_; (with_reducible refine (spec_lexer_peek.calls g s0_0 x1001_2 s0_2 x1003_2 x1004_2 x1005_2 x1006_2 0 t115 t116 t117 t118 t119 t120 w0 _ ?side1 ?side2 A21.out).mono ?_); (case side1 => repeat (first | (with_reducible first | exact HI0.out | apply IsS65.alloc | apply IsS65.drewN | apply IsS65.drew | apply IsS65.set_1 | apply IsS65.set_3 | apply IsS65.set_4 | apply IsS65.set_5 | apply IsS65.set_6) | exact HI0.out)); (case side2 => repeat (first | (with_reducible first | exact HB.out | apply below_alloc | apply pw_below_drewN | apply below_drew1 | refine below_set ?_ (IsS65.ge HI0.out)) | exact HB.out)); rintro e w25 ⟨rfl, hi, hb, hk⟩; refine ⟨_, rfl, ?_⟩; have n0_ := Aside0.mk (KeepBut.trans (by repeat (first | (with_reducible first | exact HK.out | apply KeepBut.set_ | apply keep_drewN | apply keep_drew | apply keep_alloc) | exact HK.out)) hk (.inl rfl)); have n1_ := Aside0.mk (hb); have n2_ := Aside0.mk (hi); clear HK; clear HB; clear HI0; have HK := n0_; have HB := n1_; have HI0 := n2_; clear n0_ n1_ n2_; (try clear hb); (try clear hb2); (try clear hk); (try clear hi)) | ((with_reducible refine gate_callee (f := 115) rfl ?_); refine goesL_ (some 44) rfl rfl Try.func115 (by kernel_rfl) rfl #[.int .i32 t115] rfl (by (try simp only [List.map_toArray, List.map_cons, List.map_nil]); first | done | rfl | (simp only [List.length_drop, List.length_take]; rfl)) ?_; (with_reducible refine (spec_Hex.calls k2 t115 t121 _ A22.out).mono ?_); rintro e w' ⟨rfl, ⟨nd, rfl⟩⟩; refine ⟨_, rfl, ?_⟩; (try (rw [drewN_self w25]; generalize hq_ : World.drewN w25 _ = w25; have n0_ : Aside0 (IsS65 w0 w25 g s0_0 t116 s0_2 t117 t118 t119 t120) := ⟨by rw [← hq_]; exact (by repeat (first | (with_reducible first | exact HI0.out | apply IsS65.alloc | apply IsS65.drewN | apply IsS65.drew | apply IsS65.set_1 | apply IsS65.set_3 | apply IsS65.set_4 | apply IsS65.set_5 | apply IsS65.set_6) | exact HI0.out))⟩; have n1_ : Aside0 (KeepBut w w25 g none) := ⟨by rw [← hq_]; exact (by repeat (first | (with_reducible first | exact HK.out | apply KeepBut.set_ | apply keep_drewN | apply keep_drew | apply keep_alloc) | exact HK.out))⟩; have n2_ : Aside0 (Below w0.heap.size w0 w25) := ⟨by rw [← hq_]; exact (by repeat (first | (with_reducible first | exact HB.out | apply below_alloc | apply pw_below_drewN | apply below_drew1 | refine below_set ?_ (IsS65.ge HI0.out)) | exact HB.out))⟩; clear HI0 HK HB hq_; have HI0 := n0_; have HK := n1_; have HB := n2_; clear n0_ n1_ n2_)); obtain ⟨ASz26_0, cSz26_0, ASz26_2, cSz26_2, HGz26, hgz26, HSz26_0, HSz26_2⟩ := HI0.out; have hcz26_0 := cellS65_0 HGz26; have hcz26_1 := cellS65_1 HGz26; have hcz26_2 := cellS65_2 HGz26; have hcz26_3 := cellS65_3 HGz26; have hcz26_4 := cellS65_4 HGz26; have hcz26_5 := cellS65_5 HGz26; have hcz26_6 := cellS65_6 HGz26; have hfz26_1 := blk_frozen HGz26 1; have hfz26_3 := blk_frozen HGz26 3; have hfz26_4 := blk_frozen HGz26 4; have hfz26_5 := blk_frozen HGz26 5; have hfz26_6 := blk_frozen HGz26 6; clear HGz26 hgz26))
                              go_roundg k2
                              case measure => have := HJ2.out; have := HK2.out; omega
                              case rel => exact ⟨(wrap64 ((wrap64 (16 * x5_2)) + t121)), (wrap64 (x40_2 + 1)), (wrap64 (t116 + 1)), (t117), (t118), (t119), (t120), (by first | rfl | (simp; done) | (simp [*]; done)), (by first | rfl | (simp; done) | (simp [*]; done)), H', ⟨by have := HJ2.out; have := HK2.out; omega⟩, ⟨by repeat (first | (with_reducible first | exact HI0.out | apply IsS65.alloc | apply IsS65.drewN | apply IsS65.drew | apply IsS65.set_1 | apply IsS65.set_3 | apply IsS65.set_4 | apply IsS65.set_5 | apply IsS65.set_6) | exact HI0.out)⟩, ⟨by repeat (first | (with_reducible first | exact HK.out | apply KeepBut.set_ | apply keep_drewN | apply keep_drew | apply keep_alloc) | exact HK.out)⟩, ⟨by repeat (first | (with_reducible first | exact HB.out | apply below_alloc | apply pw_below_drewN | apply below_drew1 | refine below_set ?_ (IsS65.ge HI0.out)) | exact HB.out)⟩⟩
                          · rw [if_neg c20] at H
                            have c20b0 : decide (x40_2 < 4) = false := decide_eq_false c20
                            clear c20
                            by_cases c27 : x5_2 ≥ 55296
                            · rw [if_pos c27] at H
                              have c27b0 : decide (55296 ≤ x5_2) = true := decide_eq_true c27
                              clear c27
                              by_cases c28 : x5_2 < 57344
                              · rw [if_pos c28] at H
                                have c28b0 : decide (x5_2 < 57344) = true := decide_eq_true c28
                                clear c28
                                simp only [Option.some.injEq, Prod.mk.injEq] at H
                                obtain ⟨rfl, rfl, rfl, rfl, rfl, rfl, rfl⟩ := H
                                obtain ⟨ASz29_0, cSz29_0, ASz29_2, cSz29_2, HGz29, hgz29, HSz29_0, HSz29_2⟩ := HI0.out
                                have hcz29_0 := cellS65_0 HGz29
                                have hcz29_1 := cellS65_1 HGz29
                                have hcz29_2 := cellS65_2 HGz29
                                have hcz29_3 := cellS65_3 HGz29
                                have hcz29_4 := cellS65_4 HGz29
                                have hcz29_5 := cellS65_5 HGz29
                                have hcz29_6 := cellS65_6 HGz29
                                have hfz29_1 := blk_frozen HGz29 1
                                have hfz29_3 := blk_frozen HGz29 3
                                have hfz29_4 := blk_frozen HGz29 4
                                have hfz29_5 := blk_frozen HGz29 5
                                have hfz29_6 := blk_frozen HGz29 6
                                clear HGz29 hgz29
                                go_wp2
                                go_ret2
                                exact ⟨by first | rfl | (simp [errW_none, errW_some] <;> rfl) | (simp [*, errW_none, errW_some] <;> rfl), by repeat (first | (with_reducible first | exact HI0.out | apply IsS65.alloc | apply IsS65.drewN | apply IsS65.drew | apply IsS65.set_1 | apply IsS65.set_3 | apply IsS65.set_4 | apply IsS65.set_5 | apply IsS65.set_6) | exact HI0.out), by repeat (first | (with_reducible first | exact HB.out | apply below_alloc | apply pw_below_drewN | apply below_drew1 | refine below_set ?_ (IsS65.ge HI0.out)) | exact HB.out), by repeat (first | (with_reducible first | exact HK.out | apply KeepBut.set_ | apply keep_drewN | apply keep_drew | apply keep_alloc) | exact HK.out)⟩
                              · rw [if_neg c28] at H
                                have c28b0 : decide (x5_2 < 57344) = false := decide_eq_false c28
                                clear c28
                                simp only [Option.some.injEq, Prod.mk.injEq] at H
                                obtain ⟨rfl, rfl, rfl, rfl, rfl, rfl, rfl⟩ := H
                                go_wp2
                                go_ret2
                                exact ⟨by first | rfl | (simp [errW_none, errW_some] <;> rfl) | (simp [*, errW_none, errW_some] <;> rfl), by repeat (first | (with_reducible first | exact HI0.out | apply IsS65.alloc | apply IsS65.drewN | apply IsS65.drew | apply IsS65.set_1 | apply IsS65.set_3 | apply IsS65.set_4 | apply IsS65.set_5 | apply IsS65.set_6) | exact HI0.out), by repeat (first | (with_reducible first | exact HB.out | apply below_alloc | apply pw_below_drewN | apply below_drew1 | refine below_set ?_ (IsS65.ge HI0.out)) | exact HB.out), by repeat (first | (with_reducible first | exact HK.out | apply KeepBut.set_ | apply keep_drewN | apply keep_drew | apply keep_alloc) | exact HK.out)⟩
                            · rw [if_neg c27] at H
                              have c27b0 : decide (55296 ≤ x5_2) = false := decide_eq_false c27
                              clear c27
                              simp only [Option.some.injEq, Prod.mk.injEq] at H
                              obtain ⟨rfl, rfl, rfl, rfl, rfl, rfl, rfl⟩ := H
                              go_wp2
                              go_ret2
                              exact ⟨by first | rfl | (simp [errW_none, errW_some] <;> rfl) | (simp [*, errW_none, errW_some] <;> rfl), by repeat (first | (with_reducible first | exact HI0.out | apply IsS65.alloc | apply IsS65.drewN | apply IsS65.drew | apply IsS65.set_1 | apply IsS65.set_3 | apply IsS65.set_4 | apply IsS65.set_5 | apply IsS65.set_6) | exact HI0.out), by repeat (first | (with_reducible first | exact HB.out | apply below_alloc | apply pw_below_drewN | apply below_drew1 | refine below_set ?_ (IsS65.ge HI0.out)) | exact HB.out), by repeat (first | (with_reducible first | exact HK.out | apply KeepBut.set_ | apply keep_drewN | apply keep_drew | apply keep_alloc) | exact HK.out)⟩
                  · rw [if_neg c14] at H
                    have c14b0 : (t103 == 117) = false := beq_eq_false_iff_ne.mpr c14
                    have c14b1 : (t103 != 117) = true := bne_iff_ne.mpr c14
                    simp only [Option.some.injEq, Prod.mk.injEq] at H
                    obtain ⟨rfl, rfl, rfl, rfl, rfl, rfl, rfl⟩ := H
                    go_wp2
                    go_ret2
                    exact ⟨by first | rfl | (simp [errW_none, errW_some] <;> rfl) | (simp [*, errW_none, errW_some] <;> rfl), by repeat (first | (with_reducible first | exact HI0.out | apply IsS65.alloc | apply IsS65.drewN | apply IsS65.drew | apply IsS65.set_1 | apply IsS65.set_3 | apply IsS65.set_4 | apply IsS65.set_5 | apply IsS65.set_6) | exact HI0.out), by repeat (first | (with_reducible first | exact HB.out | apply below_alloc | apply pw_below_drewN | apply below_drew1 | refine below_set ?_ (IsS65.ge HI0.out)) | exact HB.out), by repeat (first | (with_reducible first | exact HK.out | apply KeepBut.set_ | apply keep_drewN | apply keep_drew | apply keep_alloc) | exact HK.out)⟩

/-! ### spec_IsSource: function 71 -/
def spec_IsSource.f (a0 : Int) : Option (Bool) := if a0 = 9 then (some true) else (if a0 = 10 then (some true) else (if a0 = 13 then (some true) else (some (decide (a0 ≥ 32)))))
set_option maxHeartbeats 8000000 in
set_option maxRecDepth 100000 in
theorem spec_IsSource.calls (a0 : Int) (r : Bool) (w : World) (h : spec_IsSource.f a0 = some r) :
    Calls Try.prog 71 #[.int .i32 a0] w fun e w' => e = .returned (.bool r) ∧ Drawn0 w w' := by
  have H : (if a0 = 9 then (some true) else (if a0 = 10 then (some true) else (if a0 = 13 then (some true) else (some (decide (a0 ≥ 32)))))) = some r := h
  clear h
  by_cases c2 : a0 = 9
  · rw [if_pos c2] at H
    have c2b0 : (a0 == 9) = true := beq_iff_eq.mpr c2
    have c2b1 : (a0 != 9) = false := bne_eq_false_iff_eq.mpr c2
    clear c2
    obtain rfl := Option.some.inj H
    go_enter Try.func71, Try.ntmps71
    go_wp2
    go_ret
    exact ⟨by first | rfl | (simp; done) | (simp [*]; done), by repeat (first | exact Drawn0.refl _ | apply Drawn0.step)⟩
  · rw [if_neg c2] at H
    have c2b0 : (a0 == 9) = false := beq_eq_false_iff_ne.mpr c2
    have c2b1 : (a0 != 9) = true := bne_iff_ne.mpr c2
    by_cases c3 : a0 = 10
    · rw [if_pos c3] at H
      have c3b0 : (a0 == 10) = true := beq_iff_eq.mpr c3
      have c3b1 : (a0 != 10) = false := bne_eq_false_iff_eq.mpr c3
      clear c3
      obtain rfl := Option.some.inj H
      go_enter Try.func71, Try.ntmps71
      go_wp2
      go_ret
      exact ⟨by first | rfl | (simp; done) | (simp [*]; done), by repeat (first | exact Drawn0.refl _ | apply Drawn0.step)⟩
    · rw [if_neg c3] at H
      have c3b0 : (a0 == 10) = false := beq_eq_false_iff_ne.mpr c3
      have c3b1 : (a0 != 10) = true := bne_iff_ne.mpr c3
      by_cases c4 : a0 = 13
      · rw [if_pos c4] at H
        have c4b0 : (a0 == 13) = true := beq_iff_eq.mpr c4
        have c4b1 : (a0 != 13) = false := bne_eq_false_iff_eq.mpr c4
        clear c4
        obtain rfl := Option.some.inj H
        go_enter Try.func71, Try.ntmps71
        go_wp2
        go_ret
        exact ⟨by first | rfl | (simp; done) | (simp [*]; done), by repeat (first | exact Drawn0.refl _ | apply Drawn0.step)⟩
      · rw [if_neg c4] at H
        have c4b0 : (a0 == 13) = false := beq_eq_false_iff_ne.mpr c4
        have c4b1 : (a0 != 13) = true := bne_iff_ne.mpr c4
        obtain rfl := Option.some.inj H
        go_enter Try.func71, Try.ntmps71
        go_wp2
        go_ret
        exact ⟨by first | rfl | (simp; done) | (simp [*]; done), by repeat (first | exact Drawn0.refl _ | apply Drawn0.step)⟩

/-- THE ONE PURE STATEMENT of spec_IsSource: yours. -/
def spec_IsSource.Pure : Prop := ∀ (a0 : Int), (Lit.int .i32 a0).wf = true → spec_IsSource.f a0 = some true
theorem spec_IsSource.walk (P : spec_IsSource.Pure) (a0 : Int) (w : World) (w0 : (Lit.int .i32 a0).wf = true) :
    Calls Try.prog 71 #[.int .i32 a0] w fun e w' => e = .returned (.bool true) ∧ Below w.heap.size w w' := by
  have h := P a0 w0
  refine (spec_IsSource.calls a0 true w h).mono ?_
  rintro e w' ⟨rfl, hd⟩
  exact ⟨rfl, hd.below⟩

end Go.Proofs.Ytamajbaojbghcaa.PX
