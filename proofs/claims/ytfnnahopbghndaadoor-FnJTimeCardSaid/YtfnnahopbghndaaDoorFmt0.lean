/- What the walks of the formats share: errors, rows of strings, ranges over a string. -/
import Derived.Test.YtfnnahopbghndaaDoorPzzSplitx1
import Derived.Test.YtfnnahopbghndaaDoorK
import Derived.Lib.OthersKept
import Derived.WalkSpells
import Derived.Lib.Hide
import Derived.WalkLawsBesides
namespace Go.Proofs.YtfnnahopbghndaaDoor.Fmt
open Go.RowKit Go.Proofs.YtfnnahopbghndaaDoorW.PrintWords Go.Proofs.YtfnnahopbghndaaDoorW.PrintLast Go.Proofs.YtfnnahopbghndaaDoorW.PrintMore Go.Proofs.YtfnnahopbghndaaDoor.K
set_option linter.unusedVariables false
set_option linter.unusedSimpArgs false

/-- An error that is one. -/
def IsErr (e : Ending) : Prop := ∃ T a, e = .returned (.iface T (.pointer (some a)))

theorem errNew (f : ByteArray) (w : World) : Calls Tryd.prog 60 #[.string f] w fun e w' => IsErr e ∧ Below w.heap.size w w' := by
  go_enter Tryd.func60, Tryd.ntmps60
  go_wp2
  go_ret
  exact ⟨⟨_, _, rfl⟩, (Below.refl _ _).alloc (Nat.le_refl _) _⟩

theorem locErr (f : ByteArray) (v : Value) (w : World) : Calls Tryd.prog 47 #[.string f, v] w fun e w' => IsErr e ∧ Below w.heap.size w w' := by
  go_enter Tryd.func47, Tryd.ntmps47
  go_wp2_with (go_at_call 60; refine (errNew _ _).mono ?_; rintro e w' ⟨⟨T, a, rfl⟩, hb⟩)
  go_ret
  exact ⟨⟨_, _, rfl⟩, hb⟩
theorem asStr (s : ByteArray) (w : World) : (Instr.typeAssert (.iface 9 (.string s)) 20 9 true).run Tryd.prog w = .ok (.tuple #[.string s, .bool true]) w := by
  kernel_rfl
theorem heap_new (w : World) (o : Obj) : (w.alloc o).heap[w.heap.size]? = some o := by
  show (w.heap.push o)[w.heap.size]? = _
  simp
theorem cell_new (w : World) (cs : Array Value) (t : TypeId) (j : Nat) : (w.alloc (.cells cs t)).cell? ⟨w.heap.size, j, none⟩ = cs[j]? := blk_cell (heap_new w _) j
theorem cell_kept {w w1 : World} {cs : Array Value} {t : TypeId} (hb : Below (w.alloc (.cells cs t)).heap.size (w.alloc (.cells cs t)) w1) (j : Nat) : w1.cell? ⟨w.heap.size, j, none⟩ = cs[j]? := by
  rw [hb.cell (p := ⟨w.heap.size, j, none⟩) (by simp), cell_new]

/-! ### a range over a string: every byte below the place is of a kind -/
/-- From a place on: each byte of g is of kind p. -/
def Sofar (p : UInt8 → Bool) (g : ByteArray) (pos : Nat) : Prop := ∀ j, (_h : j < (bs g).length) → j < pos → p ((bs g)[j]) = true
theorem Sofar.zero (p : UInt8 → Bool) (g : ByteArray) : Sofar p g 0 := fun _ _ h => by omega
theorem Sofar.all {p : UInt8 → Bool} {g : ByteArray} {pos : Nat} (h : Sofar p g pos) (hp : ¬ pos < g.size) : ∀ b ∈ bs g, p b = true := by
  intro b hb
  obtain ⟨i, hi, rfl⟩ := List.getElem_of_mem hb
  exact h i hi (by have := bs_len g; omega)
theorem bs_at (g : ByteArray) (pos : Nat) (h : pos < g.size) (h' : pos < (bs g).length) : (bs g)[pos]'h' = g[pos]'h := by
  simp [bs, Array.getElem_toList]
  rfl
/-- The rune at a place, where the kind is one of bytes below 128. -/
theorem decode_cases (g : ByteArray) (pos : Nat) (h : pos < g.size) :
    ((Utf8.decode g pos) = ((g[pos]'h).toNat, 1) ∧ (g[pos]'h).toNat < 128) ∨ (128 ≤ (Utf8.decode g pos).1 ∧ 1 ≤ (Utf8.decode g pos).2 ∧ 128 ≤ (g[pos]'h).toNat) := by
  by_cases ha : (g[pos]'h).toNat < 128
  · exact .inl ⟨decode_ascii g pos h ha, ha⟩
  · exact .inr ⟨(decode_high g pos h (by omega)).1, (decode_high g pos h (by omega)).2, by omega⟩
theorem Sofar.step {p : UInt8 → Bool} {g : ByteArray} {pos : Nat} (h : Sofar p g pos) (hp : pos < g.size) (hb : p (g[pos]'hp) = true) : Sofar p g (pos + 1) := by
  intro j hj hlt
  by_cases e : j = pos
  · subst e; rw [bs_at g j hp hj]; exact hb
  · exact h j hj (by omega)
theorem Sofar.fail {p : UInt8 → Bool} {g : ByteArray} {pos : Nat} (hp : pos < g.size) (hb : p (g[pos]'hp) = false) : ¬ ∀ b ∈ bs g, p b = true := by
  intro h
  have hj : pos < (bs g).length := by rw [bs_len]; exact hp
  have := h _ (List.getElem_mem hj)
  rw [bs_at g pos hp hj, hb] at this
  cases this
def Res (ok : Prop) (e : Ending) : Prop := (ok ∧ e = .returned .nilIface) ∨ (¬ ok ∧ IsErr e)

/-- A row of strings, element by element. -/
theorem str_at {w w1 : World} {A : Option Addr} {n : Nat} {xs : List ByteArray} (h : Kd.string.C w A n xs) (hb : Below w.heap.size w w1) (i : Nat) (hi : i < n) :
    ∃ ad, A = some ad ∧ w1.cell? (ad.add i) = some (.string (xs.getD i ⟨#[]⟩)) := by
  obtain ⟨ad, c, e, hl, hk, hc⟩ := Kd.C_get (Kd.C_below h hb) ⟨#[]⟩ (i : Int) (by omega) (by omega)
  refine ⟨ad, e, ?_⟩
  have hk' : c = [Value.string (xs.getD i ⟨#[]⟩)] := by simpa [Kd.string, Kd.scalar] using hk
  subst hk'
  have := hc 0 _ rfl
  simpa [Kd.string, Kd.scalar] using this

/-- A bool that says whether. -/
def Says (ok : Prop) (e : Ending) : Prop := ∃ b : Bool, e = .returned (.bool b) ∧ (b = true ↔ ok)


/-! ### worlds at a walk's end -/
theorem fin0 {B : Nat} {w wr w' : World} (h0 : Below B w wr) (h1 : B ≤ wr.heap.size) (hb : Below wr.heap.size wr w') : Below B w w' := h0.trans (hb.mono h1)
theorem fin1 {B : Nat} {w wr w' : World} {o : Obj} (h0 : Below B w wr) (h1 : B ≤ wr.heap.size) (hb : Below (wr.alloc o).heap.size (wr.alloc o) w') : Below B w w' :=
  (h0.alloc h1 o).trans (hb.mono (by simp; omega))
theorem resErr {ok : Prop} {T : TypeId} {a : Addr} (h : ¬ ok) : Res ok (.returned (.iface T (.pointer (some a)))) := .inr ⟨h, T, a, rfl⟩
theorem resOk {ok : Prop} (h : ok) : Res ok (.returned .nilIface) := .inl ⟨h, rfl⟩
theorem Res.congr {p q : Prop} {e : Ending} (h : p ↔ q) (r : Res p e) : Res q e := by unfold Res at *; rw [← h]; exact r

/-- A range over a string whose runes are all of a kind of bytes below 128: p of bytes, q of runes. -/
structure Kind (p : UInt8 → Bool) (q : Nat → Prop) : Prop where
  iff : ∀ b : UInt8, p b = true ↔ q b.toNat
  low : ∀ r, 128 ≤ r → ¬ q r
theorem Kind.step {p : UInt8 → Bool} {q : Nat → Prop} (K : Kind p q) {g : ByteArray} {pos : Nat} (hp : pos < g.size) (hr : q (Utf8.decode g pos).1) (h : Sofar p g pos) : (Utf8.decode g pos).2 = 1 ∧ Sofar p g (pos + (Utf8.decode g pos).2) := by
  rcases decode_cases g pos hp with ⟨e, _⟩ | ⟨h1, _, _⟩
  · rw [e] at hr ⊢
    exact ⟨rfl, h.step hp ((K.iff _).2 hr)⟩
  · exact absurd hr (K.low _ h1)
theorem Kind.fail {p : UInt8 → Bool} {q : Nat → Prop} (K : Kind p q) {g : ByteArray} {pos : Nat} (hp : pos < g.size) (hr : ¬ q (Utf8.decode g pos).1) : ¬ ∀ b ∈ bs g, p b = true := by
  apply Sofar.fail hp
  rcases decode_cases g pos hp with ⟨e, _⟩ | ⟨_, _, h2⟩
  · rw [e] at hr
    exact Bool.eq_false_iff.2 (fun h => hr ((K.iff _).1 h))
  · exact Bool.eq_false_iff.2 (fun h => K.low _ h2 ((K.iff _).1 h))
/-- The iterator's part of a loop's relation: where it stands, what has been seen, what has not turned. -/
def Iter (p : UInt8 → Bool) (g : ByteArray) (k B : Nat) (w wi : World) : Prop := ∃ pos : Nat, wi.heap[k]? = some (.stringIter g pos) ∧ Sofar p g pos ∧ Below B w wi
theorem Iter.start {p : UInt8 → Bool} {g : ByteArray} {B : Nat} {w wr : World} (h0 : Below B w wr) (h1 : B ≤ wr.heap.size) : Iter p g wr.heap.size B w (wr.iter g 0) :=
  ⟨0, World.iter_heap wr g 0, Sofar.zero _ _, h0.alloc h1 _⟩

/-- A range over a string whose runes are all of a kind. -/
theorem getD_bs {gs : List ByteArray} {ls : List (List UInt8)} (h : gs.map bs = ls) (i : Nat) : ls.getD i [] = bs (gs.getD i ⟨#[]⟩) := by
  rw [← h]
  simp only [List.getD_eq_getElem?_getD, List.getElem?_map]
  cases gs[i]? <;> rfl
theorem mem_getD {α : Type} {l : List α} {d x : α} : x ∈ l ↔ ∃ i, i < l.length ∧ l.getD i d = x := by
  constructor
  · intro h
    obtain ⟨i, hi, rfl⟩ := List.getElem_of_mem h
    exact ⟨i, hi, by rw [List.getD_eq_getElem?_getD, List.getElem?_eq_getElem hi]; rfl⟩
  · rintro ⟨i, hi, rfl⟩
    rw [List.getD_eq_getElem?_getD, List.getElem?_eq_getElem hi]
    exact List.getElem_mem hi
theorem all_split {gs : List ByteArray} {ls : List (List UInt8)} (h : gs.map bs = ls) (P : List UInt8 → Prop) : (∀ g ∈ ls, P g) ↔ ∀ i, i < gs.length → P (bs (gs.getD i ⟨#[]⟩)) := by
  have hl : ls.length = gs.length := by rw [← h, List.length_map]
  constructor
  · intro hh i hi
    rw [← getD_bs h]
    exact hh _ (mem_getD.2 ⟨i, by omega, rfl⟩)
  · intro hh g hg
    obtain ⟨i, hi, rfl⟩ := mem_getD (d := []).1 hg
    rw [getD_bs h]
    exact hh i (by omega)
end Go.Proofs.YtfnnahopbghndaaDoor.Fmt
