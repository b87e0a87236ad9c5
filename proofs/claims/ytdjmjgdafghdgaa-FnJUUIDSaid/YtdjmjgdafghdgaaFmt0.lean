/- What the walks of the formats share: errors, rows of strings, ranges over a string. -/
import Derived.Test.YtdjmjgdafghdgaaPFnJUUIDx1
import Derived.Test.YtdjmjgdafghdgaaK
import Derived.Lib.OthersKept
import Derived.WalkSpells
import Derived.Lib.Hide
import Derived.WalkLawsBesides
namespace Go.Proofs.Ytdjmjgdafghdgaa.Fmt
open Go.RowKit Go.Proofs.YtdjmjgdafghdgaaW.PrintWords Go.Proofs.YtdjmjgdafghdgaaW.PrintLast Go.Proofs.YtdjmjgdafghdgaaW.PrintMore Go.Proofs.Ytdjmjgdafghdgaa.K
set_option linter.unusedVariables false
set_option linter.unusedSimpArgs false

/-- An error that is one. -/
def IsErr (e : Ending) : Prop := ∃ T a, e = .returned (.iface T (.pointer (some a)))

theorem errNew (f : ByteArray) (w : World) : Calls Try.prog 82 #[.string f] w fun e w' => IsErr e ∧ Below w.heap.size w w' := by
  go_enter Try.func82, Try.ntmps82
  go_wp2
  go_ret
  exact ⟨⟨_, _, rfl⟩, (Below.refl _ _).alloc (Nat.le_refl _) _⟩

theorem locErr (f : ByteArray) (v : Value) (w : World) : Calls Try.prog 72 #[.string f, v] w fun e w' => IsErr e ∧ Below w.heap.size w w' := by
  go_enter Try.func72, Try.ntmps72
  go_wp2_with (go_at_call 82; refine (errNew _ _).mono ?_; rintro e w' ⟨⟨T, a, rfl⟩, hb⟩)
  go_ret
  exact ⟨⟨_, _, rfl⟩, hb⟩
theorem asStr (s : ByteArray) (w : World) : (Instr.typeAssert (.iface 9 (.string s)) 20 9 true).run Try.prog w = .ok (.tuple #[.string s, .bool true]) w := by
  kernel_rfl
theorem heap_new (w : World) (o : Obj) : (w.alloc o).heap[w.heap.size]? = some o := by
  show (w.heap.push o)[w.heap.size]? = _
  simp
theorem cell_new (w : World) (cs : Array Value) (t : TypeId) (j : Nat) : (w.alloc (.cells cs t)).cell? ⟨w.heap.size, j, none⟩ = cs[j]? := blk_cell (heap_new w _) j
theorem cell_kept {w w1 : World} {cs : Array Value} {t : TypeId} (hb : Below (w.alloc (.cells cs t)).heap.size (w.alloc (.cells cs t)) w1) (j : Nat) : w1.cell? ⟨w.heap.size, j, none⟩ = cs[j]? := by
  rw [hb.cell (p := ⟨w.heap.size, j, none⟩) (by simp), cell_new]

/-! ### a range over a string: every byte below the place is of a kind -/
/-- From a place on: each byte of g is of kind p. -/
def Sofar (p : UInt8 → Bool) (g : ByteArray) (pos : Nat) : Prop := ∀ j, (_h : j < (bs g).length) → j < pos → p ((bs g)[j]) = true
theorem Sofar.zero (p : UInt8 → Bool) (g : ByteArray) : Sofar p g 0 := fun _ _ h => by omega
theorem Sofar.all {p : UInt8 → Bool} {g : ByteArray} {pos : Nat} (h : Sofar p g pos) (hp : ¬ pos < g.size) : ∀ b ∈ bs g, p b = true := by
  intro b hb
  obtain ⟨i, hi, rfl⟩ := List.getElem_of_mem hb
  exact h i hi (by have := bs_len g; omega)
theorem bs_at (g : ByteArray) (pos : Nat) (h : pos < g.size) (h' : pos < (bs g).length) : (bs g)[pos]'h' = g[pos]'h := by
  simp [bs, Array.getElem_toList]
  rfl
/-- The rune at a place, where the kind is one of bytes below 128. -/
theorem decode_cases (g : ByteArray) (pos : Nat) (h : pos < g.size) :
    ((Utf8.decode g pos) = ((g[pos]'h).toNat, 1) ∧ (g[pos]'h).toNat < 128) ∨ (128 ≤ (Utf8.decode g pos).1 ∧ 1 ≤ (Utf8.decode g pos).2 ∧ 128 ≤ (g[pos]'h).toNat) := by
  by_cases ha : (g[pos]'h).toNat < 128
  · exact .inl ⟨decode_ascii g pos h ha, ha⟩
  · exact .inr ⟨(decode_high g pos h (by omega)).1, (decode_high g pos h (by omega)).2, by omega⟩
theorem Sofar.step {p : UInt8 → Bool} {g : ByteArray} {pos : Nat} (h : Sofar p g pos) (hp : pos < g.size) (hb : p (g[pos]'hp) = true) : Sofar p g (pos + 1) := by
  intro j hj hlt
  by_cases e : j = pos
  · subst e; rw [bs_at g j hp hj]; exact hb
  · exact h j hj (by omega)
theorem Sofar.fail {p : UInt8 → Bool} {g : ByteArray} {pos : Nat} (hp : pos < g.size) (hb : p (g[pos]'hp) = false) : ¬ ∀ b ∈ bs g, p b = true := by
  intro h
  have hj : pos < (bs g).length := by rw [bs_len]; exact hp
  have := h _ (List.getElem_mem hj)
  rw [bs_at g pos hp hj, hb] at this
  cases this
def Res (ok : Prop) (e : Ending) : Prop := (ok ∧ e = .returned .nilIface) ∨ (¬ ok ∧ IsErr e)

/-- A row of strings, element by element. -/
theorem str_at {w w1 : World} {A : Option Addr} {n : Nat} {xs : List ByteArray} (h : Kd.string.C w A n xs) (hb : Below w.heap.size w w1) (i : Nat) (hi : i < n) :
    ∃ ad, A = some ad ∧ w1.cell? (ad.add i) = some (.string (xs.getD i ⟨#[]⟩)) := by
  obtain ⟨ad, c, e, hl, hk, hc⟩ := Kd.C_get (Kd.C_below h hb) ⟨#[]⟩ (i : Int) (by omega) (by omega)
  refine ⟨ad, e, ?_⟩
  have hk' : c = [Value.string (xs.getD i ⟨#[]⟩)] := by simpa [Kd.string, Kd.scalar] using hk
  subst hk'
  have := hc 0 _ rfl
  simpa [Kd.string, Kd.scalar] using this

/-- A bool that says whether. -/
def Says (ok : Prop) (e : Ending) : Prop := ∃ b : Bool, e = .returned (.bool b) ∧ (b = true ↔ ok)

end Go.Proofs.Ytdjmjgdafghdgaa.Fmt
