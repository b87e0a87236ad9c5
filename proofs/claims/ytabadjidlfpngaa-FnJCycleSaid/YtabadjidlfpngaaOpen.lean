/- Arguments laid open: what a type's cells read as, by the kinds of the printed words. -/
import Derived.Test.YtabadjidlfpngaaWWords
import Derived.Test.YtabadjidlfpngaaWLast
import Derived.Deep.Slices
import Derived.Deep.Fields
import Derived.ChangeArms
import Derived.Below
namespace Go.Proofs.Ytabadjidlfpngaa.Op
open Go.RowKit Go.Proofs.YtabadjidlfpngaaW.PrintWords
set_option linter.unusedVariables false
set_option linter.unusedSimpArgs false

/-- What a type's cells read as, with so much fuel. -/
def Fu {α : Type} (P : Program) (d : Kd α) (wf : α → Prop) (t : TypeId) (f : Nat) : Prop :=
  ∀ (H : Type) (enc : TypeId × Value → H) (w : World) (base : Nat) (spare : Nat → Bool) (held : Bool) (cs : List Value) (x : DataW H × List MemPlace), DataW.trod enc P w base spare held f t cs = some x → ∃ a, d.K w a cs ∧ wf a
theorem Fu.get {α : Type} {P : Program} {d : Kd α} {wf : α → Prop} {t : TypeId} {f : Nat} (h : Fu P d wf t f) {H : Type} {enc : TypeId × Value → H} {w : World} {base : Nat} {spare : Nat → Bool} {held : Bool} {cs : List Value} {x : DataW H × List MemPlace} (hx : DataW.trod enc P w base spare held f t cs = some x) : ∃ a, d.K w a cs ∧ wf a := h H enc w base spare held cs x hx
def WI (k : IntKind) (n : Int) : Prop := (Lit.int k n).wf = true
def WS (s : ByteArray) : Prop := s.size ≤ maxLen
def WB (b : Bool) : Prop := True
def WL {α : Type} (wf : α → Prop) (l : List α) : Prop := l.length ≤ maxLen ∧ ∀ x ∈ l, wf x
section
variable {P : Program} {t e : TypeId} {f : Nat}
theorem fu_int {k : IntKind} (ht : P.underlying t = some (.int k)) : Fu P (Kd.int k) (WI k) t f := by
  intro H enc w base spare held cs x h
  obtain ⟨n, rfl, _, hw⟩ := DataW.trod_int ht h
  exact ⟨n, rfl, hw⟩
theorem fu_bool (ht : P.underlying t = some .bool) : Fu P Kd.bool WB t f := by
  intro H enc w base spare held cs x h
  obtain ⟨n, rfl, _⟩ := DataW.trod_bool ht h
  exact ⟨n, rfl, trivial⟩
theorem fu_string (ht : P.underlying t = some .string) : Fu P Kd.string WS t f := by
  intro H enc w base spare held cs x h
  obtain ⟨n, rfl, _, hw⟩ := DataW.trod_string ht h
  exact ⟨n, rfl, hw⟩
theorem row_of {α : Type} (d : Kd α) (wf : α → Prop) {w : World} {a : Addr} {n : Nat} (hn : n ≤ maxLen) (h : ∀ i, i < n → ∃ y, wf y ∧ ∃ c, c.length = d.sz ∧ d.K w y c ∧ ∀ j u, c[j]? = some u → w.cell? (a.add (i * d.sz + j)) = some u) :
    ∃ l : List α, l.length = n ∧ d.C w (some a) n l ∧ ∀ y ∈ l, wf y := by
  classical
  refine ⟨List.ofFn fun i : Fin n => (h i.1 i.2).choose, by simp, ⟨by simp, by unfold maxLen at hn; omega, fun hp => ⟨a, rfl, fun j p hp => ?_⟩⟩, fun y hy => ?_⟩
  · obtain ⟨hj, rfl⟩ := List.getElem?_eq_some_iff.1 hp
    simp only [List.length_ofFn] at hj
    rw [List.getElem_ofFn]
    exact (h j hj).choose_spec.2
  · obtain ⟨i, rfl⟩ := (List.mem_ofFn ..).1 hy
    exact (h i.1 i.2).choose_spec.1
theorem fu_slice {α : Type} {d : Kd α} {wf : α → Prop} (ht : P.underlying t = some (.slice e)) (hs : P.cellsOf e = d.sz) (he : ∀ n, n < f → Fu P d wf e n) : Fu P (Kd.slice e d) (WL wf) t f := by
  intro H enc w base spare held cs x h
  rcases DataW.trod_slice ht h with ⟨rfl, _⟩ | ⟨a, len, cap, elems, rest, n, rfl, rfl, _, _, hl, hm, hlen, hel, _, _⟩
  · exact ⟨[], ⟨none, 0, rfl, Nat.le_refl _, Kd.C_nil _ _⟩, by simp [maxLen], by simp⟩
  · obtain ⟨l, h1, h2, h3⟩ := row_of d wf (w := w) (a := a) (n := len) (by omega) fun i hi => by
      have hx := hel i hi
      rw [List.getElem?_eq_getElem (by omega)] at hx
      obtain ⟨c, hc, htr⟩ := Option.bind_eq_some_iff.1 hx
      rw [hs] at hc
      obtain ⟨_, hcl, hat⟩ := World.cells?_some hc
      obtain ⟨y, hy, hw⟩ := he n (by omega) H enc w base spare held c _ htr
      refine ⟨y, hw, c, hcl, hy, fun j u hu => ?_⟩
      have hj : j < d.sz := by rw [← hcl]; exact (List.getElem?_eq_some_iff.1 hu).1
      rw [← Go.Deep.add_add, hat j hj, hu]
    subst h1
    exact ⟨l, ⟨some a, cap, rfl, hl, h2⟩, ⟨by omega, h3⟩⟩
/-- A field, out of what a struct's fields read as. -/
theorem field {α : Type} {d : Kd α} {wf : α → Prop} {fs : Array Field} {H : Type} {enc : TypeId × Value → H} {w : World} {base : Nat} {spare : Nat → Bool} {held : Bool} {n : Nat} {cs : List Value} {xs : List (DataW H × List MemPlace)} (hxl : xs.length = fs.size)
    (hg : ∀ (i : Nat) (f : Field), fs[i]? = some f → DataW.trod enc P w base spare held n f.type ((cs.drop f.offset).take (P.cellsOf f.type)) = xs[i]?) (i : Nat) (fd : Field) (hi : fs[i]? = some fd) {ty o s : Nat} (h1 : fd.type = ty) (h2 : fd.offset = o) (h3 : P.cellsOf ty = s) (hf : Fu P d wf ty n) :
    ∃ a, d.K w a ((cs.drop o).take s) ∧ wf a := by
  have h := hg i fd hi
  obtain ⟨hlt, _⟩ := Array.getElem?_eq_some_iff.1 hi
  rw [List.getElem?_eq_getElem (by omega)] at h
  subst h1 h2 h3
  exact hf H enc w base spare held _ _ h
theorem pair_at {α β : Type} {d0 : Kd α} {d1 : Kd β} {w : World} {x : α} {y : β} {cs : List Value} {o s o' : Nat} (h0 : d0.K w x ((cs.drop o).take s)) (h1 : d1.K w y (cs.drop o')) (ho : o + s = o') : (Kd.pair d0 d1).K w (x, y) (cs.drop o) :=
  ⟨_, _, by rw [← ho, ← List.drop_drop, List.take_append_drop], h0, h1⟩
theorem last_at {α : Type} {d : Kd α} {w : World} {x : α} {cs : List Value} {o s : Nat} (h : d.K w x ((cs.drop o).take s)) (hl : cs.length = o + s) : d.K w x (cs.drop o) := by
  rwa [List.take_of_length_le (by rw [List.length_drop]; omega)] at h
end
end Go.Proofs.Ytabadjidlfpngaa.Op
