/- Arguments laid open: what a type's cells read as, by the kinds of the printed words. -/
import Derived.Test.YtamajbaojbghcaaWWords
import Derived.Test.YtamajbaojbghcaaWLast
import Derived.Deep.Slices
import Derived.Deep.Fields
import Derived.ChangeArms
import Derived.Below
import Derived.SizedLaws
namespace Go.Proofs.Ytamajbaojbghcaa.Op
open Go.RowKit Go.Proofs.YtamajbaojbghcaaW.PrintWords
set_option linter.unusedVariables false
set_option linter.unusedSimpArgs false

theorem all_of {H : Type} {P : Program} {e : TypeId} {d : DataW H} : ∀ {l : List (DataW H)}, d ∈ l → ∀ m ∈ d.weights P e, m ∈ DataW.weightsAll P e l
  | y :: l, h, m, hm => by
    rw [DataW.weightsAll]
    rcases List.mem_cons.1 h with rfl | h
    · exact List.mem_append_left _ hm
    · exact List.mem_append_right _ (all_of h m hm)
theorem each_of {H : Type} {P : Program} {e : TypeId} {d : DataW H} : ∀ {ts : List TypeId} {l : List (DataW H)} {i : Nat}, ts[i]? = some e → l[i]? = some d → ∀ m ∈ d.weights P e, m ∈ DataW.weightsEach P ts l
  | t :: ts, y :: l, 0, h1, h2, m, hm => by
    simp at h1 h2
    subst h1 h2
    rw [DataW.weightsEach]
    exact List.mem_append_left _ hm
  | t :: ts, y :: l, i + 1, h1, h2, m, hm => by
    rw [DataW.weightsEach]
    exact List.mem_append_right _ (each_of (by simpa using h1) (by simpa using h2) m hm)
  | [], _, i, h1, _, _, _ => by simp at h1
  | _ :: _, [], i, _, h2, _, _ => by simp at h2
theorem of_all {H : Type} {P : Program} {ts : List TypeId} {ds : List (DataW H)} (h : (DataW.weightsEach P ts ds).all (· ≤ reachBytes) = true) {i : Nat} {e : TypeId} {d : DataW H} (h1 : ts[i]? = some e) (h2 : ds[i]? = some d) : ∀ m ∈ d.weights P e, m ≤ 140737488351232 :=
  fun m hm => of_decide_eq_true ((List.all_eq_true.1 h) m (each_of h1 h2 m hm))
/-- What a type's cells read as, with so much fuel. -/
def Fu {α : Type} (P : Program) (d : Kd α) (wf : α → Prop) (t : TypeId) (f : Nat) : Prop :=
  ∀ (H : Type) (enc : TypeId × Value → H) (w : World) (base : Nat) (spare : Nat → Bool) (held : Bool) (cs : List Value) (x : DataW H × List MemPlace), DataW.trod enc P w base spare held f t cs = some x → (∀ m ∈ x.1.weights P t, m ≤ 140737488351232) → ∃ a, d.K w a cs ∧ wf a
theorem Fu.get {α : Type} {P : Program} {d : Kd α} {wf : α → Prop} {t : TypeId} {f : Nat} (h : Fu P d wf t f) {H : Type} {enc : TypeId × Value → H} {w : World} {base : Nat} {spare : Nat → Bool} {held : Bool} {cs : List Value} {x : DataW H × List MemPlace} (hx : DataW.trod enc P w base spare held f t cs = some x) (hw : ∀ m ∈ x.1.weights P t, m ≤ 140737488351232) : ∃ a, d.K w a cs ∧ wf a := h H enc w base spare held cs x hx hw
def WI (k : IntKind) (n : Int) : Prop := (Lit.int k n).wf = true
def WS (s : ByteArray) : Prop := s.size ≤ 140737488351232
def WB (b : Bool) : Prop := True
def WL {α : Type} (B : Nat) (wf : α → Prop) (l : List α) : Prop := l.length * B ≤ 140737488351232 ∧ ∀ x ∈ l, wf x
section
variable {P : Program} {t e : TypeId} {f : Nat}
theorem fu_int {k : IntKind} (ht : P.underlying t = some (.int k)) : Fu P (Kd.int k) (WI k) t f := by
  intro H enc w base spare held cs x h _
  obtain ⟨n, rfl, _, hw⟩ := DataW.trod_int ht h
  exact ⟨n, rfl, hw⟩
theorem fu_bool (ht : P.underlying t = some .bool) : Fu P Kd.bool WB t f := by
  intro H enc w base spare held cs x h _
  obtain ⟨n, rfl, _⟩ := DataW.trod_bool ht h
  exact ⟨n, rfl, trivial⟩
theorem fu_string (ht : P.underlying t = some .string) : Fu P Kd.string WS t f := by
  intro H enc w base spare held cs x h hwt
  obtain ⟨n, rfl, rfl, hw⟩ := DataW.trod_string ht h
  refine ⟨n, rfl, ?_⟩
  have := hwt n.data.toList.length (by simp [DataW.weights])
  rw [Array.length_toList] at this
  exact this
theorem row_of {α : Type} (d : Kd α) (wf : α → Prop) {w : World} {a : Addr} {n : Nat} (hn : n ≤ maxLen) (h : ∀ i, i < n → ∃ y, wf y ∧ ∃ c, c.length = d.sz ∧ d.K w y c ∧ ∀ j u, c[j]? = some u → w.cell? (a.add (i * d.sz + j)) = some u) :
    ∃ l : List α, l.length = n ∧ d.C w (some a) n l ∧ ∀ y ∈ l, wf y := by
  classical
  refine ⟨List.ofFn fun i : Fin n => (h i.1 i.2).choose, by simp, ⟨by simp, by unfold maxLen at hn; omega, fun hp => ⟨a, rfl, fun j p hp => ?_⟩⟩, fun y hy => ?_⟩
  · obtain ⟨hj, rfl⟩ := List.getElem?_eq_some_iff.1 hp
    simp only [List.length_ofFn] at hj
    rw [List.getElem_ofFn]
    exact (h j hj).choose_spec.2
  · obtain ⟨i, rfl⟩ := (List.mem_ofFn ..).1 hy
    exact (h i.1 i.2).choose_spec.1
theorem fu_slice {α : Type} {d : Kd α} {wf : α → Prop} {B : Nat} (ht : P.underlying t = some (.slice e)) (hs : P.cellsOf e = d.sz) (hB : P.bytesOf e = B) (he : ∀ n, n < f → Fu P d wf e n) : Fu P (Kd.slice e d) (WL B wf) t f := by
  intro H enc w base spare held cs x h hwt
  rcases DataW.trod_slice ht h with ⟨rfl, _⟩ | ⟨a, len, cap, elems, rest, n, rfl, rfl, rfl, _, hl, hm, hlen, hel, _, _⟩
  · exact ⟨[], ⟨none, 0, rfl, Nat.le_refl _, Kd.C_nil _ _⟩, by simp, by simp⟩
  · have hw0 : (elems.length + rest.length) * B ≤ 140737488351232 := hwt _ (by rw [DataW.weights, ht]; simp [hB])
    have hwe : ∀ y ∈ elems, ∀ m ∈ y.1.weights P e, m ≤ 140737488351232 := fun y hy m hm => hwt m (by
      rw [DataW.weights, ht]
      exact List.mem_cons_of_mem _ (List.mem_append_left _ (all_of (List.mem_map.2 ⟨y, hy, rfl⟩) m hm)))
    obtain ⟨l, h1, h2, h3⟩ := row_of d wf (w := w) (a := a) (n := len) (by omega) fun i hi => by
      have hx := hel i hi
      rw [List.getElem?_eq_getElem (by omega)] at hx
      obtain ⟨c, hc, htr⟩ := Option.bind_eq_some_iff.1 hx
      rw [hs] at hc
      obtain ⟨_, hcl, hat⟩ := World.cells?_some hc
      obtain ⟨y, hy, hw⟩ := he n (by omega) H enc w base spare held c _ htr (hwe _ (List.getElem_mem _))
      refine ⟨y, hw, c, hcl, hy, fun j u hu => ?_⟩
      have hj : j < d.sz := by rw [← hcl]; exact (List.getElem?_eq_some_iff.1 hu).1
      rw [← Go.Deep.add_add, hat j hj, hu]
    subst h1
    refine ⟨l, ⟨some a, cap, rfl, hl, h2⟩, ⟨?_, h3⟩⟩
    have : l.length * B ≤ (elems.length + rest.length) * B := Nat.mul_le_mul_right _ (by omega)
    omega
/-- A field, out of what a struct's fields read as. -/
theorem field {α : Type} {d : Kd α} {wf : α → Prop} {fs : Array Field} {H : Type} {enc : TypeId × Value → H} {w : World} {base : Nat} {spare : Nat → Bool} {held : Bool} {n : Nat} {cs : List Value} {xs : List (DataW H × List MemPlace)} (ht : P.underlying t = some (.struct fs)) (hwt : ∀ m ∈ (DataW.agg (xs.map (·.1))).weights P t, m ≤ 140737488351232) (hxl : xs.length = fs.size)
    (hg : ∀ (i : Nat) (f : Field), fs[i]? = some f → DataW.trod enc P w base spare held n f.type ((cs.drop f.offset).take (P.cellsOf f.type)) = xs[i]?) (i : Nat) (fd : Field) (hi : fs[i]? = some fd) {ty o s : Nat} (h1 : fd.type = ty) (h2 : fd.offset = o) (h3 : P.cellsOf ty = s) (hf : Fu P d wf ty n) :
    ∃ a, d.K w a ((cs.drop o).take s) ∧ wf a := by
  have h := hg i fd hi
  obtain ⟨hlt, _⟩ := Array.getElem?_eq_some_iff.1 hi
  have hx := List.getElem?_eq_getElem (l := xs) (i := i) (by omega)
  rw [hx] at h
  subst h1 h2 h3
  refine hf H enc w base spare held _ _ h fun m hm => hwt m ?_
  rw [DataW.weights, ht]
  exact each_of (i := i) (by rw [List.getElem?_map, ← Array.getElem?_toList] at *; simp [hi]) (by rw [List.getElem?_map, hx]; rfl) m hm
theorem pair_at {α β : Type} {d0 : Kd α} {d1 : Kd β} {w : World} {x : α} {y : β} {cs : List Value} {o s o' : Nat} (h0 : d0.K w x ((cs.drop o).take s)) (h1 : d1.K w y (cs.drop o')) (ho : o + s = o') : (Kd.pair d0 d1).K w (x, y) (cs.drop o) :=
  ⟨_, _, by rw [← ho, ← List.drop_drop, List.take_append_drop], h0, h1⟩
theorem last_at {α : Type} {d : Kd α} {w : World} {x : α} {cs : List Value} {o s : Nat} (h : d.K w x ((cs.drop o).take s)) (hl : cs.length = o + s) : d.K w x (cs.drop o) := by
  rwa [List.take_of_length_le (by rw [List.length_drop]; omega)] at h
end
end Go.Proofs.Ytamajbaojbghcaa.Op
