/- JSON values: what data a JValue is, and how an 'any' in memory reads as such data. -/
import Derived.Test.YtdleegmdpgefmaaOPJ
import Derived.Test.YtdleegmdpgefmaaK
import Derived.Maps.Ext
import Derived.Maps.OwnSet
import Derived.Maps.RangeWalk
import Derived.Lib.Hide
namespace Go.Proofs.Ytdleegmdpgefmaa.J
open Go.RowKit Go.Proofs.YtdleegmdpgefmaaW.PrintWords Go.Proofs.YtdleegmdpgefmaaW.PrintLast Go.Proofs.YtdleegmdpgefmaaW.PrintMore Go.Proofs.Ytdleegmdpgefmaa.PJ Go.Proofs.Ytdleegmdpgefmaa.K Go.Maps
set_option linter.unusedVariables false
set_option linter.unusedSimpArgs false

abbrev JV := S25
abbrev kJ : Kd JV := k25
abbrev D0 := DataW Unit

/-! ### rising maps -/
theorem rise_insert {H : Type} (x : Lit × DataW H) : ∀ l : List (Lit × DataW H), l.Pairwise (fun p q => p.1.before q.1 = true) → (∀ p ∈ l, p.1.before x.1 = true ∨ x.1.before p.1 = true) → (DataW.insert x l).Pairwise (fun p q => p.1.before q.1 = true)
  | [], _, _ => by simp [DataW.insert]
  | y :: r, h, ht => by
    obtain ⟨h1, h2⟩ := List.pairwise_cons.1 h
    unfold DataW.insert
    by_cases hb : x.1.before y.1 = true
    · rw [if_pos hb]
      refine List.pairwise_cons.2 ⟨fun q hq => ?_, h⟩
      rcases List.mem_cons.1 hq with rfl | hq
      · exact hb
      · exact WideShapes.before_trans hb (h1 q hq)
    · rw [if_neg hb]
      refine List.pairwise_cons.2 ⟨fun q hq => ?_, rise_insert x r h2 fun p hp => ht p (List.mem_cons_of_mem _ hp)⟩
      rcases (List.mem_cons.1 ((WideShapes.insert_perm x r).mem_iff.1 hq)) with rfl | hq
      · rcases ht y (by simp) with h | h
        · exact h
        · exact absurd h hb
      · exact h1 q hq
/-- Rising, all keys strings. -/
def CanonS {H : Type} (D : DataW H) : Prop := ∃ es, D = .map es ∧ es.Pairwise (fun p q => p.1.before q.1 = true) ∧ ∀ p ∈ es, ∃ s, p.1 = .string s
theorem CanonS.canon {H : Type} {D : DataW H} (h : CanonS D) : Canon D := by
  obtain ⟨es, rfl, h1, h2⟩ := h
  exact ⟨es, rfl, h1, fun p hp => by obtain ⟨s, e⟩ := h2 p hp; rw [e]; trivial⟩
theorem CanonS.isMap {H : Type} {D : DataW H} (h : CanonS D) : IsMap D := by
  obtain ⟨es, rfl, _⟩ := h; exact ⟨es, rfl⟩
theorem CanonS.tidy {H : Type} {D : DataW H} (h : CanonS D) : Tidy D := by
  obtain ⟨es, rfl, h1, _⟩ := h; exact ⟨es, rfl, apart_of_rising h1⟩
theorem canonS_empty {H : Type} : CanonS (.map [] : DataW H) := ⟨[], rfl, List.Pairwise.nil, by simp⟩
theorem CanonS.put {H : Type} {D : DataW H} (h : CanonS D) (k : List UInt8) (d : DataW H) : CanonS (D.put (.string k) d) := by
  obtain ⟨es, rfl, h1, h2⟩ := h
  refine ⟨_, rfl, rise_insert _ _ (h1.filter _) fun p hp => ?_, fun p hp => ?_⟩
  · obtain ⟨hp1, hp2⟩ := List.mem_filter.1 hp
    obtain ⟨s, e⟩ := h2 p hp1
    refine ChangeMaps.before_total ⟨s, e⟩ ⟨k, rfl⟩ fun he => ?_
    rw [he] at hp2
    simp [Lit.sameKey] at hp2
  · rcases List.mem_cons.1 ((WideShapes.insert_perm _ _).mem_iff.1 hp) with rfl | hp
    · exact ⟨k, rfl⟩
    · exact h2 p (List.mem_filter.1 hp).1

/-! ### what data a JValue is -/
/-- A member more. -/
def putM (D : D0) (p : ByteArray × D0) : D0 := D.put (.string (bs p.1)) p.2
def objD (ms : List (ByteArray × D0)) : D0 := ms.foldl putM (.map [])
theorem objD_snoc (ms : List (ByteArray × D0)) (p : ByteArray × D0) : objD (ms ++ [p]) = putM (objD ms) p := by simp [objD]
theorem fold_canon : ∀ (ms : List (ByteArray × D0)) (D : D0), CanonS D → CanonS (ms.foldl putM D)
  | [], _, h => h
  | p :: ms, D, h => fold_canon ms _ (h.put _ _)
theorem objD_canon (ms : List (ByteArray × D0)) : CanonS (objD ms) := fold_canon ms _ canonS_empty
def toD : Nat → JV → D0
  | 0, _ => .nil
  | n + 1, x => if x.f0 = 1 then .lit (.bool x.f1) else if x.f0 = 2 then .lit (.int .i64 x.f2) else if x.f0 = 3 then .lit (.string (bs x.f3)) else if x.f0 = 4 then .slice (x.f5.map (toD n)) [] else if x.f0 = 5 then objD (x.f4.zip (x.f5.map (toD n))) else .nil
/-- Proper, and at most so deep. -/
inductive Dp : Nat → JV → Prop
  | mk (n : Nat) (x : JV) : 0 ≤ x.f0 → x.f0 ≤ 5 → (x.f0 = 5 → x.f4.length = x.f5.length) → (∀ y ∈ x.f5, Dp n y) → Dp (n + 1) x
theorem Dp.inv {n : Nat} {x : JV} (h : Dp (n + 1) x) : 0 ≤ x.f0 ∧ x.f0 ≤ 5 ∧ (x.f0 = 5 → x.f4.length = x.f5.length) ∧ ∀ y ∈ x.f5, Dp n y := by
  cases h with
  | mk _ _ h1 h2 h3 h4 => exact ⟨h1, h2, h3, h4⟩
theorem Dp.pos {n : Nat} {x : JV} (h : Dp n x) : ∃ m, n = m + 1 := by
  cases h with
  | mk m => exact ⟨m, rfl⟩
theorem Dp.succ {n : Nat} : ∀ {x : JV}, Dp n x → Dp (n + 1) x := by
  induction n with
  | zero => intro x h; obtain ⟨m, e⟩ := h.pos; omega
  | succ n ih =>
    intro x h
    obtain ⟨h1, h2, h3, h4⟩ := h.inv
    exact Dp.mk _ _ h1 h2 h3 fun y hy => ih (h4 y hy)
theorem Dp.le {n m : Nat} {x : JV} (h : Dp n x) (hnm : n ≤ m) : Dp m x := by
  induction hnm with
  | refl => exact h
  | step _ ih => exact ih.succ
theorem toD_succ {n : Nat} : ∀ {x : JV}, Dp n x → toD (n + 1) x = toD n x := by
  induction n with
  | zero => intro x h; obtain ⟨m, e⟩ := h.pos; omega
  | succ n ih =>
    intro x h
    obtain ⟨_, _, _, h4⟩ := h.inv
    have e : x.f5.map (toD (n + 1)) = x.f5.map (toD n) := List.map_congr_left fun y hy => ih (h4 y hy)
    rw [toD, toD, e]
theorem toD_le {n m : Nat} {x : JV} (h : Dp n x) (hnm : n ≤ m) : toD m x = toD n x := by
  induction hnm with
  | refl => rfl
  | step hm ih => rw [toD_succ (h.le hm), ih]

/-! ### how an 'any' reads -/
def heldE (v : Value) : Option (DataW Value × List MemPlace) := some (.held v, [])
theorem keyS : Keyed Try.prog 9 := string_keyed Try.underlying9
/-- A map of 'any' in memory. -/
def MapAt (w : World) (b : Nat) (D : DataW Value) : Prop := ∃ n, n ≤ 140737488351232 ∧ w.ownsMap Try.prog 9 heldE b n D
theorem MapAt.kept {w w' : World} {b : Nat} {D : DataW Value} (h : MapAt w b D) (hb : Below w.heap.size w w') : MapAt w' b D := by
  obtain ⟨n, hn, h⟩ := h
  exact ⟨n, hn, h.kept (row := none) ⟨hb.os, hb.tape, hb.output, hb.size, fun i hi _ => hb.block i hi⟩ (by simp)⟩
theorem MapAt.lt {w : World} {b : Nat} {D : DataW Value} (h : MapAt w b D) : b < w.heap.size := by
  obtain ⟨n, _, h⟩ := h; exact h.lt
theorem lt_of_cell {w : World} {a : Addr} {v : Value} (h : w.cell? a = some v) : a.block < w.heap.size := by
  rcases Nat.lt_or_ge a.block w.heap.size with h' | h'
  · exact h'
  · simp [World.cell?, Array.getElem?_eq_none h'] at h
theorem block_add (a : Addr) (i : Nat) : (a.add i).block = a.block := by unfold Addr.add; split <;> rfl
/-- 'any' values in line, that read as data; the row's block is one of some. -/
def RowAt (R : Value → D0 → Prop) (ok : Nat → Prop) (w : World) (A : Option Addr) (l : List D0) : Prop := 0 < l.length → ∃ ad, A = some ad ∧ ok ad.block ∧ ∀ i e, l[i]? = some e → ∃ u, w.cell? (ad.add i) = some u ∧ R u e
/-- What stands at each key reads as what it should. -/
def Same (R : Value → D0 → Prop) (D : DataW Value) (d : D0) : Prop := Maps.size D = Maps.size d ∧ ∀ k, Maps.has D k = Maps.has d k ∧ (Maps.has D k = true → ∃ u, (∀ z, D.atKey k z = .held u) ∧ R u (d.atKey k .nil))
/-- An 'any' reads as data; all blocks are some. -/
def Rep : Nat → (Nat → Prop) → World → Value → D0 → Prop
  | 0, _, _, _, _ => False
  | n + 1, ok, w, v, d => (v = .nilIface ∧ d = .nil) ∨ (∃ b, v = .iface 4 (.bool b) ∧ d = .lit (.bool b)) ∨ (∃ k, v = .iface 3 (.int .i64 k) ∧ d = .lit (.int .i64 k)) ∨ (∃ s : ByteArray, v = .iface 9 (.string s) ∧ d = .lit (.string (bs s))) ∨
    (∃ A c l, v = .iface 42 (.slice A l.length c) ∧ d = .slice l [] ∧ l.length ≤ c ∧ l.length ≤ 140737488351232 ∧ RowAt (Rep n ok w) ok w A l) ∨
    (∃ b D, v = .iface 44 (.map (some b)) ∧ CanonS d ∧ ok b ∧ MapAt w b D ∧ Same (Rep n ok w) D d)
theorem RowAt.imp {R R' : Value → D0 → Prop} {ok ok' : Nat → Prop} {w w' : World} {A : Option Addr} {l : List D0} (h : RowAt R ok w A l) (hok : ∀ a v, ok a.block → w.cell? a = some v → ok' a.block ∧ w'.cell? a = some v) (hR : ∀ u e, R u e → R' u e) : RowAt R' ok' w' A l := by
  intro hp
  obtain ⟨ad, e, ho, h⟩ := h hp
  obtain ⟨u0, hu0, _⟩ := h 0 _ (List.getElem?_eq_getElem hp)
  have := (hok _ _ (by rw [block_add]; exact ho) hu0).1
  rw [block_add] at this
  exact ⟨ad, e, this, fun i x hx => by
    obtain ⟨u, h1, h3⟩ := h i x hx
    exact ⟨u, (hok _ _ (by rw [block_add]; exact ho) h1).2, hR _ _ h3⟩⟩
theorem Same.imp {R R' : Value → D0 → Prop} {D : DataW Value} {d : D0} (h : Same R D d) (hR : ∀ u e, R u e → R' u e) : Same R' D d :=
  ⟨h.1, fun k => ⟨(h.2 k).1, fun hk => by obtain ⟨u, h1, h3⟩ := (h.2 k).2 hk; exact ⟨u, h1, hR _ _ h3⟩⟩⟩
theorem MapAt.move {w w' : World} {b : Nat} {D : DataW Value} (h : MapAt w b D) (hb : w'.heap[b]? = w.heap[b]?) : MapAt w' b D := by
  obtain ⟨n, hn, es, clock, h1, h2⟩ := h
  exact ⟨n, hn, es, clock, hb.trans h1, h2⟩
/-- Whatever keeps its blocks keeps it. -/
theorem Rep.step {n : Nat} {ok ok' : Nat → Prop} {w w' : World} (hm : ∀ k, ok k → k < w.heap.size → ok' k ∧ w'.heap[k]? = w.heap[k]?) : ∀ {v : Value} {d : D0}, Rep n ok w v d → Rep n ok' w' v d := by
  induction n with
  | zero => intro v d h; exact h.elim
  | succ n ih =>
    intro v d h
    rcases h with h | h | h | h | ⟨A, c, l, h1, h2, h3, h4, h5⟩ | ⟨b, D, h1, h2, h0, h3, h4⟩
    · exact .inl h
    · exact .inr (.inl h)
    · exact .inr (.inr (.inl h))
    · exact .inr (.inr (.inr (.inl h)))
    · refine .inr (.inr (.inr (.inr (.inl ⟨A, c, l, h1, h2, h3, h4, h5.imp (fun a v ho hv => ?_) fun _ _ => ih⟩))))
      obtain ⟨q1, q2⟩ := hm _ ho (lt_of_cell hv)
      exact ⟨q1, (World.cell?_of_block q2).trans hv⟩
    · obtain ⟨q1, q2⟩ := hm b h0 h3.lt
      exact .inr (.inr (.inr (.inr (.inr ⟨b, D, h1, h2, q1, h3.move q2, h4.imp fun _ _ => ih⟩))))
theorem Rep.kept {n : Nat} {ok : Nat → Prop} {w w' : World} {v : Value} {d : D0} (h : Rep n ok w v d) (hb : Below w.heap.size w w') : Rep n ok w' v d := h.step fun k hk hlt => ⟨hk, hb.block k hlt⟩
theorem Rep.mono {n : Nat} {ok ok' : Nat → Prop} {w : World} {v : Value} {d : D0} (h : Rep n ok w v d) (hk : ∀ k, ok k → k < w.heap.size → ok' k) : Rep n ok' w v d := h.step fun k ho hlt => ⟨hk k ho hlt, rfl⟩
theorem Rep.grown {n : Nat} {ok : Nat → Prop} {w w' : World} {v : Value} {d : D0} {row : Option Nat} (h : Rep n ok w v d) (hg : w.grownBy w' row) (hr : ∀ k, ok k → some k ≠ row) : Rep n ok w' v d := h.step fun k hk hlt => ⟨hk, hg.block k hlt (hr k hk)⟩
theorem Rep.one {n : Nat} {ok : Nat → Prop} {w : World} {v : Value} {d : D0} (h : Rep n ok w v d) : v.oneCell' = true := by
  cases n with
  | zero => exact h.elim
  | succ n =>
    rcases h with ⟨rfl, _⟩ | ⟨b, rfl, _⟩ | ⟨b, rfl, _⟩ | ⟨b, rfl, _⟩ | ⟨A, c, l, rfl, _⟩ | ⟨b, D, rfl, _⟩ <;> rfl
theorem Rep.cells {n : Nat} {ok : Nat → Prop} {w : World} {v : Value} {d : D0} (h : Rep n ok w v d) : v.cells = #[v] := by
  cases n with
  | zero => exact h.elim
  | succ n =>
    rcases h with ⟨rfl, _⟩ | ⟨b, rfl, _⟩ | ⟨b, rfl, _⟩ | ⟨b, rfl, _⟩ | ⟨A, c, l, rfl, _⟩ | ⟨b, D, rfl, _⟩ <;> rfl
theorem Rep.pos {n : Nat} {ok : Nat → Prop} {w : World} {v : Value} {d : D0} (h : Rep n ok w v d) : ∃ m, n = m + 1 := by
  cases n with
  | zero => exact h.elim
  | succ n => exact ⟨n, rfl⟩
theorem Same.empty {R : Value → D0 → Prop} : Same R (.map []) (.map []) := ⟨rfl, fun k => ⟨rfl, fun h => by cases h⟩⟩
theorem key_lit (k : List UInt8) : WideAt.IsKeyLit (.string k) := trivial
theorem Same.put {R R' : Value → D0 → Prop} {D : DataW Value} {d : D0} (h : Same R D d) (hD : Tidy D) (hd : Tidy d) (k : List UInt8) {u : Value} {e : D0} (hu : R' u e) (hR : ∀ u e, R u e → R' u e) : Same R' (D.put (.string k) (.held u)) (d.put (.string k) e) := by
  refine ⟨?_, fun j => ?_⟩
  · rw [size_put hD, size_put hd, h.1, (h.2 _).1]
  · by_cases hj : j = .string k
    · subst hj
      rw [has_put_same hD.isMap (key_lit k), has_put_same hd.isMap (key_lit k)]
      exact ⟨rfl, fun _ => ⟨u, fun z => atKey_put_same hD.isMap (key_lit k) _ z, by rw [atKey_put_same hd.isMap (key_lit k)]; exact hu⟩⟩
    · rw [has_put_other hj, has_put_other hj]
      refine ⟨(h.2 j).1, fun hk => ?_⟩
      obtain ⟨v, h1, h2⟩ := (h.2 j).2 hk
      exact ⟨v, fun z => by rw [atKey_put_other hj]; exact h1 z, by rw [atKey_put_other hj]; exact hR _ _ h2⟩
theorem objD_size : ∀ (ms : List (ByteArray × D0)) (D : D0), CanonS D → Maps.size (ms.foldl putM D) ≤ Maps.size D + ms.length
  | [], _, _ => by simp
  | p :: ms, D, h => by
    have h1 := objD_size ms (putM D p) (h.put _ _)
    have h2 : Maps.size (putM D p) ≤ Maps.size D + 1 := by
      unfold putM
      rw [size_put h.tidy]
      split <;> omega
    simp only [List.foldl_cons, List.length_cons]
    omega
end Go.Proofs.Ytdleegmdpgefmaa.J
