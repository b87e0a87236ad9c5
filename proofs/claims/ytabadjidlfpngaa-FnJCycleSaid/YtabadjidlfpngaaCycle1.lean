/- jsonwhole.Cycle: what it answers. -/
import Derived.Test.YtabadjidlfpngaaCycle0
import Derived.Maps.Own
import Derived.Maps.OwnOps
import Derived.Maps.OwnSet
import Derived.Maps.Views
import Derived.Carry
import Derived.Laws.Tables
namespace Go.Proofs.Ytabadjidlfpngaa.Cyc
open Go.RowKit Go.Proofs.YtabadjidlfpngaaW.PrintWords Go.Proofs.YtabadjidlfpngaaW.PrintLast Go.Proofs.YtabadjidlfpngaaW.PrintMore Go.Proofs.Ytabadjidlfpngaa.K Go.Maps
set_option linter.unusedVariables false
set_option linter.unusedSimpArgs false

/-- A pointer as a map's element: 0 where it is none, else its block and one more. -/
def ptrE : Value → Option (DataW Unit × List MemPlace)
  | .pointer none => some (.lit (.int .i64 0), [])
  | .pointer (some ⟨b, 0, none⟩) => some (.lit (.int .i64 (b + 1)), [])
  | _ => none
theorem ptrE_inv {v : Value} {c : Int} {ps : List MemPlace} (h : ptrE v = some (.lit (.int .i64 c), ps)) : (c = 0 ∧ v = .pointer none) ∨ ∃ b : Nat, c = b + 1 ∧ v = .pointer (some ⟨b, 0, none⟩) := by
  unfold ptrE at h
  split at h
  · simp at h; exact .inl ⟨h.1.symm, rfl⟩
  · rename_i b
    simp at h; exact .inr ⟨b, h.1.symm, rfl⟩
  · cases h
theorem keyed : Keyed Try.prog 3 := int_keyed (q := .i64) Try.underlying3
/-- A map from numbers to schemas: the block that stands for a number, and one more; 0: none. -/
def Mp (w : World) (B n : Nat) (f : Int → Int) : Prop := ∃ D, w.ownsMap Try.prog 3 ptrE B n D ∧ ∀ k : Int, (Lit.int .i64 k).wf = true → D.atKey (.int .i64 k) (.lit (.int .i64 0)) = .lit (.int .i64 (f k))
theorem Mp.made (w : World) : Mp (w.alloc (.map #[] 0)) w.heap.size 0 (fun _ => 0) := ⟨.map [], World.ownsMap_made w _ _ _, fun k hk => rfl⟩
theorem ptrZero (w : World) : (zeroValue 52).run Try.prog w = .ok (.pointer none) w := by kernel_rfl
theorem Mp.look {w : World} {B n : Nat} {f : Int → Int} (h : Mp w B n f) (k : Int) (hk : (Lit.int .i64 k).wf = true) : ∃ v, (Instr.lookup 50 (.map (some B)) (.int .i64 k) false).run Try.prog w = .ok v w ∧ ((f k = 0 ∧ v = .pointer none) ∨ ∃ b : Nat, f k = b + 1 ∧ v = .pointer (some ⟨b, 0, none⟩)) := by
  obtain ⟨D, ho, hf⟩ := h
  obtain ⟨v, ps, hrun, hv⟩ := ho.lookup keyed Try.underlying50 (ptrZero w) (zd := .lit (.int .i64 0)) (zp := []) rfl (keyOf_int_mk Try.underlying3 hk)
  rw [hf k hk] at hv
  exact ⟨v, hrun, ptrE_inv hv⟩
theorem Mp.put {D : DataW Unit} {w w' : World} {B n : Nat} {f : Int → Int} (hf : ∀ k : Int, (Lit.int .i64 k).wf = true → D.atKey (.int .i64 k) (.lit (.int .i64 0)) = .lit (.int .i64 (f k))) (hi : IsMap D) (k : Int) (hk : (Lit.int .i64 k).wf = true) (b : Nat)
    (h : w'.ownsMap Try.prog 3 ptrE B (n + 1) (D.put (.int .i64 k) (.lit (.int .i64 (b + 1))))) : Mp w' B (n + 1) (fun j => if j = k then b + 1 else f j) := by
  refine ⟨_, h, fun j hj => ?_⟩
  by_cases e : j = k
  · subst e
    rw [atKey_put_same hi (by trivial)]; simp
  · rw [atKey_put_other (by simpa using e), hf j hj]; simp [e]

/-- A schema in memory. -/
def Sch (w : World) (a : Addr) : Prop := ∃ c, w.heap[a.block]? = some (.cells c 73 (0, 0))
theorem Sch.isc {w : World} {a : Addr} (h : Sch w a) : Isc w a := by
  obtain ⟨c, h⟩ := h; exact ⟨c, _, h⟩
theorem Sch.grown {w w' : World} {a : Addr} {row : Option Nat} (h : Sch w a) (hg : w.grownBy w' row) (hne : some a.block ≠ row) : Sch w' a := by
  obtain ⟨c, h⟩ := h
  exact ⟨c, by rw [hg.block _ (lt_of_heap h) hne]; exact h⟩
theorem Sch.ne_row {w : World} {a : Addr} {base n : Nat} {v : Value} {xs : List Value} (h : Sch w a) (ho : w.ownsRow base 52 1 v n xs) : some a.block ≠ v.ownBlock := by
  obtain ⟨c, h⟩ := h
  rcases ho.2 with ⟨rfl, _⟩ | ⟨g, cap, cur, rfl, _, hg, _⟩
  · simp [Value.ownBlock]
  · intro e
    simp only [Value.ownBlock, Option.some.injEq] at e
    rw [e] at h
    have h2 := h.symm.trans hg
    simp at h2
theorem map_ne_row {D : DataW Unit} {w : World} {b m base n : Nat} {v : Value} {xs : List Value} (h : w.ownsMap Try.prog 3 ptrE b m D) (ho : w.ownsRow base 52 1 v n xs) : some b ≠ v.ownBlock := by
  obtain ⟨es, cl, hb, _⟩ := h
  rcases ho.2 with ⟨rfl, _⟩ | ⟨g, cap, cur, rfl, _, hg, _⟩
  · simp [Value.ownBlock]
  · intro e
    simp only [Value.ownBlock, Option.some.injEq] at e
    subst e
    have h2 := hb.symm.trans hg
    simp at h2
def ptrs (ss : List Addr) : List Value := ss.map fun s => .pointer (some s)
/-- What the loop over the numbers has made. -/
structure St (w wi : World) (ids : List Int) (i n : Nat) (hv : Value) (f : Int → Int) (D : DataW Unit) (ss : List Addr) : Prop where
  len : ss.length = i
  row : wi.ownsRow w.heap.size 52 1 hv (ptrs ss).length (ptrs ss)
  map : wi.ownsMap Try.prog 3 ptrE w.heap.size n D
  says : ∀ k : Int, (Lit.int .i64 k).wf = true → D.atKey (.int .i64 k) (.lit (.int .i64 0)) = .lit (.int .i64 (f k))
  sch : ∀ k, f k = 0 ∨ ∃ b : Nat, f k = b + 1 ∧ Sch wi ⟨b, 0, none⟩
  inj : ∀ k k', f k = f k' → f k ≠ 0 → k = k'
  ptr : ∀ j, (h : j < ss.length) → (h' : j < ids.length) → ∃ b : Nat, ss[j] = ⟨b, 0, none⟩ ∧ f ids[j] = b + 1
  below : Below w.heap.size w wi
theorem St.start (w : World) (ids : List Int) : St w (w.alloc (.map #[] 0)) ids 0 0 (.slice none 0 0) (fun _ => 0) (.map []) [] where
  len := rfl
  row := World.ownsRow_nil _ _ _ _
  map := World.ownsMap_made w _ _ _
  says := fun k hk => rfl
  sch := fun k => .inl rfl
  inj := fun k k' _ h => absurd rfl h
  ptr := fun j h => by simp at h
  below := (Below.refl _ _).alloc (Nat.le_refl _) _
theorem St.same {w wr w1 : World} {ids : List Int} {i n : Nat} {hv v1 : Value} {f : Int → Int} {D : DataW Unit} {ss : List Addr} (h : St w wr ids i n hv f D ss) (hlt : i < ids.length) {k : Int} (hk : ids[i] = k) {b : Nat} (hf : f k = b + 1)
    (hown : w1.ownsRow w.heap.size 52 1 v1 (ptrs ss ++ [Value.pointer (some ⟨b, 0, none⟩)]).length (ptrs ss ++ [Value.pointer (some ⟨b, 0, none⟩)])) (hb : Below w.heap.size w w1) (hg : wr.grownBy w1 hv.ownBlock) :
    St w w1 ids (i + 1) n v1 f D (ss ++ [⟨b, 0, none⟩]) where
  len := by simp [h.len]
  row := by simpa [ptrs] using hown
  map := h.map.kept hg (map_ne_row h.map h.row)
  says := h.says
  sch := fun k => (h.sch k).imp id fun ⟨b, e, hs⟩ => ⟨b, e, hs.grown hg (hs.ne_row h.row)⟩
  inj := h.inj
  ptr := fun j hj hj' => by
    by_cases e : j < ss.length
    · rw [List.getElem_append_left e]; exact h.ptr j e hj'
    · have e2 : j = i := by simp at hj; have := h.len; omega
      subst e2
      refine ⟨b, ?_, by rw [hk, hf]⟩
      rw [List.getElem_append_right (by omega)]
      simp
  below := hb
theorem St.new {w wr w2 : World} {ids : List Int} {i n : Nat} {hv : Value} {f : Int → Int} {D : DataW Unit} {ss : List Addr} (h : St w wr ids i n hv f D ss) {k : Int} (hk : (Lit.int .i64 k).wf = true) (hf : f k = 0) (cs : Array Value)
    (hm : w2.ownsMap Try.prog 3 ptrE w.heap.size (n + 1) (D.put (.int .i64 k) (.lit (.int .i64 ((wr.heap.size : Int) + 1))))) (hg : (wr.alloc (.cells cs 73)).grownBy w2 (some w.heap.size)) :
    St w w2 ids i (n + 1) hv (fun j => if j = k then (wr.heap.size : Int) + 1 else f j) (D.put (.int .i64 k) (.lit (.int .i64 ((wr.heap.size : Int) + 1)))) ss := by
  have hlt := h.map.lt
  have hold : ∀ b : Nat, Sch wr ⟨b, 0, none⟩ → Sch w2 ⟨b, 0, none⟩ := by
    intro b hs
    have hs' : Sch (wr.alloc (.cells cs 73)) ⟨b, 0, none⟩ := hs.grown (World.grownBy_alloc wr _ none) (by simp)
    refine hs'.grown hg ?_
    obtain ⟨es, cl, hmb, _⟩ := h.map
    obtain ⟨c, hc⟩ := hs
    intro e
    simp only [Option.some.injEq] at e
    simp only [e] at hc
    have h2 := hmb.symm.trans hc
    simp at h2
  refine ⟨h.len, (h.row.alloc _).kept hg ?_, hm, ?_, ?_, ?_, ?_, (h.below.alloc h.below.size _).grown hg ?_ ?_⟩
  · right; exact (map_ne_row h.map h.row).symm
  · intro j hj
    by_cases e : j = k
    · subst e
      rw [atKey_put_same h.map.isMap (by trivial)]; simp
    · rw [atKey_put_other (by simpa using e), h.says j hj]; simp [e]
  · intro j
    by_cases e : j = k
    · right
      refine ⟨wr.heap.size, by simp [e], ?_⟩
      have hs : Sch (wr.alloc (.cells cs 73)) ⟨wr.heap.size, 0, none⟩ := ⟨cs, heap_alloc_new wr _⟩
      exact hs.grown hg (by simp; omega)
    · simp only [e, if_false]
      exact (h.sch j).imp id fun ⟨b, e, hs⟩ => ⟨b, e, hold b hs⟩
  · have hne : ∀ j, f j = (wr.heap.size : Int) + 1 → False := by
      intro j hj
      rcases h.sch j with e | ⟨b, e, c, hs⟩
      · omega
      · have := lt_of_heap hs
        simp only at this
        omega
    intro j j' he hn
    by_cases e : j = k
    · by_cases e' : j' = k
      · rw [e, e']
      · simp only [e, e', if_true, if_false] at he
        exact absurd he.symm (fun q => hne j' q)
    · by_cases e' : j' = k
      · simp only [e, e', if_true, if_false] at he
        exact absurd he (fun q => hne j q)
      · simp only [e, e', if_false] at he hn
        exact h.inj j j' he hn
  · intro j hj hj'
    obtain ⟨b, e1, e2⟩ := h.ptr j hj hj'
    refine ⟨b, e1, ?_⟩
    have : ids[j] ≠ k := by rintro e; rw [e, hf] at e2; omega
    simp only [this, if_false]; exact e2
  · simp; omega
  · intro q hq; cases hq; exact Nat.le_refl _
theorem built73 : (Try.prog.built 73 []).isSome = true := by kernel_rfl
theorem infoPtr : (Try.prog.info? 52).map (fun i => (i.zero, i.size, i.bytes)) = some (some (.pointer none), 1, 8) := by kernel_rfl
/-- Behind a scope the blocks are elder ones. -/
theorem Scp.below {w : World} {y : Sc} {t : List Sc} (h : Scp w (y :: t)) : ∀ z ∈ t, z.b < y.b := by
  induction t generalizing y with
  | nil => simp
  | cons u t ih =>
    intro z hz
    have h1 : u.b < y.b := h.2.2.1 u (by simp)
    rcases List.mem_cons.1 hz with rfl | hz
    · exact h1
    · exact Nat.lt_trans (ih h.2.2.2 z hz) h1
theorem Scp.suffix {w : World} {t m : List Sc} (h : Scp w m) (hs : t <:+ m) : Scp w t := by
  induction m with
  | nil => rw [List.suffix_nil.1 hs]; trivial
  | cons y m ih =>
    rcases List.suffix_cons_iff.1 hs with rfl | hs
    · exact h
    · exact ih h.2.2.2 hs
theorem fnd_suffix (s : Addr) (v : Int) (l : List Sc) : fnd s v l <:+ l := by
  induction l with
  | nil => exact List.suffix_refl _
  | cons x t ih =>
    unfold fnd
    split
    · split
      · exact List.suffix_refl _
      · exact ih.trans (List.suffix_cons _ _)
    · exact List.nil_suffix
/-- The scopes stand for the numbers, one schema for each number. -/
def Good (ids vs : List Int) (x : Sc) (m : List Sc) : Prop := ∃ (f : Int → Int) (ss : List Addr), outer (x :: m) = ss.zip vs ∧ ss.length = ids.length ∧ (∀ j, (h : j < ss.length) → (h' : j < ids.length) → ∃ b : Nat, ss[j] = ⟨b, 0, none⟩ ∧ f ids[j] = (b : Int) + 1) ∧ ∀ k k' : Int, f k = f k' → f k ≠ 0 → k = k'
/-- What Cycle answers, by the scopes. -/
def ans (F m : List Sc) : Int := if F = [] then -1 else ((m.length - F.length : Nat) : Int)
set_option maxHeartbeats 4000000 in
set_option maxRecDepth 100000 in
theorem cycle (A B : Option Addr) (c d : Nat) (ids vs : List Int) (w : World) (hA : IntRow w A ids) (hwf : ∀ x ∈ ids, (Lit.int .i64 x).wf = true) (hB : IntRow w B vs) (hlen : vs.length = ids.length) (hn : ids.length ≤ 4294967296) (hpos : 0 < ids.length) :
    Calls Try.prog 19 #[.slice A ids.length c, .slice B vs.length d] w fun e w' => ∃ x m, e = .returned (.int .i64 (ans (fnd x.s x.v m) m)) ∧ Below w.heap.size w w' ∧ Good ids vs x m := by
  have hmm := @run_makeMap Try.prog
  have HA := Lib.hid hA
  have HB := Lib.hid hB
  have HW := Lib.hid hwf
  have HLEN := Lib.hid hlen
  clear hA hB hwf hlen
  go_enter Try.func19, Try.ntmps19
  go_wp2_with fail
  go_loopw [6, 16] (fun hv iv wi => ∃ (i n : Nat) (f : Int → Int) (D : DataW Unit) (ss : List Addr), iv = .int .i64 i ∧ i ≤ ids.length ∧ n ≤ i ∧ Hid (St w wi ids i n hv f D ss)) (fun _ iv _ => ids.length - (intOf iv).toNat)
  case atStart => exact ⟨0, 0, _, _, _, rfl, by omega, by omega, Lib.hid (St.start w ids)⟩
  case round =>
    obtain ⟨i, n, f, D, ss, rfl, hil, hni, HS⟩ := hrel
    by_cases hlt : i < ids.length
    · have hd1 : decide ((i : Int) < (ids.length : Int)) = true := decide_eq_true (by omega)
      obtain ⟨ad, rfl, hca⟩ := HA.out i ids[i] (List.getElem?_eq_getElem hlt)
      have hwk := HW.out ids[i] (List.getElem_mem hlt)
      have hbx := HS.out.below
      have ca : wr.cell? (ad.add i) = some (.int .i64 ids[i]) := by rw [hbx.cell (lt_of_cell hca)]; exact hca
      obtain ⟨k, hk⟩ : ∃ k, ids[i] = k := ⟨_, rfl⟩
      rw [hk] at ca hwk
      have HKI := Lib.hid hk
      clear hca hk hbx
      obtain ⟨v, hrun, hv⟩ := Mp.look (w := wr) (B := w.heap.size) (n := n) (f := f) ⟨D, HS.out.map, HS.out.says⟩ k hwk
      have hkey := keyOf_int_mk (k := 3) (q := .i64) Try.underlying3 hwk
      have HWK := Lib.hid hwk
      clear hwk
      have hi1 : n < maxLen := by unfold maxLen; omega
      have hpl : (ptrs ss).length = i := by simp [ptrs, HS.out.len]
      have hbl : ((ptrs ss).length + 1) * 8 ≤ 140737488355328 := by omega
      have HBL := Lib.hid hbl
      clear hbl hpl
      rcases hv with ⟨hf0, rfl⟩ | ⟨b, hfb, rfl⟩
      · have HF := Lib.hid hf0
        clear hf0
        go_wp2_with (first
          | (refine wpList_build rfl 73 #[] rfl (by simpa using built73) ?_; generalize (Option.getD _ _) = cells)
          | (at_mapUpdate; refine wpList_mapUpdate_own _ rfl _ _ _ 50 rfl 3 52 keyed Try.underlying50 ptrE w.heap.size n D rfl (HS.out.map.alloc _) hi1 _ _ (.int .i64 k) rfl rfl hkey (.lit (.int .i64 ((wr.heap.size : Int) + 1))) [] rfl ?_)
          | go_in)
        intro w2 hm2 hg2
        have HS2 := Lib.hid (HS.out.new HWK.out HF.out _ hm2 hg2)
        clear hm2 hg2 hrun
        obtain ⟨v, hrun, hv⟩ := Mp.look (w := w2) (B := w.heap.size) (n := n + 1) ⟨_, HS2.out.map, HS2.out.says⟩ k HWK.out
        simp only [if_true] at hv
        obtain rfl : v = .pointer (some ⟨wr.heap.size, 0, none⟩) := by
          rcases hv with ⟨e, _⟩ | ⟨b, e, rfl⟩
          · omega
          · have : b = wr.heap.size := by omega
            rw [this]
        clear hv
        go_wp2_with (at_builtin; refine print_append (w0 := w) w.heap.size rfl _ _ 51 52 (.pointer none) 8 rfl Try.underlying51 infoPtr rfl (by decide) u6 (ptrs ss) (.pointer (some ⟨wr.heap.size, 0, none⟩)) rfl rfl rfl HS2.out.row HS2.out.below HS2.out.below.size HBL.out ?_)
        intro v1 w1 hown hb1 hg1 _
        have HN := Lib.hid (HS2.out.same hlt HKI.out (b := wr.heap.size) (by simp) (by simpa using hown) hb1 hg1)
        clear hown hb1 hg1
        go_wp2_with fail
        go_roundw
        case rel => exact ⟨i + 1, n + 1, _, _, _, by go_num, by omega, by omega, HN⟩
        case measure => simp [intOf]; omega
      · have HF := Lib.hid hfb
        clear hfb
        go_wp2_with (at_builtin; refine print_append (w0 := w) w.heap.size rfl _ _ 51 52 (.pointer none) 8 rfl Try.underlying51 infoPtr rfl (by decide) u6 (ptrs ss) (.pointer (some ⟨b, 0, none⟩)) rfl rfl rfl HS.out.row HS.out.below HS.out.below.size HBL.out ?_)
        intro v1 w1 hown hb1 hg1 _
        have HN := Lib.hid (HS.out.same hlt HKI.out HF.out (by simpa using hown) hb1 hg1)
        clear hown hb1 hg1
        go_wp2_with fail
        go_roundw
        case rel => exact ⟨i + 1, n, f, D, _, by go_num, by omega, by omega, HN⟩
        case measure => simp [intOf]; omega
    · obtain rfl : i = ids.length := by omega
      have hd1 : decide ((ids.length : Int) < (ids.length : Int)) = false := by simp
      clear hlt
      have hpl : (ptrs ss).length = ids.length := by simp [ptrs, HS.out.len]
      obtain ⟨gb, cap, hval, _, _⟩ := HS.out.row.form (by omega)
      rw [hpl] at hval
      have HSL := Lib.hid HS.out.len
      have hPR : PtrRow wr (some ⟨gb, 0, none⟩) ss := ⟨fun i s hs => by
        refine ⟨_, rfl, ?_, ?_⟩
        · have := HS.out.row.cells (g := gb) (by rw [hval]; rfl) i (.pointer (some s)) (by simp [ptrs, hs])
          exact this
        · obtain ⟨hi, rfl⟩ := List.getElem?_eq_some_iff.1 hs
          have hlen2 := HS.out.len
          obtain ⟨b, e1, e2⟩ := HS.out.ptr i hi (by omega)
          rw [e1]
          rcases HS.out.sch ids[i] with e | ⟨b', e, hs'⟩
          · omega
          · have : b' = b := by omega
            subst this
            exact hs'.isc⟩
      have hIR : IntRow wr B vs := fun i v hv => by
        obtain ⟨bd, rfl, hcb⟩ := HB.out i v hv
        exact ⟨bd, rfl, by rw [HS.out.below.cell (lt_of_cell hcb)]; exact hcb⟩
      subst hval
      have C := Aside0.mk (scopes (some ⟨gb, 0, none⟩) B cap d ss vs wr hPR hIR (by rw [HLEN.out, HSL.out]) (by rw [HSL.out]; exact hn))
      rw [HSL.out] at C
      clear hPR hIR hpl
      go_wp2_with fail
      with_reducible refine C.out.mono ?_
      rintro e w1 ⟨m, rfl, hsc, hout, hb1⟩
      have hb2 := HS.out.below.trans (hb1.mono HS.out.below.size)
      have HM := Lib.hid (And.intro hsc (And.intro hout hb2))
      clear hsc hout hb1 hb2 C
      cases m with
      | nil =>
        have h0 := congrArg List.length HM.out.2.1
        simp [outer, HSL.out, HLEN.out] at h0
        omega
      | cons x m =>
        have hml : m.length ≤ 4294967296 := by
          have h0 := congrArg List.length HM.out.2.1
          simp [outer, HSL.out, HLEN.out] at h0
          omega
        obtain ⟨c0, c2, c3⟩ := HM.out.1.cells
        obtain ⟨q, hq⟩ : ∃ q, hd m = q := ⟨_, rfl⟩
        rw [hq] at c3
        have HQ := Lib.hid hq
        clear hq
        simp only [hd]
        go_wp2_with fail
        refine (checkCycle x m _ HM.out.1).mono ?_
        rintro e w2 ⟨rfl, ⟨n2, rfl⟩⟩
        obtain ⟨F, hF⟩ : ∃ F, fnd x.s x.v m = F := ⟨_, rfl⟩
        have hsuf : F <:+ m := by rw [← hF]; exact fnd_suffix _ _ _
        rw [hF]
        have HF := Lib.hid hF
        have HSU := Lib.hid hsuf
        clear hF hsuf
        obtain ⟨q3, hq3⟩ : ∃ q, hd F = q := ⟨_, rfl⟩
        rw [hq3]
        have HQ3 := Lib.hid hq3
        clear hq3
        go_wp2_with fail
        go_loopw [11, 12] (fun nv xv wi => ∃ (j : Nat) (t : List Sc), nv = .int .i64 j ∧ xv = .pointer (hd t) ∧ j + t.length = m.length ∧ Hid (t <:+ m ∧ F <:+ t) ∧ wi = w1.drewN n2) (fun _ xv _ => mea xv)
        case atStart => exact ⟨0, m, rfl, by rw [HQ.out], by omega, Lib.hid ⟨List.suffix_refl _, HSU.out⟩, rfl⟩
        case round =>
          obtain ⟨j, t, rfl, rfl, hjt, HX, rfl⟩ := hrel
          have hj : j ≤ 4294967296 := by omega
          have HG : Hid (Good ids vs x m) := Lib.hid ⟨f, ss, HM.out.2.1, HSL.out, HS.out.ptr, HS.out.inj⟩
          have HBL : Hid (Below w.heap.size w (w1.drewN n2)) := Lib.hid (pw_below_drewN HM.out.2.2 n2)
          have hST := ((HM.out.1.2.2.2).drewN n2).suffix HX.out.1
          cases t with
          | nil =>
            have hFn : F = [] := List.suffix_nil.1 HX.out.2
            have HR := Lib.hid (show ans (fnd x.s x.v m) m = -1 by rw [HF.out, hFn]; rfl)
            clear hST hFn
            simp only [hd]
            go_wp2_with fail
            go_ret
            exact ⟨x, m, by rw [HR.out]; rfl, HBL.out, HG.out⟩
          | cons y t =>
            obtain ⟨d0, d2, d3⟩ := hST.cells
            obtain ⟨q4, hq4⟩ : ∃ q, hd t = q := ⟨_, rfl⟩
            rw [hq4] at d3
            have HQ4 := Lib.hid hq4
            have HST := Lib.hid hST
            clear hST hq4
            simp only [hd]
            obtain hFe | ⟨z, F', hFe⟩ : F = [] ∨ ∃ z F', F = z :: F' := by
              cases F with
              | nil => exact .inl rfl
              | cons z F' => exact .inr ⟨z, F', rfl⟩
            · obtain rfl : q3 = none := by rw [← HQ3.out, hFe]; rfl
              have HFE := Lib.hid hFe
              clear hFe
              go_wp2_with fail
              go_roundw
              case rel => exact ⟨j + 1, t, by go_num, congrArg Value.pointer HQ4.out.symm, by rw [← hjt, List.length_cons]; omega, Lib.hid ⟨(List.suffix_cons _ _).trans HX.out.1, by rw [HFE.out]; exact List.nil_suffix⟩, by first | rfl | trivial⟩
              case measure =>
                rw [← HQ4.out]
                cases t with
                | nil => simp [hd, mea]
                | cons u t => have := HST.out.below u (by simp); simp [hd, mea]; omega
            · obtain rfl : q3 = some ⟨z.b, 0, none⟩ := by rw [← HQ3.out, hFe]; rfl
              have hzs : Scp (w1.drewN n2) (z :: F') := by rw [← hFe]; exact HST.out.suffix HX.out.2
              have i1 : Isc (w1.drewN n2) ⟨y.b, 0, none⟩ := by obtain ⟨⟨k, T, h0⟩, _⟩ := HST.out; exact ⟨_, T, h0⟩
              have i2 : Isc (w1.drewN n2) ⟨z.b, 0, none⟩ := by obtain ⟨⟨k, T, h0⟩, _⟩ := hzs; exact ⟨_, T, h0⟩
              have he := eq_scp i1 i2
              have hiff : (⟨y.b, 0, none⟩ : Addr) = ⟨z.b, 0, none⟩ ↔ y.b = z.b := by simp
              have HFE := Lib.hid hFe
              clear hFe hzs i1 i2
              by_cases hyz : y.b = z.b
              · have hFt : F = y :: t := by
                  rcases List.suffix_cons_iff.1 HX.out.2 with h' | h'
                  · exact h'
                  · have := HST.out.below z (h'.subset (by rw [HFE.out]; simp))
                    omega
                have HR := Lib.hid (show ans (fnd x.s x.v m) m = j by
                  rw [HF.out]; unfold ans; rw [if_neg (by rw [HFE.out]; simp), hFt]; omega)
                simp only [hiff, hyz, decide_true] at he
                clear hFt hiff
                rw [hyz] at d0 d2 d3
                simp only [hyz]
                go_wp2_with fail
                go_ret
                exact ⟨x, m, by rw [HR.out]; rfl, HBL.out, HG.out⟩
              · have hFt : F <:+ t := by
                  rcases List.suffix_cons_iff.1 HX.out.2 with h' | h'
                  · rw [HFE.out] at h'; injection h' with h'; exact absurd (by rw [h']) hyz
                  · exact h'
                have HFT := Lib.hid hFt
                simp only [hiff, hyz, decide_false] at he
                have HYZ := Lib.hid hyz
                clear hFt hiff hyz
                go_wp2_with fail
                go_roundw
                case rel => exact ⟨j + 1, t, by go_num, congrArg Value.pointer HQ4.out.symm, by rw [← hjt, List.length_cons]; omega, Lib.hid ⟨(List.suffix_cons _ _).trans HX.out.1, HFT.out⟩, by first | rfl | trivial⟩
                case measure =>
                  rw [← HQ4.out]
                  cases t with
                  | nil => simp [hd, mea]
                  | cons u t => have := HST.out.below u (by simp); simp [hd, mea]; omega
end Go.Proofs.Ytabadjidlfpngaa.Cyc
