/- (*scope).checkCycle, scopes: what they answer. -/
import Derived.Test.YtabadjidlfpngaaPFnJCyclex1
import Derived.Test.YtabadjidlfpngaaK
import Derived.Lib.OthersKept
import Derived.WalkSpells
import Derived.Lib.Hide
import Derived.WalkLawsBesides
import Derived.LaidEqlPtr
import Derived.Deep.QuietTactic
import Derived.BigQuiet
import Derived.Lib.Builder
namespace Go.Proofs.Ytabadjidlfpngaa.Cyc
open Go.RowKit Go.Proofs.YtabadjidlfpngaaW.PrintWords Go.Proofs.YtabadjidlfpngaaW.PrintLast Go.Proofs.YtabadjidlfpngaaW.PrintMore Go.Proofs.Ytabadjidlfpngaa.K
set_option linter.unusedVariables false
set_option linter.unusedSimpArgs false

/-- A scope: its block, its schema, its value. -/
structure Sc where
  b : Nat
  s : Addr
  v : Int
/-- The pointer to the innermost one of some scopes. -/
def hd : List Sc → Option Addr
  | [] => none
  | x :: _ => some ⟨x.b, 0, none⟩
/-- A block in memory. -/
def Isc (w : World) (a : Addr) : Prop := ∃ c T, w.heap[a.block]? = some (.cells c T (0, 0))
/-- Scopes in memory, the innermost one first. -/
def Scp (w : World) : List Sc → Prop
  | [] => True
  | x :: t => (∃ k T, w.heap[x.b]? = some (.cells #[.pointer (some x.s), .string k, .int .i64 x.v, .pointer (hd t)] T (0, 0))) ∧ Isc w x.s ∧ (∀ y ∈ t.head?, y.b < x.b) ∧ Scp w t
theorem lt_of_heap {w : World} {b : Nat} {o : Obj} (h : w.heap[b]? = some o) : b < w.heap.size := by
  rcases Nat.lt_or_ge b w.heap.size with h' | h'
  · exact h'
  · rw [Array.getElem?_eq_none h'] at h; cases h
theorem lt_of_cell {w : World} {a : Addr} {v : Value} (h : w.cell? a = some v) : a.block < w.heap.size := by
  rcases Nat.lt_or_ge a.block w.heap.size with h' | h'
  · exact h'
  · simp [World.cell?, Array.getElem?_eq_none h'] at h
theorem Scp.head {w : World} {m : List Sc} (h : Scp w m) : ∀ y ∈ m.head?, y.b < w.heap.size := by
  intro y hy
  cases m with
  | nil => simp at hy
  | cons x t =>
    simp at hy
    subst hy
    obtain ⟨⟨k, T, h0⟩, _⟩ := h
    exact lt_of_heap h0
theorem Isc.kept {w w' : World} {a : Addr} (h : Isc w a) (hb : Below w.heap.size w w') : Isc w' a := by
  obtain ⟨c, T, h⟩ := h
  exact ⟨c, T, by rw [hb.block _ (lt_of_heap h)]; exact h⟩
theorem Scp.kept {w w' : World} {l : List Sc} (h : Scp w l) (hb : Below w.heap.size w w') : Scp w' l := by
  induction l with
  | nil => trivial
  | cons x t ih =>
    obtain ⟨⟨k, T, h0⟩, hi, hd, ht⟩ := h
    exact ⟨⟨k, T, by rw [hb.block _ (lt_of_heap h0)]; exact h0⟩, hi.kept hb, hd, ih ht⟩
theorem Scp.drewN {w : World} {l : List Sc} (h : Scp w l) (n : Nat) : Scp (w.drewN n) l := h.kept (pw_below_drewN (Below.refl _ _) n)
theorem Scp.cells {w : World} {x : Sc} {t : List Sc} (h : Scp w (x :: t)) : w.cell? ⟨x.b, 0, none⟩ = some (.pointer (some x.s)) ∧ w.cell? ⟨x.b, 2, none⟩ = some (.int .i64 x.v) ∧ w.cell? ⟨x.b, 3, none⟩ = some (.pointer (hd t)) := by
  obtain ⟨⟨k, T, h0⟩, _⟩ := h
  exact ⟨by rw [Lib.cell_of_heap h0]; rfl, by rw [Lib.cell_of_heap h0]; rfl, by rw [Lib.cell_of_heap h0]; rfl⟩
theorem size_sch : (Try.prog.info? 73).map (fun j => decide (j.size ≠ 0)) = some true := by kernel_rfl
theorem eq_sch {a b : Addr} {w : World} (ha : Isc w a) (hb : Isc w b) : (Go.binOp .eql 52 (.pointer (some a)) (.pointer (some b))).run Try.prog w = .ok (.bool (decide (a = b))) w := by
  obtain ⟨j, hj, hjs⟩ := Option.map_eq_some_iff.1 size_sch
  have hsz : j.size ≠ 0 := of_decide_eq_true hjs
  obtain ⟨ca, ta, ha⟩ := ha
  obtain ⟨cb, tb, hb⟩ := hb
  by_cases h : a = b
  · subst h
    rw [run_eql_ptr_same w a Try.underlying52 hj]; simp
  · rw [run_eql_ptr_other w Try.underlying52 hj hsz h ha hb]; simp [h]
theorem size_scp : (Try.prog.info? 78).map (fun j => decide (j.size ≠ 0)) = some true := by kernel_rfl
theorem eq_scp {a b : Addr} {w : World} (ha : Isc w a) (hb : Isc w b) : (Go.binOp .eql 74 (.pointer (some a)) (.pointer (some b))).run Try.prog w = .ok (.bool (decide (a = b))) w := by
  obtain ⟨j, hj, hjs⟩ := Option.map_eq_some_iff.1 size_scp
  have hsz : j.size ≠ 0 := of_decide_eq_true hjs
  obtain ⟨ca, ta, ha⟩ := ha
  obtain ⟨cb, tb, hb⟩ := hb
  by_cases h : a = b
  · subst h
    rw [run_eql_ptr_same w a Try.underlying74 hj]; simp
  · rw [run_eql_ptr_other w Try.underlying74 hj hsz h ha hb]; simp [h]
def mea : Value → Nat
  | .pointer (some a) => a.block + 1
  | _ => 0
/-- The scopes from the found one on. -/
def fnd (s : Addr) (v : Int) : List Sc → List Sc
  | [] => []
  | x :: t => if x.v = v then (if x.s = s then x :: t else fnd s v t) else []

set_option maxHeartbeats 1000000 in
theorem checkCycle (x : Sc) (l : List Sc) (w : World) (hl : Scp w (x :: l)) :
    Calls Try.prog 30 #[.pointer (some ⟨x.b, 0, none⟩)] w fun e w' => e = .returned (.pointer (hd (fnd x.s x.v l))) ∧ Drawn0 w w' := by
  obtain ⟨c0, c2, c3⟩ := hl.cells
  obtain ⟨_, hisx, hdd, hT⟩ := hl
  have HIX := Lib.hid hisx
  clear hisx
  obtain ⟨q, hq⟩ : ∃ q, hd l = q := ⟨_, rfl⟩
  rw [hq] at c3
  have HQ := Lib.hid hq
  have HT := Lib.hid hT
  have HDX := Lib.hid hdd
  clear hT hq hdd
  go_enter Try.func30, Try.ntmps30
  go_wp2_with fail
  go_loopw [3] (fun iv wi => ∃ m n, iv = .pointer (hd m) ∧ Hid (Scp w m ∧ fnd x.s x.v m = fnd x.s x.v l) ∧ wi = w.drewN n) (fun iv _ => mea iv)
  case atStart => exact ⟨l, 0, by rw [HQ.out], Lib.hid ⟨HT.out, rfl⟩, rfl⟩
  case round =>
    obtain ⟨m, n, rfl, HM, rfl⟩ := hrel
    cases m with
    | nil =>
      have HF := Lib.hid (show fnd x.s x.v l = [] from HM.out.2.symm)
      simp only [hd]
      go_wp2_with fail
      go_ret
      rw [HF.out]
      exact ⟨rfl, ⟨n, rfl⟩⟩
    | cons y t =>
      obtain ⟨hscp, hfn⟩ := HM.out
      obtain ⟨d0, d2, d3⟩ := hscp.cells
      obtain ⟨_, hisy, dd, dT⟩ := hscp
      have HIY := Lib.hid hisy
      clear hisy
      obtain ⟨q2, hq2⟩ : ∃ q, hd t = q := ⟨_, rfl⟩
      rw [hq2] at d3
      have HQ2 := Lib.hid hq2
      have HT2 := Lib.hid dT
      have HF := Lib.hid hfn
      have HD := Lib.hid dd
      clear dT hfn dd HM hq2
      simp only [hd]
      by_cases hv : y.v = x.v
      · have hvb : (y.v != x.v) = false := by rw [hv]; simp
        have HV := Lib.hid hv
        clear hv
        go_wp2_with fail
        go_quiet (fail)
        have he : ∀ k, (Go.binOp .eql 52 (.pointer (some y.s)) (.pointer (some x.s))).run Try.prog (w.drewN k) = .ok (.bool (decide (y.s = x.s))) (w.drewN k) := fun k => eq_sch (w := w.drewN k) HIY.out HIX.out
        by_cases hs : y.s = x.s
        · have HS := Lib.hid hs
          simp only [hs, decide_true] at he
          rw [hs] at d0
          clear hs
          go_wp2_with fail
          go_quiet (fail)
          go_wp2_with fail
          go_ret
          have : fnd x.s x.v l = y :: t := by rw [← HF.out]; simp [fnd, HV.out, HS.out]
          rw [this]
          exact ⟨rfl, ⟨_, by rw [World.drewN_drewN, World.drewN_drewN]⟩⟩
        · have HS := Lib.hid hs
          simp only [hs, decide_false] at he
          clear hs
          go_wp2_with fail
          go_quiet (fail)
          go_wp2_with fail
          go_roundw
          case rel =>
            refine ⟨t, _, congrArg Value.pointer HQ2.out.symm, Lib.hid ⟨HT2.out, ?_⟩, rfl⟩
            rw [← HF.out]; simp [fnd, HV.out, HS.out]
          case measure =>
            rw [← HQ2.out]
            cases t with
            | nil => simp [hd, mea]
            | cons z t =>
              have := HD.out z (by simp)
              simp [hd, mea]; omega
      · have hvb : (y.v != x.v) = true := by rw [bne_iff_ne]; exact hv
        have HV := Lib.hid hv
        clear hv
        go_wp2_with fail
        go_quiet (fail)
        go_wp2_with fail
        go_ret
        have : fnd x.s x.v l = [] := by rw [← HF.out]; simp [fnd, HV.out]
        rw [this]
        exact ⟨rfl, ⟨_, World.drewN_drewN _ _ _⟩⟩

/-- The scopes that are made of schemas and values, one within the other. -/
structure PtrRow (w : World) (A : Option Addr) (ss : List Addr) : Prop where
  at_ : ∀ i s, ss[i]? = some s → ∃ ad, A = some ad ∧ w.cell? (ad.add i) = some (.pointer (some s)) ∧ Isc w s
def IntRow (w : World) (A : Option Addr) (vs : List Int) : Prop := ∀ i v, vs[i]? = some v → ∃ ad, A = some ad ∧ w.cell? (ad.add i) = some (.int .i64 v)
/-- What was made: schemas and values of the scopes, the outermost one first. -/
def outer (m : List Sc) : List (Addr × Int) := (m.map fun x => (x.s, x.v)).reverse
set_option maxHeartbeats 2000000 in
theorem scopes (A B : Option Addr) (c d : Nat) (ss : List Addr) (vs : List Int) (w : World) (hA : PtrRow w A ss) (hB : IntRow w B vs) (hlen : vs.length = ss.length) (hn : ss.length ≤ 4294967296) :
    Calls Try.prog 29 #[.slice A ss.length c, .slice B vs.length d] w fun e w' => ∃ m, e = .returned (.pointer (hd m)) ∧ Scp w' m ∧ outer m = ss.zip vs ∧ Below w.heap.size w w' := by
  have HA := Lib.hid hA
  have HB := Lib.hid hB
  clear hA hB
  go_enter Try.func29, Try.ntmps29
  go_wp2_with fail
  go_loopw [5, 10] (fun pv iv wi => ∃ (i : Nat) (m : List Sc), pv = .pointer (hd m) ∧ iv = .int .i64 i ∧ i ≤ ss.length ∧ Hid (Scp wi m ∧ outer m = (ss.zip vs).take i ∧ Below w.heap.size w wi)) (fun _ iv _ => ss.length - (intOf iv).toNat)
  case atStart => exact ⟨0, [], rfl, rfl, by omega, Lib.hid ⟨trivial, rfl, Below.refl _ _⟩⟩
  case round =>
    obtain ⟨i, m, rfl, rfl, hil, HM⟩ := hrel
    obtain ⟨q, hq⟩ : ∃ q, hd m = q := ⟨_, rfl⟩
    rw [hq]
    have HQ := Lib.hid hq
    clear hq
    by_cases hlt : i < ss.length
    · have hd1 : decide ((i : Int) < (ss.length : Int)) = true := decide_eq_true (by omega)
      obtain ⟨ad, rfl, hca, hisc⟩ := HA.out.at_ i ss[i] (List.getElem?_eq_getElem hlt)
      obtain ⟨bd, rfl, hcb⟩ := HB.out i vs[i] (List.getElem?_eq_getElem (by omega))
      have hbx := HM.out.2.2
      have ca : wr.cell? (ad.add i) = some (.pointer (some ss[i])) := by rw [hbx.cell (lt_of_cell hca)]; exact hca
      have cb : wr.cell? (bd.add i) = some (.int .i64 vs[i]) := by rw [hbx.cell (lt_of_cell hcb)]; exact hcb
      have HI := Lib.hid hisc
      clear hca hcb hisc hbx
      go_wp2_with fail
      obtain ⟨hsc, hout, hbx⟩ := HM.out
      have hbn : Below wr.heap.size wr (wr.alloc (.cells #[.pointer (some ss[i]), .string ⟨#[]⟩, .int .i64 vs[i], .pointer q] 78)) := (Below.refl _ _).alloc (Nat.le_refl _) _
      refine ⟨⟨i + 1, ⟨wr.heap.size, ss[i], vs[i]⟩ :: m, rfl, by go_num, by omega, Lib.hid ⟨⟨⟨_, _, by rw [HQ.out]; exact heap_alloc_new wr _⟩, (HI.out.kept hbx).kept hbn, hsc.head, hsc.kept hbn⟩, ?_, hbx.trans (hbn.mono hbx.size)⟩⟩, ?_⟩
      · rw [List.take_succ_eq_append_getElem (by simp; omega), ← hout]
        simp [outer]
      · simp [intOf]; omega
    · obtain rfl : i = ss.length := by omega
      have hd1 : decide ((ss.length : Int) < (ss.length : Int)) = false := by simp
      clear hlt
      go_wp2_with fail
      go_ret
      refine ⟨m, by rw [HQ.out]; rfl, HM.out.1, ?_, HM.out.2.2⟩
      rw [HM.out.2.1, List.take_of_length_le]
      simp; omega
end Go.Proofs.Ytabadjidlfpngaa.Cyc
