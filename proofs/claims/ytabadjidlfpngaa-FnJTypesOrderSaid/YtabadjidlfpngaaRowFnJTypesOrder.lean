/- FnJTypesOrder: the row: the statement holds by the walk. -/
import Derived.Test.YtabadjidlfpngaaRows
import Derived.Test.YtabadjidlfpngaaLawTypesOrder
import Derived.WalkKit
import Derived.ProofKit
import Derived.OpenShut
import Derived.ShutString
import Derived.ChangeOld
import Derived.Below
import Derived.SizedLaws
import Derived.Test.YtabadjidlfpngaaWSized
import Derived.Deep.Strs
namespace Go.Proofs.Ytabadjidlfpngaa.fnJTypesOrder
open Go.ChangeShapes Go.WideShapes Go.ChangeAt Go.RowKit
open Go.ChangeMaps (open_string shut_string)
set_option linter.unusedVariables false
set_option linter.unusedSimpArgs false
theorem own : ownKnob Try.prog.godebug = none := by kernel_rfl
theorem laidOut : laidOutB Try.prog = true := by kernel_rfl
def IsRow (k : IntKind) (w : World) (a : Option Addr) (len cap : Nat) (zs : List Int) : Prop :=
  (a = none ∧ len = 0 ∧ cap = 0 ∧ zs = []) ∨
  ∃ x, a = some x ∧ len ≤ cap ∧ cap ≤ maxLen ∧ zs.length = cap ∧ (∀ i, i < zs.length → w.cell? (x.add i) = some (.int k (zs.getD i 0))) ∧ ∀ n ∈ zs, (Lit.int k n).wf = true
open Go.Proofs.YtabadjidlfpngaaW.PrintWords
theorem rowStr {w : World} {x : Addr} {n : Nat} {Sx : Nat → ByteArray} (hn : n ≤ maxLen) (h : ∀ i, i < n → w.cell? (x.add i) = some (.string (Sx i))) : Kd.string.C w (some x) ((List.range n).map Sx).length ((List.range n).map Sx) := by
  refine ⟨rfl, by simp; unfold maxLen at hn; omega, fun _ => ⟨x, rfl, fun j p hp => ?_⟩⟩
  have hj : j < n := by
    have := (List.getElem?_eq_some_iff.1 hp).1; simpa using this
  have hpe : p = Sx j := by
    rw [List.getElem?_map, List.getElem?_range hj] at hp
    exact (Option.some.inj hp).symm
  subst hpe
  refine ⟨[.string (Sx j)], rfl, rfl, fun i u hu => ?_⟩
  match i, hu with
  | 0, hu =>
    simp at hu
    subst hu
    have := h j hj
    simpa [Kd.string, Kd.scalar] using this
set_option maxRecDepth 100000 in
theorem lifted (os : Os) (started : os.Started) (H : Type) (enc : TypeId × Value → H) :
    ReturnsInHanded {} Try.checked os 6 .any (Rows.fnJTypesOrderSpec.pre6 enc Try.prog Try.f6 Rows.fnJTypesOrderRow.domain false) (Rows.fnJTypesOrderSpec.post enc Try.prog Try.f6 false true false false) := by
  refine returnsInHanded_of_change_sized (C := Try.checked) own started (by kernel_rfl) Try.func6
    (ChangeSpec.witness6 (enc := enc) (C := Try.checked) false ⟨#[], #[.slice none 0 0, .slice none 0 0], []⟩ 8 (by kernel_rfl) (by kernel_rfl) (by kernel_rfl) (by kernel_rfl)) ?_
  intro W base args ds gs before hval0 hW hcnd hsz0 _
  have hsz : (DataW.weightsEach Try.prog (Try.f6.params.toList ++ Rows.fnJTypesOrderSpec.plain.varTypes Try.prog) (ds ++ gs)).all (· ≤ reachBytes) = true := hsz0
  have hval : ∀ (j : Nat) t v, Try.f6.params[j]? = some t → args[j]? = some v → Value.okWide Try.prog W .any base t v := hval0
  have hW' := hW
  obtain ⟨p, q, hA0, hV, rfl, hfz, hnd⟩ := hW
  have hA : DataW.TrodAll enc Try.prog W 0 (fun _ => true) true Try.f6.params.toList args.toList ds p := hA0
  rw [Try.params6] at hA hval hsz
  obtain ⟨v0, vs0, d0, ds0, p0, q0, hargs, rfl, rfl, h0, r0⟩ := trodAll_cons hA
  obtain ⟨v1, vs1, d1, ds1, p1, q1, rfl, rfl, rfl, h1, r1⟩ := trodAll_cons r0
  obtain ⟨rfl, rfl, rfl⟩ := trodAll_nil r1
  obtain rfl : args = #[v0, v1] := by cases args; simp_all
  obtain ⟨rfl, rfl⟩ := trodVars_none hV
  obtain ⟨a0, len0, cap0, rfl⟩ := okWide_slice Try.underlying32 (hval 0 32 v0 rfl rfl)
  have k0 := h0
  have lt0 : ∀ x ∈ p0, x.block < W.heap.size := by obtain ⟨m, hm⟩ := k0; exact DataW.trod_lt m _ _ _ hm
  obtain ⟨l0, e0, w0, y0⟩ : ∃ l : List ByteArray, len0 = l.length ∧ Kd.string.C W a0 l.length l ∧ l.length ≤ cap0 := by
    obtain ⟨fuel, hf⟩ := h0
    rcases Go.Deep.open_strs Try.underlying32 Try.underlying9 (by kernel_rfl) hf with ⟨hcs, _⟩ | ⟨x, ln, cp, m, Sx, hcs, _, hl, hm, hmm, _, hcell⟩
    · simp [Value.cells] at hcs
      obtain ⟨rfl, rfl, rfl⟩ := hcs
      exact ⟨[], rfl, Kd.C_nil _ _, Nat.le_refl _⟩
    · simp [Value.cells] at hcs
      obtain ⟨rfl, rfl, rfl⟩ := hcs
      have hml : len0 ≤ m := by rw [hmm]; simpa using hl
      exact ⟨(List.range len0).map Sx, by simp, rowStr (by omega) (fun i hi => (hcell i (by omega)).1), by simpa using hl⟩
  subst e0
  obtain ⟨a1, len1, cap1, rfl⟩ := okWide_slice Try.underlying32 (hval 1 32 v1 rfl rfl)
  have k1 := h1
  have lt1 : ∀ x ∈ p1, x.block < W.heap.size := by obtain ⟨m, hm⟩ := k1; exact DataW.trod_lt m _ _ _ hm
  obtain ⟨l1, e1, w1, y1⟩ : ∃ l : List ByteArray, len1 = l.length ∧ Kd.string.C W a1 l.length l ∧ l.length ≤ cap1 := by
    obtain ⟨fuel, hf⟩ := h1
    rcases Go.Deep.open_strs Try.underlying32 Try.underlying9 (by kernel_rfl) hf with ⟨hcs, _⟩ | ⟨x, ln, cp, m, Sx, hcs, _, hl, hm, hmm, _, hcell⟩
    · simp [Value.cells] at hcs
      obtain ⟨rfl, rfl, rfl⟩ := hcs
      exact ⟨[], rfl, Kd.C_nil _ _, Nat.le_refl _⟩
    · simp [Value.cells] at hcs
      obtain ⟨rfl, rfl, rfl⟩ := hcs
      have hml : len1 ≤ m := by rw [hmm]; simpa using hl
      exact ⟨(List.range len1).map Sx, by simp, rowStr (by omega) (fun i hi => (hcell i (by omega)).1), by simpa using hl⟩
  subst e1

  clear hA0 hval0 hsz0 hsz
  refine (Types.walkOrder a0 cap0 l0 a1 cap1 l1 W w0 y0 w1 y1).mono fun e W' ⟨he, bel⟩ => ?_
  subst he
  exact ⟨_, rfl, _, _, _, [], _, [], hW', trodAll_mk1 (shut_bool Try.underlying4 _), (trodAll_cons_mk (Below.trod laidOut (by kernel_rfl) (of_decide_eq_true (by kernel_rfl)) k0 bel lt0) (trodAll_cons_mk (Below.trod laidOut (by kernel_rfl) (of_decide_eq_true (by kernel_rfl)) k1 bel lt1) trodAll_mk0)), rfl, bel.frame _, fun h => by cases h⟩
theorem over : Rows.fnJTypesOrderRow.holds Try.pinned (OpenSpec.ofChange Rows.fnJTypesOrderSpec) :=
  OpenClaim.holds_of_wide 6 Try.f6 rfl rfl rfl rfl rfl rfl rfl ⟨rfl, rfl, rfl, rfl, rfl⟩ rfl rfl rfl rfl rfl (by kernel_rfl) Try.func6 (by kernel_rfl)
    (of_decide_eq_true (by kernel_rfl)) (by unfold Func.isWrapper; first | (rw [if_pos (by decide +kernel)]; kernel_rfl) | (rw [if_neg (by decide +kernel)]; exact ⟨rfl, rfl⟩))
    (fun os started H enc _ => lifted os started H enc)
theorem proved : Rows.FnJTypesOrderSaid := over
#print axioms proved
end Go.Proofs.Ytabadjidlfpngaa.fnJTypesOrder
namespace Go.Proofs.Ytabadjidlfpngaa
/-- The row, under a short name, for the claim. -/
theorem fnJTypesOrder_holds : Rows.FnJTypesOrderSaid := fnJTypesOrder.proved
end Go.Proofs.Ytabadjidlfpngaa
