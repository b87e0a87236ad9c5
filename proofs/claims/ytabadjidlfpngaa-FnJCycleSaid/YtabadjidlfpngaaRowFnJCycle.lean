/- FnJCycle: the row: the statement holds by the walk. -/
import Derived.Test.YtabadjidlfpngaaRows
import Derived.Test.YtabadjidlfpngaaLawCycle
import Derived.WalkKit
import Derived.ProofKit
import Derived.OpenShut
import Derived.ShutString
import Derived.ChangeOld
import Derived.Below
import Derived.SizedLaws
import Derived.Test.YtabadjidlfpngaaWSized
import Derived.Test.YtabadjidlfpngaaOpen
namespace Go.Proofs.Ytabadjidlfpngaa.fnJCycle
open Go.ChangeShapes Go.WideShapes Go.ChangeAt Go.RowKit
open Go.ChangeMaps (open_string shut_string)
set_option linter.unusedVariables false
set_option linter.unusedSimpArgs false
theorem own : ownKnob Try.prog.godebug = none := by kernel_rfl
theorem laidOut : laidOutB Try.prog = true := by kernel_rfl
def IsRow (k : IntKind) (w : World) (a : Option Addr) (len cap : Nat) (zs : List Int) : Prop :=
  (a = none ∧ len = 0 ∧ cap = 0 ∧ zs = []) ∨
  ∃ x, a = some x ∧ len ≤ cap ∧ cap ≤ maxLen ∧ zs.length = cap ∧ (∀ i, i < zs.length → w.cell? (x.add i) = some (.int k (zs.getD i 0))) ∧ ∀ n ∈ zs, (Lit.int k n).wf = true
open Go.Proofs.YtabadjidlfpngaaW.PrintWords Go.Proofs.Ytabadjidlfpngaa.Op Go.Proofs.Ytabadjidlfpngaa.PFnJCycle
def wf_k40 (x : S40) : Prop := (WI .i64) x.f0 ∧ (WI .i64) x.f1
theorem op_k40 (f : Nat) : Fu Try.prog k40 wf_k40 40 f := by
  intro H enc w base spare held cs x h
  obtain ⟨xs, n, rfl, _, hl, hxl, hg⟩ := DataW.trod_struct Try.underlying40 h
  have hl' : cs.length = 2 := hl.trans (by kernel_rfl)
  obtain ⟨a0, h0, w0⟩ := field (wf := (WI .i64)) (s := 1) hxl hg 0 _ rfl rfl rfl (by kernel_rfl) (fu_int (by kernel_rfl))
  obtain ⟨a1, h1, w1⟩ := field (wf := (WI .i64)) (s := 1) hxl hg 1 _ rfl rfl rfl (by kernel_rfl) (fu_int (by kernel_rfl))
  exact ⟨⟨a0, a1⟩, pair_at h0 (last_at h1 hl') rfl, w0, w1⟩
set_option maxRecDepth 100000 in
theorem lifted (os : Os) (started : os.Started) (H : Type) (enc : TypeId × Value → H) :
    ReturnsInHanded {} Try.checked os 3 .any (Rows.fnJCycleSpec.pre6 enc Try.prog Try.f3 Rows.fnJCycleRow.domain false) (Rows.fnJCycleSpec.post enc Try.prog Try.f3 false true false false) := by
  refine returnsInHanded_of_change_sized (C := Try.checked) own started (by kernel_rfl) Try.func3
    (ChangeSpec.witness6 (enc := enc) (C := Try.checked) false ⟨#[], #[.slice none 0 0], []⟩ 8 (by kernel_rfl) (by kernel_rfl) (by kernel_rfl) (by kernel_rfl)) ?_
  intro W base args ds gs before hval0 hW hcnd hsz0 _
  have hsz : (DataW.weightsEach Try.prog (Try.f3.params.toList ++ Rows.fnJCycleSpec.plain.varTypes Try.prog) (ds ++ gs)).all (· ≤ reachBytes) = true := hsz0
  have hval : ∀ (j : Nat) t v, Try.f3.params[j]? = some t → args[j]? = some v → Value.okWide Try.prog W .any base t v := hval0
  have hW' := hW
  obtain ⟨p, q, hA0, hV, rfl, hfz, hnd⟩ := hW
  have hA : DataW.TrodAll enc Try.prog W 0 (fun _ => true) true Try.f3.params.toList args.toList ds p := hA0
  rw [Try.params3] at hA hval hsz
  obtain ⟨v0, vs0, d0, ds0, p0, q0, hargs, rfl, rfl, h0, r0⟩ := trodAll_cons hA
  obtain ⟨rfl, rfl, rfl⟩ := trodAll_nil r0
  obtain rfl : args = #[v0] := by cases args; simp_all
  obtain ⟨rfl, rfl⟩ := trodVars_none hV
  obtain ⟨a0, len0, cap0, rfl⟩ := okWide_slice Try.underlying22 (hval 0 22 v0 rfl rfl)
  have k0 := h0
  have lt0 : ∀ x ∈ p0, x.block < W.heap.size := by obtain ⟨m, hm⟩ := k0; exact DataW.trod_lt m _ _ _ hm
  obtain ⟨fuel0, hf0⟩ := h0
  obtain ⟨l0, ⟨A0, c0, e0, y0, w0⟩, wl0⟩ := (fu_slice (d := k40) (wf := wf_k40) (e := 40) Try.underlying22 (by kernel_rfl) fun n _ => op_k40 n).get hf0
  obtain ⟨rfl, rfl, rfl⟩ : a0 = A0 ∧ len0 = l0.length ∧ cap0 = c0 := by simpa [Value.cells] using e0

  clear hA0 hval0 hsz0 hsz
  refine (Cyc.walk a0 cap0 l0 W w0 y0 wl0.2).mono fun e W' ⟨he, bel⟩ => ?_
  subst he
  exact ⟨_, rfl, _, _, _, [], _, [], hW', trodAll_mk1 (shut_bool Try.underlying4 _), (trodAll_cons_mk (Below.trod laidOut (by kernel_rfl) (of_decide_eq_true (by kernel_rfl)) k0 bel lt0) trodAll_mk0), rfl, bel.frame _, fun h => by cases h⟩
theorem over : Rows.fnJCycleRow.holds Try.pinned (OpenSpec.ofChange Rows.fnJCycleSpec) :=
  OpenClaim.holds_of_wide 3 Try.f3 rfl rfl rfl rfl rfl rfl rfl ⟨rfl, rfl, rfl, rfl, rfl⟩ rfl rfl rfl rfl rfl (by kernel_rfl) Try.func3 (by kernel_rfl)
    (of_decide_eq_true (by kernel_rfl)) (by unfold Func.isWrapper; first | (rw [if_pos (by decide +kernel)]; kernel_rfl) | (rw [if_neg (by decide +kernel)]; exact ⟨rfl, rfl⟩))
    (fun os started H enc _ => lifted os started H enc)
theorem proved : Rows.FnJCycleSaid := over
#print axioms proved
end Go.Proofs.Ytabadjidlfpngaa.fnJCycle
namespace Go.Proofs.Ytabadjidlfpngaa
/-- The row, under a short name, for the claim. -/
theorem fnJCycle_holds : Rows.FnJCycleSaid := fnJCycle.proved
end Go.Proofs.Ytabadjidlfpngaa
