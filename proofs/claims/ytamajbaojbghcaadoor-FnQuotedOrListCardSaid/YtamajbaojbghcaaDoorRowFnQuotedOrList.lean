/- FnQuotedOrList: the row and its tied card: the statement holds by the walk, the listed variables as the program's text lays them. -/
import Derived.Test.YtamajbaojbghcaaDoorRows
import Derived.Test.YtamajbaojbghcaaDoorCards
import Derived.Test.YtamajbaojbghcaaDoorTie
import Derived.LaidMore
import Derived.LaidLaws
import Derived.ChangeSame
import Derived.ChangeVars
import Derived.JoinedOf
import Derived.SevenTiedAt
import Derived.Stop.Joined
import Derived.Stop.LaidErr
import Derived.Test.YtamajbaojbghcaaDoorLawQuo
import Derived.WalkKit
import Derived.ProofKit
import Derived.OpenShut
import Derived.ShutString
import Derived.ChangeOld
import Derived.Below
import Derived.SizedLaws
import Derived.Test.YtamajbaojbghcaaDoorWSized
import Derived.Deep.Strs
namespace Go.Proofs.YtamajbaojbghcaaDoor.fnQuotedOrList
open Go.ChangeShapes Go.WideShapes Go.ChangeAt Go.RowKit
open Go.ChangeMaps (open_string shut_string)
set_option linter.unusedVariables false
set_option linter.unusedSimpArgs false
theorem own : ownKnob Tryd.prog.godebug = none := by kernel_rfl
theorem laidOut : laidOutB Tryd.prog = true := by kernel_rfl
def IsRow (k : IntKind) (w : World) (a : Option Addr) (len cap : Nat) (zs : List Int) : Prop :=
  (a = none ∧ len = 0 ∧ cap = 0 ∧ zs = []) ∨
  ∃ x, a = some x ∧ len ≤ cap ∧ cap ≤ maxLen ∧ zs.length = cap ∧ (∀ i, i < zs.length → w.cell? (x.add i) = some (.int k (zs.getD i 0))) ∧ ∀ n ∈ zs, (Lit.int k n).wf = true
open Go.Proofs.YtamajbaojbghcaaDoorW.PrintWords
theorem rowStr {w : World} {x : Addr} {n : Nat} {Sx : Nat → ByteArray} (hn : n ≤ maxLen) (h : ∀ i, i < n → w.cell? (x.add i) = some (.string (Sx i))) : Kd.string.C w (some x) ((List.range n).map Sx).length ((List.range n).map Sx) := by
  refine ⟨rfl, by simp; unfold maxLen at hn; omega, fun _ => ⟨x, rfl, fun j p hp => ?_⟩⟩
  have hj : j < n := by
    have := (List.getElem?_eq_some_iff.1 hp).1; simpa using this
  have hpe : p = Sx j := by
    rw [List.getElem?_map, List.getElem?_range hj] at hp
    exact (Option.some.inj hp).symm
  subst hpe
  refine ⟨[.string (Sx j)], rfl, rfl, fun i u hu => ?_⟩
  match i, hu with
  | 0, hu =>
    simp at hu
    subst hu
    have := h j hj
    simpa [Kd.string, Kd.scalar] using this
theorem door_met (os : Os) (args : Array Value) : laidMetH Tryd.prog Rows.fnQuotedOrListRow.laid ((World.doorLaid Tryd.prog 28 os).forCall (fun _ _ => 0) ⟨#[], args, []⟩).memory :=
  laidMetH_of_parts3 (fuel := 8) (laidMet_of_run' 8 (by kernel_rfl) (by kernel_rfl)) (by kernel_rfl) (by kernel_rfl)
set_option maxRecDepth 100000 in
theorem lifted (os : Os) (started : os.Started) (H : Type) (enc : TypeId × Value → H) :
    ReturnsInHanded {} Tryd.checked os 4 .any (fun w args => (Rows.fnQuotedOrListSpec.pre enc Tryd.prog Tryd.f4 [] false w args ∧ laidMetH Tryd.prog Rows.fnQuotedOrListRow.laid w) ∧ sizedMet enc Tryd.prog Tryd.f4 (OpenSpec.ofChange Rows.fnQuotedOrListSpec) false w args)
      (Rows.fnQuotedOrListSpec.post enc Tryd.prog Tryd.f4 false true false false) := by
  refine returnsInHanded_of_change_and (C := Tryd.checked) (X := fun w _ => laidMetH Tryd.prog Rows.fnQuotedOrListRow.laid w) (fun _ _ _ hh h => h.of_heap hh) own started (by kernel_rfl) Tryd.func4
    (ChangeSpec.witness_shaped (enc := enc) (C := Tryd.checked) (os := os) (X := fun w _ => laidMetH Tryd.prog Rows.fnQuotedOrListRow.laid w) false (World.doorLaid Tryd.prog 28 os) #[.slice none 0 0] 8 rfl (World.shaped_of_RefB (by kernel_rfl) (by kernel_rfl)) (by kernel_rfl) (by kernel_rfl) (by kernel_rfl) (door_met os _)) ?_
  intro W base args ds gs before hval0 hW hcnd hsz0 hL _
  have hsz : (DataW.weightsEach Tryd.prog (Tryd.f4.params.toList ++ Rows.fnQuotedOrListSpec.plain.varTypes Tryd.prog) (ds ++ gs)).all (· ≤ reachBytes) = true := hsz0
  have hval : ∀ (j : Nat) t v, Tryd.f4.params[j]? = some t → args[j]? = some v → Value.okWide Tryd.prog W .any base t v := hval0
  have hW' := hW
  obtain ⟨p, q, hA0, hV, rfl, hfz, hnd⟩ := hW
  have hA : DataW.TrodAll enc Tryd.prog W 0 (fun _ => true) true Tryd.f4.params.toList args.toList ds p := hA0
  rw [Tryd.params4] at hA hval hsz
  obtain ⟨v0, vs0, d0, ds0, p0, q0, hargs, rfl, rfl, h0, r0⟩ := trodAll_cons hA
  obtain ⟨rfl, rfl, rfl⟩ := trodAll_nil r0
  obtain rfl : args = #[v0] := by cases args; simp_all
  obtain ⟨rfl, rfl⟩ := trodVars_none hV
  obtain ⟨a0, len0, cap0, rfl⟩ := okWide_slice Tryd.underlying22 (hval 0 22 v0 rfl rfl)
  have k0 := h0
  have lt0 : ∀ x ∈ p0, x.block < W.heap.size := by obtain ⟨m, hm⟩ := k0; exact DataW.trod_lt m _ _ _ hm
  obtain ⟨l0, e0, w0, y0⟩ : ∃ l : List ByteArray, len0 = l.length ∧ Kd.string.C W a0 l.length l ∧ l.length ≤ cap0 := by
    obtain ⟨fuel, hf⟩ := h0
    rcases Go.Deep.open_strs Tryd.underlying22 Tryd.underlying9 (by kernel_rfl) hf with ⟨hcs, _⟩ | ⟨x, ln, cp, m, Sx, hcs, _, hl, hm, hmm, _, hcell⟩
    · simp [Value.cells] at hcs
      obtain ⟨rfl, rfl, rfl⟩ := hcs
      exact ⟨[], rfl, Kd.C_nil _ _, Nat.le_refl _⟩
    · simp [Value.cells] at hcs
      obtain ⟨rfl, rfl, rfl⟩ := hcs
      have hml : len0 ≤ m := by rw [hmm]; simpa using hl
      exact ⟨(List.range len0).map Sx, by simp, rowStr (by omega) (fun i hi => (hcell i (by omega)).1), by simpa using hl⟩
  subst e0

  clear hA0 hval0 hsz0 hsz
  refine (Or.walkQuo a0 cap0 l0 W w0 y0).mono fun e W' ⟨he, bel⟩ => ?_
  subst he
  exact ⟨_, rfl, _, _, _, [], _, [], hW', trodAll_mk1 (shut_bool Tryd.underlying4 _), (trodAll_cons_mk (Below.trod laidOut (by kernel_rfl) (of_decide_eq_true (by kernel_rfl)) k0 bel lt0) trodAll_mk0), rfl, bel.frame _, fun h => by cases h⟩
theorem over : Rows.fnQuotedOrListRow.holds Tryd.pinned (OpenSpec.ofChange Rows.fnQuotedOrListSpec) :=
  OpenClaim.holds_of_wide 4 Tryd.f4 rfl rfl rfl rfl rfl rfl rfl ⟨rfl, rfl, rfl, rfl, rfl⟩ rfl rfl rfl rfl rfl (by kernel_rfl) Tryd.func4 (by kernel_rfl)
    (of_decide_eq_true (by kernel_rfl)) (by unfold Func.isWrapper; first | (rw [if_pos (by decide +kernel)]; kernel_rfl) | (rw [if_neg (by decide +kernel)]; exact ⟨rfl, rfl⟩))
    (fun os started H enc _ => lifted os started H enc)
theorem card : Rows.FnQuotedOrListCardSaid :=
  Claim7.holds_tied_plain_at .later [] [.sentinel] true (true, "c73b69fcc44353bfcd07623f5f0b33312a1f6fc4d7482942fa094904cc30a20f") false
    over (fun _ h => by cases h) (by kernel_rfl) (fun _ h => by cases h) fnQuotedOrList_row_tie rfl ⟨rfl, rfl⟩ (by kernel_rfl) rfl
    (fun f fn hf hfn => by
      obtain rfl : f = 4 := Option.some.inj ((show Tryd.prog.funcNamed "given.example/pub-querent/laws.FnQuotedOrList" = some 4 by kernel_rfl).symm.trans hf) |>.symm
      obtain rfl : fn = Tryd.f4 := (Option.some.inj (Tryd.func4.symm.trans hfn)).symm
      exact ⟨by kernel_rfl, fun j t ht => by
        rw [Tryd.params4] at ht
        have hm : t ∈ [22] := by simpa using Array.mem_of_getElem? ht
        have hall : ([22].all fun u => !Tryd.prog.wantsStandIn u) = true := by kernel_rfl
        exact (show Tryd.prog.wantsStandIn t = false by simpa using List.all_eq_true.1 hall t hm)⟩)
    (by kernel_rfl)
#print axioms card
end Go.Proofs.YtamajbaojbghcaaDoor.fnQuotedOrList
namespace Go.Proofs.YtamajbaojbghcaaDoor
/-- The tied card, under a short name, for the claim. -/
theorem fnQuotedOrList_holds : Rows.FnQuotedOrListCardSaid := fnQuotedOrList.card
end Go.Proofs.YtamajbaojbghcaaDoor
