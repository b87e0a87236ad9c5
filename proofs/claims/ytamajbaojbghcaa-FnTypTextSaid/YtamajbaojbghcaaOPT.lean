/- Arguments of the printed kinds laid open. -/
import Derived.Test.YtamajbaojbghcaaOpen
import Derived.Test.YtamajbaojbghcaaPTx0
import Derived.ProofKit
namespace Go.Proofs.Ytamajbaojbghcaa.Op
open Go.RowKit Go.Proofs.YtamajbaojbghcaaW.PrintWords Go.Proofs.Ytamajbaojbghcaa.PT
set_option linter.unusedVariables false
set_option linter.unusedSimpArgs false
inductive wf_k24 : S24 → Prop
  | mk (x : S24) : (WS x.f0) → (x.f1.length * 48 ≤ 140737488351232) → (∀ y ∈ x.f1, wf_k24 y) → (WB x.f2) → wf_k24 x
set_option maxHeartbeats 1000000 in
theorem op_k24 (f : Nat) : Fu Try.prog k24 wf_k24 24 f := by
  induction f using Nat.strongRecOn with | _ f ih => ?_
  intro H enc w base spare held cs x h hwt
  obtain ⟨xs, n, rfl, rfl, hl, hxl, hg⟩ := DataW.trod_struct Try.underlying24 h
  have hl' : cs.length = 3 := hl.trans (by kernel_rfl)
  obtain ⟨a0, h0, w0⟩ := field (wf := WS) (s := 1) Try.underlying24 hwt hxl hg 0 _ rfl rfl rfl (by kernel_rfl) (fu_string (by kernel_rfl))
  obtain ⟨a1, h1, w1⟩ := field (wf := (WL 48 wf_k24)) (s := 1) Try.underlying24 hwt hxl hg 1 _ rfl rfl rfl (by kernel_rfl) (fu_slice (e := 24) (B := 48) (by kernel_rfl) (by kernel_rfl) (by kernel_rfl) fun n hn => (ih n (by omega)))
  obtain ⟨a2, h2, w2⟩ := field (wf := WB) (s := 1) Try.underlying24 hwt hxl hg 2 _ rfl rfl rfl (by kernel_rfl) (fu_bool (by kernel_rfl))
  obtain ⟨x, hx⟩ : ∃ x : S24, x = ⟨a0, a1, a2⟩ := ⟨_, rfl⟩
  have hK : (F24 k24).K w x cs := by subst hx; exact pair_at h0 (pair_at h1 (last_at h2 hl') rfl) rfl
  have hW : wf_k24 x := by subst hx; exact wf_k24.mk _ w0 w1.1 w1.2 w2
  clear hx hwt hl hxl hg h ih hl' h0 w0 h1 w1 h2 w2
  refine ⟨x, ?_, hW⟩
  obtain ⟨_, _, rfl, rfl, ⟨_, _, rfl, ⟨A1, c1, rfl, l1, g1⟩, rfl⟩⟩ := hK
  exact k24_mk w x l1 g1
end Go.Proofs.Ytamajbaojbghcaa.Op
