/- Arguments of the printed kinds laid open. -/
import Derived.Test.YtdleegmdpgefmaaOpen
import Derived.Test.YtdleegmdpgefmaaPJx0
import Derived.ProofKit
namespace Go.Proofs.Ytdleegmdpgefmaa.Op
open Go.RowKit Go.Proofs.YtdleegmdpgefmaaW.PrintWords Go.Proofs.Ytdleegmdpgefmaa.PJ
set_option linter.unusedVariables false
set_option linter.unusedSimpArgs false
inductive wf_k25 : S25 → Prop
  | mk (x : S25) : ((WI .i64) x.f0) → (WB x.f1) → ((WI .i64) x.f2) → (WS x.f3) → ((WL 16 WS) x.f4) → (x.f5.length * 88 ≤ 140737488351232) → (∀ y ∈ x.f5, wf_k25 y) → wf_k25 x
set_option maxHeartbeats 1000000 in
theorem op_k25 (f : Nat) : Fu Try.prog k25 wf_k25 25 f := by
  induction f using Nat.strongRecOn with | _ f ih => ?_
  intro H enc w base spare held cs x h hwt
  obtain ⟨xs, n, rfl, rfl, hl, hxl, hg⟩ := DataW.trod_struct Try.underlying25 h
  have hl' : cs.length = 6 := hl.trans (by kernel_rfl)
  obtain ⟨a0, h0, w0⟩ := field (wf := (WI .i64)) (s := 1) Try.underlying25 hwt hxl hg 0 _ rfl rfl rfl (by kernel_rfl) (fu_int (by kernel_rfl))
  obtain ⟨a1, h1, w1⟩ := field (wf := WB) (s := 1) Try.underlying25 hwt hxl hg 1 _ rfl rfl rfl (by kernel_rfl) (fu_bool (by kernel_rfl))
  obtain ⟨a2, h2, w2⟩ := field (wf := (WI .i64)) (s := 1) Try.underlying25 hwt hxl hg 2 _ rfl rfl rfl (by kernel_rfl) (fu_int (by kernel_rfl))
  obtain ⟨a3, h3, w3⟩ := field (wf := WS) (s := 1) Try.underlying25 hwt hxl hg 3 _ rfl rfl rfl (by kernel_rfl) (fu_string (by kernel_rfl))
  obtain ⟨a4, h4, w4⟩ := field (wf := (WL 16 WS)) (s := 1) Try.underlying25 hwt hxl hg 4 _ rfl rfl rfl (by kernel_rfl) (fu_slice (e := 9) (B := 16) (by kernel_rfl) (by kernel_rfl) (by kernel_rfl) fun n hn => (fu_string (by kernel_rfl)))
  obtain ⟨a5, h5, w5⟩ := field (wf := (WL 88 wf_k25)) (s := 1) Try.underlying25 hwt hxl hg 5 _ rfl rfl rfl (by kernel_rfl) (fu_slice (e := 25) (B := 88) (by kernel_rfl) (by kernel_rfl) (by kernel_rfl) fun n hn => (ih n (by omega)))
  obtain ⟨x, hx⟩ : ∃ x : S25, x = ⟨a0, a1, a2, a3, a4, a5⟩ := ⟨_, rfl⟩
  have hK : (F25 k25).K w x cs := by subst hx; exact pair_at h0 (pair_at h1 (pair_at h2 (pair_at h3 (pair_at h4 (last_at h5 hl') rfl) rfl) rfl) rfl) rfl
  have hW : wf_k25 x := by subst hx; exact wf_k25.mk _ w0 w1 w2 w3 w4 w5.1 w5.2
  clear hx hwt hl hxl hg h ih hl' h0 w0 h1 w1 h2 w2 h3 w3 h4 w4 h5 w5
  refine ⟨x, ?_, hW⟩
  obtain ⟨_, _, rfl, rfl, ⟨_, _, rfl, rfl, ⟨_, _, rfl, rfl, ⟨_, _, rfl, rfl, ⟨_, _, rfl, ⟨A4, c4, rfl, l4, g4⟩, ⟨A5, c5, rfl, l5, g5⟩⟩⟩⟩⟩⟩ := hK
  exact k25_mk w x l4 g4 l5 g5
end Go.Proofs.Ytdleegmdpgefmaa.Op
