-- PRINTED by print.py (a twelfth state) out of the translation. Not trusted: Lean checks it.
import Derived.Test.YtamajbaojbghcaaProg
import Derived.Below
import Derived.Deep.Draws
import Derived.Deep.AppendLies
import Derived.Maps.AppendAt
import Derived.OwnWalk
import Derived.Laws.BytesArg
import Derived.Laws.MakeOwn
import Derived.Laws.OwnMore
import Derived.Deep.OwnRows
import Derived.Tactics
import Derived.Lib.ConvBytes
import Derived.Laws.Slices
import Derived.WalkKit
import Derived.KernelRfl
import Derived.RowKit3
import Derived.Deep.LoopGhost
import Derived.Deep.QuietTactic
import Derived.BigQuiet
import Derived.WideLaws
import Derived.Deep.DeepCutAuto
import Derived.Deep.CutBlock
import Derived.Deep.RegionHeld3
import Derived.Laws.Rows
import Derived.Lib.AppendStr
import Derived.ArgAppend
import Derived.Laws.IdiomCopy
import Derived.OrdersHeld
import Derived.Laws.BitsLemmas
import Derived.RowKit
import Derived.Test.YtamajbaojbghcaaWWords
import Derived.Test.YtamajbaojbghcaaWLast
import Derived.Test.YtamajbaojbghcaaWTab
import Derived.Test.YtamajbaojbghcaaWFour
import Derived.Test.YtamajbaojbghcaaWQPut
import Derived.Test.YtamajbaojbghcaaWApart
import Derived.Test.YtamajbaojbghcaaWArr
import Derived.Test.YtamajbaojbghcaaWZeros
import Derived.Test.YtamajbaojbghcaaWFoot
import Derived.Test.YtamajbaojbghcaaWKept
import Derived.Test.YtamajbaojbghcaaWShare
import Derived.Test.YtamajbaojbghcaaWN
import Derived.Test.YtamajbaojbghcaaWFootNe
import Derived.Test.YtamajbaojbghcaaWAt
import Derived.Test.YtamajbaojbghcaaWEqStruct
import Derived.Test.YtamajbaojbghcaaWRepsOne
import Derived.Test.YtamajbaojbghcaaWInv
import Derived.Test.YtamajbaojbghcaaWInvWords
import Derived.Test.YtamajbaojbghcaaWGuard
import Derived.Test.YtamajbaojbghcaaWNEv
import Derived.Test.YtamajbaojbghcaaWMore
namespace Go.Proofs.Ytamajbaojbghcaa.PT
open Go.RowKit Go.Proofs.YtamajbaojbghcaaW.PrintWords Go.Proofs.YtamajbaojbghcaaW.PrintLast Go.Proofs.YtamajbaojbghcaaW.PrintMore
attribute [local go_sem] max2_int min2_int max_two min_two max_three min_three max_four min_four   -- for this text's walks alone
set_option linter.unusedVariables false
set_option linter.unusedSimpArgs false



def errW : Option Int → Value
  | none => .nilIface
  | some c => .iface 0 (.int .i64 c)
theorem errW_none : errW none = .nilIface := rfl
theorem errW_some (c : Int) : errW (some c) = .iface 0 (.int .i64 c) := rfl

-- the values' own types
/-! #### struct type 24, nested in itself -/
structure S24 where
  f0 : ByteArray
  f1 : (List S24)
  f2 : Bool
def z24 : S24 := ⟨(⟨#[]⟩ : ByteArray), ([] : List S24), false⟩
def F24 (d : Kd S24) : Kd S24 := Kd.iso (Kd.pair Kd.string (Kd.pair (Kd.slice 24 d) Kd.bool)) (fun x : S24 => (x.f0, x.f1, x.f2))
theorem mono24 : Kd.Mono F24 := Kd.mono_iso _ (Kd.mono_pair (Kd.mono_const _) (Kd.mono_pair (Kd.mono_slice 24 Kd.mono_id) (Kd.mono_const _)))
theorem sub24 : Kd.Sub F24 [24] := Kd.sub_iso _ (Kd.sub_pair (Kd.sub_const _ (by decide)) (Kd.sub_pair (Kd.sub_slice 24 (by decide) Kd.sub_id) (Kd.sub_const _ (by decide))))
theorem sz24 : ∀ n, (Kd.upto F24 3 [24] n).sz = 3 := Kd.upto_sz (fun _ => rfl)
def k24 : Kd S24 := Kd.fix F24 3 [24] sz24 (Kd.upto_E sub24)
theorem k24_open {w : World} {x : S24} {cs : List Value} (h : k24.K w x cs) : ∃ A1 c1, cs = [.string x.f0, .slice A1 x.f1.length c1, .bool x.f2] ∧ x.f1.length ≤ c1 ∧ k24.C w A1 x.f1.length x.f1 := by
  obtain ⟨n, h⟩ := h
  cases n with
  | zero => exact h.elim
  | succ n =>
    obtain ⟨_, _, rfl, rfl, ⟨_, _, rfl, ⟨A1, c1, rfl, l1, g1⟩, rfl⟩⟩ := h
    exact ⟨A1, c1, rfl, l1, Kd.fix_C g1⟩
theorem k24_openM {w : World} {base : Nat} {ok : Nat → Prop} {x : S24} {cs : List Value} (h : k24.M w base ok x cs) : ∃ v1, cs = [.string x.f0, v1, .bool x.f2] ∧ k24.R 24 w base ok v1 x.f1 := by
  obtain ⟨n, h⟩ := h
  cases n with
  | zero => exact h.elim
  | succ n =>
    obtain ⟨_, _, rfl, rfl, ⟨_, _, rfl, ⟨v1, rfl, g1⟩, rfl⟩⟩ := h
    exact ⟨v1, rfl, Kd.fix_R g1⟩
theorem k24_mk (w : World) (x : S24) {A1 : Option Addr} {c1 : Nat} (l1 : x.f1.length ≤ c1) (g1 : k24.C w A1 x.f1.length x.f1) : k24.K w x [.string x.f0, .slice A1 x.f1.length c1, .bool x.f2] := by
  obtain ⟨n1, q1⟩ := Kd.fix_C_back mono24 g1
  have r1 := Kd.upto_C_le mono24 sz24 (show n1 ≤ n1 by omega) q1
  exact ⟨n1 + 1, ⟨[.string x.f0], [.slice A1 x.f1.length c1, .bool x.f2], rfl, rfl, ⟨[.slice A1 x.f1.length c1], [.bool x.f2], rfl, ⟨A1, c1, rfl, l1, r1⟩, rfl⟩⟩⟩
theorem k24_mkM (w : World) (base : Nat) (ok : Nat → Prop) (x : S24) {v1 : Value} (g1 : k24.R 24 w base ok v1 x.f1) : k24.M w base ok x [.string x.f0, v1, .bool x.f2] := by
  obtain ⟨n1, q1⟩ := Kd.fix_R_back mono24 g1
  have r1 := Kd.upto_R_le mono24 sz24 (show n1 ≤ n1 by omega) q1
  exact ⟨n1 + 1, ⟨[.string x.f0], [v1, .bool x.f2], rfl, rfl, ⟨[v1], [.bool x.f2], rfl, ⟨v1, rfl, r1⟩, rfl⟩⟩⟩
def rd_T24 (xs : List S24) (i : Int) : S24 := xs.getD i.toNat z24
theorem at_T24 {w : World} {A : Option Addr} {n : Nat} {xs : List S24} (h : Kd.C k24 w A n xs) (i : Int) (h0 : 0 ≤ i) (h1 : i < n) : ∃ ad A1 c1, A = some ad ∧ w.cell? (ad.add (i.toNat * 3)) = some (.string (rd_T24 xs i).f0) ∧ w.cell? ⟨(ad.add (i.toNat * 3)).block, (ad.add (i.toNat * 3)).off + 1, none⟩ = some (.slice A1 (rd_T24 xs i).f1.length c1) ∧ w.cell? ⟨(ad.add (i.toNat * 3)).block, (ad.add (i.toNat * 3)).off + 2, none⟩ = some (.bool (rd_T24 xs i).f2) ∧ (rd_T24 xs i).f1.length ≤ c1 ∧ k24.C w A1 (rd_T24 xs i).f1.length (rd_T24 xs i).f1 := by
  obtain ⟨ad, c, e, _, hK, hc0⟩ := Kd.C_get h z24 i h0 h1
  have hc : ∀ j u, c[j]? = some u → w.cell? (ad.add (i.toNat * 3 + j)) = some u := hc0
  obtain ⟨A1, c1, rfl, l1, g1⟩ := k24_open hK
  exact ⟨ad, A1, c1, e, hc 0 _ rfl, by rw [← add_field _ _ 1 (by omega)]; exact hc 1 _ rfl, by rw [← add_field _ _ 2 (by omega)]; exact hc 2 _ rfl, l1, g1⟩

end Go.Proofs.Ytamajbaojbghcaa.PT
