/- impl.JTypes: what it answers. -/
import Derived.Test.YtabadjidlfpngaaTypes
import Derived.Deep.DeepCutAuto
import Derived.Lib.OthersKept
import Derived.WalkSpells
import Derived.Lib.Hide
import Derived.WalkLawsBesides
import Derived.Deep.QuietTactic
import Derived.BigQuiet
import Derived.RegionTactic
import Derived.Deep.RegionWith
import Derived.Outline
namespace Go.Proofs.Ytabadjidlfpngaa.Types
open Go.RowKit Go.Proofs.Ytabadjidlfpngaa.PFnJTypes Go.Proofs.YtabadjidlfpngaaW.PrintWords Go.Proofs.YtabadjidlfpngaaW.PrintLast Go.Proofs.YtabadjidlfpngaaW.PrintMore Go.Proofs.Ytabadjidlfpngaa.K
set_option linter.unusedVariables false
set_option linter.unusedSimpArgs false

/-- A row of strings, element by element. -/
theorem str_at {w w1 : World} {A : Option Addr} {n : Nat} {xs : List ByteArray} (h : Kd.string.C w A n xs) (hb : Below w.heap.size w w1) (i : Nat) (hi : i < n) :
    ∃ ad, A = some ad ∧ w1.cell? (ad.add i) = some (.string (xs.getD i ⟨#[]⟩)) := by
  obtain ⟨ad, c, e, hl, hk, hc⟩ := Kd.C_get (Kd.C_below h hb) ⟨#[]⟩ (i : Int) (by omega) (by omega)
  refine ⟨ad, e, ?_⟩
  have hk' : c = [Value.string (xs.getD i ⟨#[]⟩)] := by simpa [Kd.string, Kd.scalar] using hk
  subst hk'
  have := hc 0 _ rfl
  simpa [Kd.string, Kd.scalar] using this

theorem told_nil : maskOf (told []) = 0 := by rfl

set_option maxHeartbeats 4000000 in
theorem implTypes (A : Option Addr) (c : Nat) (l : List ByteArray) (w : World) (hr : Kd.string.C w A l.length l) (hc : l.length ≤ c) (hlen : l.length ≤ 1099511627776) :
    Calls Try.prog 15 #[.slice A l.length c] w fun e w' => ∃ A1 c1, e = .returned (.tuple #[.slice A1 (kindText l).length c1, .bool (kindText l).isEmpty]) ∧ Kd.string.C w' A1 (kindText l).length (kindText l) ∧ (kindText l).length ≤ c1 ∧ Below w.heap.size w w' := by
  have HR := Lib.hid hr
  have hT0 := toText l
  have hE0 : jsonschema_Types_IsEmpty.f (maskOf (told l)) = some ((kindText l).isEmpty) := by
    unfold jsonschema_Types_IsEmpty.f
    rw [isNone l]
  generalize kindText l = rl at *
  have HT := Lib.hid hT0
  have HE := Lib.hid hE0
  clear hr hT0 hE0
  go_enter Try.func15, Try.ntmps15
  go_wp2_with fail
  have hnew : (w.alloc (.cells #[.int .i64 0] 46)).heap[w.heap.size]? = some (.cells #[.int .i64 0] 46 (0, 0)) := heap_alloc_new w _
  go_loopw [9] (fun iv wi => ∃ i : Nat, iv = .int .i64 i ∧ i ≤ l.length ∧ Aside0 (wi.heap[w.heap.size]? = some (.cells #[.int .i64 (maskOf (told (l.take i)))] 46 (0, 0))) ∧ Aside0 (Below w.heap.size w wi)) (fun iv _ => l.length - (intOf iv).toNat)
  case atStart => exact ⟨0, rfl, by omega, ⟨by rw [List.take_zero, told_nil]; exact hnew⟩, ⟨(Below.refl _ w).alloc (Nat.le_refl _) _⟩⟩
  case round =>
    obtain ⟨i, rfl, hil, HM, HB⟩ := hrel
    by_cases hlt : i < l.length
    · have hd1 : decide ((i : Int) < (l.length : Int)) = true := decide_eq_true (by omega)
      obtain ⟨ad, rfl, hcell⟩ := str_at HR.out HB.out i hlt
      obtain ⟨g, hg⟩ : ∃ g, l.getD i ⟨#[]⟩ = g := ⟨_, rfl⟩
      rw [hg] at hcell
      have HG := Lib.hid hg
      clear hg
      go_wp2_with fail
      refine (addName w.heap.size _ g _ HM.out).mono ?_
      rintro e w1 ⟨rfl, hm1, hb1⟩
      have hbx := HB.out.trans (hb1 w.heap.size (Nat.le_refl _))
      go_wp2_with fail
      go_roundw
      case rel =>
        refine ⟨i + 1, by go_num, by omega, ⟨?_⟩, ⟨hbx⟩⟩
        rw [hm1, mask_add, told_snoc]
        have : l.take (i + 1) = l.take i ++ [g] := by
          rw [List.take_succ_eq_append_getElem hlt, ← HG.out, List.getD_eq_getElem?_getD, List.getElem?_eq_getElem hlt]; rfl
        rw [this]
      case measure => simp [intOf]; omega
    · obtain rfl : i = l.length := by omega
      have hd1 : decide ((l.length : Int) < (l.length : Int)) = false := by simp
      have hm := HM.out
      rw [List.take_length] at hm
      have hcell : wr.cell? ⟨w.heap.size, 0, none⟩ = some (.int .i64 (maskOf (told l))) := by rw [Lib.cell_of_heap hm]; rfl
      have hfr : wr.frozen? ⟨w.heap.size, 0, none⟩ = false := Lib.frozen_of_heap hm 0
      clear hlt
      have hsz : w.heap.size < wr.heap.size := by
        rcases Nat.lt_or_ge w.heap.size wr.heap.size with h' | h'
        · exact h'
        · rw [Array.getElem?_eq_none h'] at hm; cases hm
      have hbx := HB.out
      generalize maskOf (told l) = tm at *
      clear hm HM
      go_wp2_with fail
      go_region_with (first
        | (go_at_call 27; refine (jsonschema_Types_ToStrings.calls 20 tm rl _ HT.out).mono ?_; rintro e w1 ⟨v0, rfl, hR, hb1⟩; have k0 := (hb1.cell (p := ⟨w.heap.size, 0, none⟩) (by exact hsz)).trans hcell; obtain ⟨A1, c1, rfl, hc1, hC⟩ := Kd.R_reads hR)
        | (go_at_call 28; refine (jsonschema_Types_IsEmpty.calls tm _ _ HE.out).mono ?_; rintro e w1 ⟨rfl, ⟨n, rfl⟩⟩))
      all_goals
        go_wp2
        go_ret2
        refine ⟨A1, c1, rfl, hC, hc1, ?_⟩
        have hbd : Below w.heap.size w wr.drew := below_drew1 hbx
        exact pw_below_drewN (hbd.trans (hb1.mono (Nat.le_of_lt hsz))) _
end Go.Proofs.Ytabadjidlfpngaa.Types
