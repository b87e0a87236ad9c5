/- jsonschema.duplicates: the places of the first two that are one. -/
import Derived.Test.YtdleegmdpgefmaaDoorJR
import Derived.Test.YtdleegmdpgefmaaDoorJY
import Derived.Deep.RegionHeld3
import Derived.OwnWalk
namespace Go.Proofs.YtdleegmdpgefmaaDoor.J
open Go.RowKit Go.Proofs.YtdleegmdpgefmaaDoorW.PrintWords Go.Proofs.YtdleegmdpgefmaaDoorW.PrintLast Go.Proofs.YtdleegmdpgefmaaDoorW.PrintMore Go.Proofs.YtdleegmdpgefmaaDoor.PJ Go.Proofs.YtdleegmdpgefmaaDoor.K Go.Maps
set_option linter.unusedVariables false
set_option linter.unusedSimpArgs false

/-- The places of two that are one; -1 and -1 if there are none. -/
def TwI (ds : List D0) (a b : Int) : Prop := (a = -1 ∧ b = -1 ∧ ∀ i k : Nat, i < k → k < ds.length → ds[i]? ≠ ds[k]?) ∨ ∃ i k : Nat, a = i ∧ b = k ∧ i < k ∧ k < ds.length ∧ ds[i]? = ds[k]?
theorem h_get {R : Value → D0 → Prop} {ok : Nat → Prop} {w : World} {A : Option Addr} {l : List D0} (h : RowAt R ok w A l) (i : Nat) (hi : i < l.length) : ∃ ad u, A = some ad ∧ w.cell? (ad.add i) = some u ∧ R u l[i] := by
  obtain ⟨ad, e, _, h⟩ := h (by omega)
  obtain ⟨u, h1, h2⟩ := h i _ (List.getElem?_eq_getElem hi)
  exact ⟨ad, u, e, h1, h2⟩
set_option maxHeartbeats 4000000 in
set_option maxRecDepth 100000 in
theorem dups (n : Nat) (ok : Nat → Prop) (w : World) (A : Option Addr) (c : Nat) (ds : List D0) (hc : ds.length ≤ c) (hl : ds.length ≤ 20) (h : RowAt (Rep n ok w) ok w A ds) (hn : ∀ e ∈ ds, NoNum e) :
    Calls Tryd.prog 36 #[.slice A ds.length c] w fun e w' => ∃ a b : Int, e = .returned (.tuple #[.int .i64 a, .int .i64 b, .nilIface]) ∧ TwI ds a b ∧ Below w.heap.size w w' := by
  have H := Lib.hid h
  have HN := Lib.hid hn
  have hB : Below w.heap.size w w := Below.refl _ _
  have HB := Lib.hid hB
  have hd0 : decide ((ds.length : Int) ≤ 20) = true := decide_eq_true (by omega)
  clear h hn hB
  go_enter Tryd.func36, Tryd.ntmps36
  go_wp2_with fail
  go_loopw [5] (fun iv wi => ∃ i : Nat, iv = .int .i64 i ∧ 1 ≤ i ∧ i ≤ ds.length + 1 ∧ Hid (Below w.heap.size w wi ∧ ∀ i' k' : Nat, i' < k' → k' < i → k' < ds.length → ds[i']? ≠ ds[k']?)) (fun iv _ => ds.length + 1 - (intOf iv).toNat)
  case atStart => exact ⟨1, rfl, by omega, by omega, Lib.hid ⟨HB.out, fun i' k' h1 h2 h3 => by omega⟩⟩
  case round =>
    obtain ⟨i, rfl, hi1, hil, HS⟩ := hrel
    by_cases hlt : i < ds.length
    · have hd1 : decide ((i : Int) < (ds.length : Int)) = true := decide_eq_true (by omega)
      obtain ⟨ad, u, hA, qi, ri⟩ := h_get H.out i hlt
      subst hA
      have hii : (0 : Int) ≤ (i : Int) := Int.natCast_nonneg _
      have hii2 : (i : Int) < (ds.length : Int) := by omega
      have RI := Lib.hid ri
      have QI := Lib.hid qi
      clear ri qi
      go_wp2_with fail
      go_loopw [6] (fun jv wj => ∃ j : Nat, jv = .int .i64 j ∧ j ≤ i ∧ Hid (Below w.heap.size w wj ∧ ∀ j' : Nat, j' < j → ds[j']? ≠ ds[i]?)) (fun jv _ => i - (intOf jv).toNat)
      case atStart => exact ⟨0, rfl, by omega, Lib.hid ⟨HS.out.1, fun j' h => by omega⟩⟩
      case round =>
        obtain ⟨j, rfl, hji, HT⟩ := hrel
        by_cases hjt : j < i
        · have hd2 : decide ((j : Int) < (i : Int)) = true := decide_eq_true (by omega)
          obtain ⟨ad', v, hA, qj, rj⟩ := h_get H.out j (by omega)
          obtain rfl : ad = ad' := Option.some.inj hA
          have p1 : wr.cell? (ad.add i) = some u := by rw [HT.out.1.cell (lt_of_cell QI.out)]; exact QI.out
          have p2 : wr.cell? (ad.add j) = some v := by rw [HT.out.1.cell (lt_of_cell qj)]; exact qj
          obtain ⟨b, hb⟩ : ∃ b, eqB ds[i] (ds[j]'(by omega)) = b := ⟨_, rfl⟩
          have HEQ := Lib.hid hb
          have hjl : j < ds.length := by omega
          have HCA := Lib.hid (show CallIn wr u v b from fun W hbW => (equals n).at_ (RI.out.kept (HT.out.1.trans (hbW.mono HT.out.1.size))) (HN.out _ (List.getElem_mem _)) (rj.kept (HT.out.1.trans (hbW.mono HT.out.1.size))) HEQ.out)
          have hj0 : (0 : Int) ≤ (j : Int) := Int.natCast_nonneg _
          have hj1 : (j : Int) < (ds.length : Int) := by omega
          have lt1 : ad.block < wr.heap.size := by have := lt_of_cell p1; rwa [block_add] at this
          have B1 := Lib.hid (block_add ad i)
          have B2 := Lib.hid (block_add ad j)
          clear qj rj hb hA
          cases b
          all_goals
            go_wp2_with fail
            go_region_held3 (fun w' => w'.cell? (ad.add i) = some u ∧ w'.cell? (ad.add j) = some v)
              (first
                | go_keep
                | (go_split_ands; exact ⟨(hbn.cell (by rw [B1.out]; exact lt1)).trans p1, (hbn.cell (by rw [B2.out]; exact lt1)).trans p2⟩))
              ((go_at_call 29; refine (HCA.out.at_ (by first | exact Below.refl _ _ | exact (Below.refl _ _).drew | exact pw_below_drewN (Below.refl _ _) _)).mono ?_; rintro e w1 ⟨rfl, hbl⟩; have hbn : Below wr.heap.size wr w1 := (by first | exact hbl | exact (Below.refl _ _).drew.trans hbl | exact (pw_below_drewN (Below.refl _ _) _).trans hbl)))
            have HBN := Lib.hid hbn
            clear hbl hbn p1 p2
            go_wp2_with fail
          · go_roundw
            case rel =>
              refine ⟨j + 1, by go_num, by omega, Lib.hid ⟨HT.out.1.trans (HBN.out.mono HT.out.1.size), fun j' h => ?_⟩⟩
              by_cases e : j' = j
              · subst e
                rw [List.getElem?_eq_getElem hlt, List.getElem?_eq_getElem hjl]
                exact fun e => eqB_false.1 HEQ.out (Option.some.inj e).symm
              · exact HT.out.2 j' (by omega)
            case measure => simp [intOf]; omega
          · go_ret3
            refine ⟨_, _, rfl, .inr ⟨j, i, rfl, rfl, hjt, hlt, ?_⟩, HT.out.1.trans (HBN.out.mono HT.out.1.size)⟩
            rw [List.getElem?_eq_getElem hlt, List.getElem?_eq_getElem hjl, eqB_true.1 HEQ.out]
        · obtain rfl : j = i := by omega
          have hd2 : decide ((j : Int) < (j : Int)) = false := by simp
          clear hjt
          go_wp2_with fail
          refine ⟨⟨j + 1, by go_num, by omega, by omega, Lib.hid ⟨HT.out.1, fun i' k' h1 h2 h3 => ?_⟩⟩, by simp [intOf]; omega⟩
          by_cases e : k' = j
          · subst e; exact HT.out.2 i' h1
          · exact HS.out.2 i' k' h1 (by omega) h3
    · have hd1 : decide ((i : Int) < (ds.length : Int)) = false := decide_eq_false (by omega)
      go_wp2_with fail
      go_ret3
      exact ⟨_, _, rfl, .inl ⟨rfl, rfl, fun i' k' h1 h2 => HS.out.2 i' k' h1 (by omega) h2⟩, HS.out.1⟩
end Go.Proofs.YtdleegmdpgefmaaDoor.J
