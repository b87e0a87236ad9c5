/- spec.JProper, laws.jProper, laws.zzFits5, impl.JKind: what they tell. -/
import Derived.Test.YtdleegmdpgefmaaDoorJP
import Derived.Test.YtdleegmdpgefmaaDoorPJx
namespace Go.Proofs.YtdleegmdpgefmaaDoor.J
open Go.RowKit Go.Proofs.YtdleegmdpgefmaaDoorW.PrintWords Go.Proofs.YtdleegmdpgefmaaDoorW.PrintLast Go.Proofs.YtdleegmdpgefmaaDoorW.PrintMore Go.Proofs.YtdleegmdpgefmaaDoor.PJ Go.Proofs.YtdleegmdpgefmaaDoor.K
set_option linter.unusedVariables false
set_option linter.unusedSimpArgs false

/-- What JProper tells of a value. -/
def PropC (x : JV) (b : Bool) : Prop := ∀ (cs : Array Value) (w : World), kJ.K w x cs.toList → Calls Tryd.prog 16 #[.agg cs] w fun e w' => e = .returned (.bool b) ∧ Below w.heap.size w w'
theorem PropC.at_ {x : JV} {b : Bool} (h : PropC x b) (cs : Array Value) (w : World) (hK : kJ.K w x cs.toList) : Calls Tryd.prog 16 #[.agg cs] w fun e w' => e = .returned (.bool b) ∧ Below w.heap.size w w' := h cs w hK
set_option maxHeartbeats 1000000 in
theorem proper (x : JV) (hw : wfJ x) : ∃ b, (b = true → Dp 1000 x) ∧ PropC x b := by
  obtain ⟨b, hd, hP⟩ := properIn 1000 (Nat.le_refl _) x hw
  refine ⟨b, hd, fun cs w hK => ?_⟩
  obtain ⟨A4, c4, A5, c5, hcs, l4, g4, l5, g5⟩ := k25_open hK
  obtain rfl : cs = #[.int .i64 x.f0, .bool x.f1, .int .i64 x.f2, .string x.f3, .slice A4 x.f4.length c4, .slice A5 x.f5.length c5] := by apply Array.toList_inj.1; rw [hcs]
  have hb1 : Below w.heap.size w (w.alloc (.cells #[.int .i64 x.f0, .bool x.f1, .int .i64 x.f2, .string x.f3, .slice A4 x.f4.length c4, .slice A5 x.f5.length c5] 25)) := (Below.refl _ _).alloc (Nat.le_refl _) _
  have HK := Lib.hid (kJ.K_below hb1 hK)
  have HB := Lib.hid hb1
  have HP := Lib.hid hP
  clear hK g4 g5 hcs hb1 hw hd hP
  go_enter Tryd.func16, Tryd.ntmps16
  go_wp2_with fail
  refine (HP.out.at_ _ _ HK.out).mono ?_
  rintro e w1 ⟨rfl, hbl⟩
  have HX := Lib.hid (HB.out.trans (hbl.mono (by simp)))
  clear hbl
  go_wp2_with fail
  go_ret
  exact ⟨rfl, HX.out⟩
theorem PropLC (n : Nat) : Nat.add n 0 = n := rfl
theorem PropLC.at_ (n : Nat) : Nat.add n 0 = n := rfl
theorem choice {α : Type} {R : α → Bool → Prop} (l : List α) (h : ∀ y ∈ l, ∃ b, R y b) : ∃ f : Nat → Bool, ∀ i, (hi : i < l.length) → R l[i] (f i) := by
  classical
  have h' : ∀ i, (hi : i < l.length) → ∃ b, R l[i] b := fun i hi => h _ (List.getElem_mem _)
  exact ⟨fun i => if hi : i < l.length then (h' i hi).choose else true, fun i hi => by simp only [dif_pos hi]; exact (h' i hi).choose_spec⟩
theorem properL (n : Nat) : Nat.add n 0 = n := rfl
/-- One value in a row of its own. -/
theorem one_row {w : World} {B : Nat} {x : JV} {cs : Array Value} {t : TypeId} (hh : w.heap[B]? = some (.cells cs t (0, 0))) (hK : kJ.K w x cs.toList) : kJ.C w (some ⟨B, 0, none⟩) [x].length [x] := by
  refine ⟨rfl, by simp, fun _ => ⟨_, rfl, fun j p hp => ?_⟩⟩
  match j, hp with
  | 0, hp =>
    simp at hp
    subst hp
    refine ⟨cs.toList, kJ.K_len hK, hK, fun i u hu => ?_⟩
    rw [Nat.zero_mul, Nat.zero_add]
    exact World.news_of_block hh i u hu
theorem PropLC.one (n : Nat) : Nat.add n 0 = n := rfl
theorem fits4E (l : List ByteArray) (hl : l.length ≤ 140737488351232) (d : Nat) : ∀ i : Nat, i ≤ l.length → l.length - i = d → ∃ b, Ev (fun k => laws_zzFits4.l0 k l (l.length : Int) i) b := by
  induction d with
  | zero =>
    intro i hi hd
    refine ⟨true, ev_succ 0 fun k hk => ?_⟩
    simp only [laws_zzFits4.l0]
    rw [if_neg (by omega)]
  | succ d ih =>
    intro i hi hd
    have e1 : wrap64 ((i : Int) + 1) = ((i + 1 : Nat) : Int) := by rw [wrap_in (by omega) (by omega)]; omega
    obtain ⟨b, K, hK⟩ := ih (i + 1) (by omega) (by omega)
    by_cases hg : ((rdOf ByteArray.empty l (i : Int)).size : Int) > 2147483647
    · refine ⟨false, ev_succ 0 fun k hk => ?_⟩
      simp only [laws_zzFits4.l0, e1]
      rw [if_pos (by omega), if_pos (by omega), if_pos (by omega), if_pos hg]
    · refine ⟨b, ev_succ K fun k hk => ?_⟩
      simp only [laws_zzFits4.l0, e1]
      rw [if_pos (by omega), if_pos (by omega), if_pos (by omega), if_neg hg]
      exact hK k hk
theorem fits5 (x : JV) (cs : Array Value) (w : World) (hw : wfJ x) (hK : kJ.K w x cs.toList) : Calls Tryd.prog 6 #[.agg cs] w fun e w' => ∃ b, e = .returned (.bool b) ∧ Below w.heap.size w w' := by
  obtain ⟨A4, c4, A5, c5, hcs, l4, g4, l5, g5⟩ := k25_open hK
  obtain rfl : cs = #[.int .i64 x.f0, .bool x.f1, .int .i64 x.f2, .string x.f3, .slice A4 x.f4.length c4, .slice A5 x.f5.length c5] := by apply Array.toList_inj.1; rw [hcs]
  have hb4 : x.f4.length ≤ 140737488351232 := by have := hw.inv.2.1.1; omega
  obtain ⟨k, b, hk⟩ : ∃ k b, laws_zzFits5.f k x.f0 x.f1 x.f2 x.f3 x.f4 x.f5 = some b := by
    obtain ⟨b4, K, hK4⟩ := fits4E x.f4 hb4 x.f4.length 0 (by omega) rfl
    have h4 : ∃ b, laws_zzFits4.f K x.f4 = some b := by
      unfold laws_zzFits4.f
      split
      · exact ⟨_, rfl⟩
      · exact ⟨_, hK4 K (Nat.le_refl _)⟩
    obtain ⟨b, h4⟩ := h4
    refine ⟨K, ?_⟩
    unfold laws_zzFits5.f
    rw [h4]
    split
    · exact ⟨_, rfl⟩
    · simp only [Option.bind_some]
      split
      · split <;> exact ⟨_, rfl⟩
      · exact ⟨_, rfl⟩
  exact (laws_zzFits5.calls k x.f0 x.f1 x.f2 x.f3 A4 c4 x.f4 A5 c5 x.f5 b w g4 l4 g5 l5 hk).mono fun e w' h => ⟨b, h⟩
end Go.Proofs.YtdleegmdpgefmaaDoor.J
