/- spec.JProper, laws.jProper, laws.zzFits5, impl.JKind: what they tell. -/
import Derived.Test.YtdleegmdpgefmaaJP
import Derived.Test.YtdleegmdpgefmaaPJx
namespace Go.Proofs.Ytdleegmdpgefmaa.J
open Go.RowKit Go.Proofs.YtdleegmdpgefmaaW.PrintWords Go.Proofs.YtdleegmdpgefmaaW.PrintLast Go.Proofs.YtdleegmdpgefmaaW.PrintMore Go.Proofs.Ytdleegmdpgefmaa.PJ Go.Proofs.Ytdleegmdpgefmaa.K
set_option linter.unusedVariables false
set_option linter.unusedSimpArgs false

/-- What JProper tells of a value. -/
def PropC (x : JV) (b : Bool) : Prop := ∀ (cs : Array Value) (w : World), kJ.K w x cs.toList → Calls Try.prog 14 #[.agg cs] w fun e w' => e = .returned (.bool b) ∧ Below w.heap.size w w'
theorem PropC.at_ {x : JV} {b : Bool} (h : PropC x b) (cs : Array Value) (w : World) (hK : kJ.K w x cs.toList) : Calls Try.prog 14 #[.agg cs] w fun e w' => e = .returned (.bool b) ∧ Below w.heap.size w w' := h cs w hK
set_option maxHeartbeats 1000000 in
theorem proper (x : JV) (hw : wfJ x) : ∃ b, (b = true → Dp 1000 x) ∧ PropC x b := by
  obtain ⟨b, hd, hP⟩ := properIn 1000 (Nat.le_refl _) x hw
  refine ⟨b, hd, fun cs w hK => ?_⟩
  obtain ⟨A4, c4, A5, c5, hcs, l4, g4, l5, g5⟩ := k25_open hK
  obtain rfl : cs = #[.int .i64 x.f0, .bool x.f1, .int .i64 x.f2, .string x.f3, .slice A4 x.f4.length c4, .slice A5 x.f5.length c5] := by apply Array.toList_inj.1; rw [hcs]
  have hb1 : Below w.heap.size w (w.alloc (.cells #[.int .i64 x.f0, .bool x.f1, .int .i64 x.f2, .string x.f3, .slice A4 x.f4.length c4, .slice A5 x.f5.length c5] 25)) := (Below.refl _ _).alloc (Nat.le_refl _) _
  have HK := Lib.hid (kJ.K_below hb1 hK)
  have HB := Lib.hid hb1
  have HP := Lib.hid hP
  clear hK g4 g5 hcs hb1 hw hd hP
  go_enter Try.func14, Try.ntmps14
  go_wp2_with fail
  refine (HP.out.at_ _ _ HK.out).mono ?_
  rintro e w1 ⟨rfl, hbl⟩
  have HX := Lib.hid (HB.out.trans (hbl.mono (by simp)))
  clear hbl
  go_wp2_with fail
  go_ret
  exact ⟨rfl, HX.out⟩
/-- What jProper tells of values. -/
def PropLC (l : List JV) (b : Bool) : Prop := ∀ (A : Option Addr) (c : Nat) (w : World), kJ.C w A l.length l → l.length ≤ c → Calls Try.prog 10 #[.slice A l.length c] w fun e w' => e = .returned (.bool b) ∧ Below w.heap.size w w'
theorem PropLC.at_ {l : List JV} {b : Bool} (h : PropLC l b) (A : Option Addr) (c : Nat) (w : World) (hC : kJ.C w A l.length l) (hc : l.length ≤ c) : Calls Try.prog 10 #[.slice A l.length c] w fun e w' => e = .returned (.bool b) ∧ Below w.heap.size w w' := h A c w hC hc
theorem choice {α : Type} {R : α → Bool → Prop} (l : List α) (h : ∀ y ∈ l, ∃ b, R y b) : ∃ f : Nat → Bool, ∀ i, (hi : i < l.length) → R l[i] (f i) := by
  classical
  have h' : ∀ i, (hi : i < l.length) → ∃ b, R l[i] b := fun i hi => h _ (List.getElem_mem _)
  exact ⟨fun i => if hi : i < l.length then (h' i hi).choose else true, fun i hi => by simp only [dif_pos hi]; exact (h' i hi).choose_spec⟩
set_option maxHeartbeats 2000000 in
theorem properL (l : List JV) (hl : l.length ≤ 140737488351232) (hw : ∀ y ∈ l, wfJ y) : ∃ b, (b = true → ∀ y ∈ l, Dp 1000 y) ∧ PropLC l b := by
  classical
  obtain ⟨f, hf⟩ := choice l fun y hy => proper y (hw y hy)
  obtain ⟨bo, hbo⟩ : ∃ bo : Bool, bo = true ↔ ∀ i, i < l.length → f i = true := ⟨decide (∀ i, i < l.length → f i = true), decide_eq_true_iff⟩
  refine ⟨bo, fun hb y hy => ?_, fun A c w hr hc => ?_⟩
  · obtain ⟨j, hj, rfl⟩ := List.getElem_of_mem hy
    exact (hf j hj).1 (hbo.1 hb j hj)
  have HR := Lib.hid hr
  have HF := Lib.hid hf
  have HBO := Lib.hid hbo
  clear hr hw hf hbo
  go_enter Try.func10, Try.ntmps10
  go_wp2_with fail
  go_loopw [3] (fun iv wi => ∃ i : Nat, iv = .int .i64 i ∧ i ≤ l.length ∧ Hid (Below w.heap.size w wi ∧ ∀ j, j < i → f j = true)) (fun iv _ => l.length - (intOf iv).toNat)
  case atStart => exact ⟨0, rfl, by omega, Lib.hid ⟨Below.refl _ _, fun j h => by omega⟩⟩
  case round =>
    obtain ⟨i, rfl, hil, HS⟩ := hrel
    by_cases hlt : i < l.length
    · have hd1 : decide ((i : Int) < (l.length : Int)) = true := decide_eq_true (by omega)
      have hC := Kd.C_below HR.out HS.out.1
      obtain ⟨ad, A4, c4, A5, c5, rfl, q0, q1, q2, q3, q4, q5, l4, g4, l5, g5⟩ := at_T25 hC (i : Int) (by omega) (by omega)
      rw [Int.toNat_natCast] at q0 q1 q2 q3 q4 q5
      have hg : rd_T25 l (i : Int) = l[i] := by
        unfold rd_T25
        rw [Int.toNat_natCast, List.getD_eq_getElem?_getD, List.getElem?_eq_getElem hlt]; rfl
      obtain ⟨g, hgg⟩ : ∃ g, rd_T25 l (i : Int) = g := ⟨_, rfl⟩
      rw [hgg] at hg q0 q1 q2 q3 q4 q5 l4 g4 l5 g5
      have C := (HF.out i hlt).2
      obtain ⟨b, hb⟩ : ∃ b, f i = b := ⟨_, rfl⟩
      rw [hb, ← hg] at C
      have HC := Lib.hid C
      have HBB := Lib.hid hb
      have HK := Lib.hid (k25_mk wr g l4 g4 l5 g5)
      have hi0 : (0 : Int) ≤ (i : Int) := Int.natCast_nonneg _
      have hi1 : (i : Int) < (l.length : Int) := by omega
      clear hg hC l4 g4 l5 g5 hgg C hb
      cases b
      · go_wp2_with fail
        with_reducible refine (HC.out.at_ #[.int .i64 g.f0, .bool g.f1, .int .i64 g.f2, .string g.f3, .slice A4 g.f4.length c4, .slice A5 g.f5.length c5] _ HK.out).mono ?_
        rintro e w1 ⟨rfl, hbl⟩
        have HB := Lib.hid (HS.out.1.trans (hbl.mono HS.out.1.size))
        clear hbl
        go_wp2_with fail
        go_ret
        cases bo
        · exact ⟨rfl, HB.out⟩
        · have := HBO.out.1 rfl i hlt
          rw [HBB.out] at this; cases this
      · go_wp2_with fail
        with_reducible refine (HC.out.at_ #[.int .i64 g.f0, .bool g.f1, .int .i64 g.f2, .string g.f3, .slice A4 g.f4.length c4, .slice A5 g.f5.length c5] _ HK.out).mono ?_
        rintro e w1 ⟨rfl, hbl⟩
        have HB := Lib.hid (HS.out.1.trans (hbl.mono HS.out.1.size))
        clear hbl
        go_wp2_with fail
        go_roundw
        case rel => exact ⟨i + 1, by go_num, by omega, Lib.hid ⟨HB.out, fun j h => by
          by_cases e : j = i
          · rw [e]; exact HBB.out
          · exact HS.out.2 j (by omega)⟩⟩
        case measure => simp [intOf]; omega
    · obtain rfl : i = l.length := by omega
      have hd1 : decide ((l.length : Int) < (l.length : Int)) = false := by simp
      clear hlt
      go_wp2_with fail
      go_ret
      obtain rfl : bo = true := HBO.out.2 HS.out.2
      exact ⟨rfl, HS.out.1⟩

/-- One value in a row of its own. -/
theorem one_row {w : World} {B : Nat} {x : JV} {cs : Array Value} {t : TypeId} (hh : w.heap[B]? = some (.cells cs t (0, 0))) (hK : kJ.K w x cs.toList) : kJ.C w (some ⟨B, 0, none⟩) [x].length [x] := by
  refine ⟨rfl, by simp, fun _ => ⟨_, rfl, fun j p hp => ?_⟩⟩
  match j, hp with
  | 0, hp =>
    simp at hp
    subst hp
    refine ⟨cs.toList, kJ.K_len hK, hK, fun i u hu => ?_⟩
    rw [Nat.zero_mul, Nat.zero_add]
    exact World.news_of_block hh i u hu
theorem PropLC.one {x : JV} {b : Bool} (h : PropLC [x] b) {W : World} {B : Nat} {cs : Array Value} {t : TypeId} (hh : W.heap[B]? = some (.cells cs t (0, 0))) (hK : kJ.K W x cs.toList) : Calls Try.prog 10 #[.slice (some ⟨B, 0, none⟩) 1 1] W fun e w' => e = .returned (.bool b) ∧ Below W.heap.size W w' := h.at_ _ 1 W (one_row hh hK) (Nat.le_refl _)
theorem fits4E (l : List ByteArray) (hl : l.length ≤ 140737488351232) (d : Nat) : ∀ i : Nat, i ≤ l.length → l.length - i = d → ∃ b, Ev (fun k => laws_zzFits4.l0 k l (l.length : Int) i) b := by
  induction d with
  | zero =>
    intro i hi hd
    refine ⟨true, ev_succ 0 fun k hk => ?_⟩
    simp only [laws_zzFits4.l0]
    rw [if_neg (by omega)]
  | succ d ih =>
    intro i hi hd
    have e1 : wrap64 ((i : Int) + 1) = ((i + 1 : Nat) : Int) := by rw [wrap_in (by omega) (by omega)]; omega
    obtain ⟨b, K, hK⟩ := ih (i + 1) (by omega) (by omega)
    by_cases hg : ((rdOf ByteArray.empty l (i : Int)).size : Int) > 2147483647
    · refine ⟨false, ev_succ 0 fun k hk => ?_⟩
      simp only [laws_zzFits4.l0, e1]
      rw [if_pos (by omega), if_pos (by omega), if_pos (by omega), if_pos hg]
    · refine ⟨b, ev_succ K fun k hk => ?_⟩
      simp only [laws_zzFits4.l0, e1]
      rw [if_pos (by omega), if_pos (by omega), if_pos (by omega), if_neg hg]
      exact hK k hk
theorem fits5 (x : JV) (cs : Array Value) (w : World) (hw : wfJ x) (hK : kJ.K w x cs.toList) : Calls Try.prog 5 #[.agg cs] w fun e w' => ∃ b, e = .returned (.bool b) ∧ Below w.heap.size w w' := by
  obtain ⟨A4, c4, A5, c5, hcs, l4, g4, l5, g5⟩ := k25_open hK
  obtain rfl : cs = #[.int .i64 x.f0, .bool x.f1, .int .i64 x.f2, .string x.f3, .slice A4 x.f4.length c4, .slice A5 x.f5.length c5] := by apply Array.toList_inj.1; rw [hcs]
  have hb4 : x.f4.length ≤ 140737488351232 := by have := hw.inv.2.1.1; omega
  obtain ⟨k, b, hk⟩ : ∃ k b, laws_zzFits5.f k x.f0 x.f1 x.f2 x.f3 x.f4 x.f5 = some b := by
    obtain ⟨b4, K, hK4⟩ := fits4E x.f4 hb4 x.f4.length 0 (by omega) rfl
    have h4 : ∃ b, laws_zzFits4.f K x.f4 = some b := by
      unfold laws_zzFits4.f
      split
      · exact ⟨_, rfl⟩
      · exact ⟨_, hK4 K (Nat.le_refl _)⟩
    obtain ⟨b, h4⟩ := h4
    refine ⟨K, ?_⟩
    unfold laws_zzFits5.f
    rw [h4]
    split
    · exact ⟨_, rfl⟩
    · simp only [Option.bind_some]
      split
      · split <;> exact ⟨_, rfl⟩
      · exact ⟨_, rfl⟩
  exact (laws_zzFits5.calls k x.f0 x.f1 x.f2 x.f3 A4 c4 x.f4 A5 c5 x.f5 b w g4 l4 g5 l5 hk).mono fun e w' h => ⟨b, h⟩
end Go.Proofs.Ytdleegmdpgefmaa.J
