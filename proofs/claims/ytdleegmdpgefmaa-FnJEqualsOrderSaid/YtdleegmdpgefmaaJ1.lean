/- impl.ofJValue, impl.ofJValues: what they make. -/
import Derived.Test.YtdleegmdpgefmaaJ0
import Derived.Deep.RegionHeld3
import Derived.Deep.AppendLies
import Derived.WalkSpells
import Derived.Carry
import Derived.Laws.Tables
namespace Go.Proofs.Ytdleegmdpgefmaa.J
open Go.RowKit Go.Proofs.YtdleegmdpgefmaaW.PrintWords Go.Proofs.YtdleegmdpgefmaaW.PrintLast Go.Proofs.YtdleegmdpgefmaaW.PrintMore Go.Proofs.Ytdleegmdpgefmaa.PJ Go.Proofs.Ytdleegmdpgefmaa.K Go.Maps
set_option linter.unusedVariables false
set_option linter.unusedSimpArgs false

abbrev wfJ : JV → Prop := Op.wf_k25
theorem wfJ.inv {x : JV} (h : wfJ x) : x.f3.size ≤ 140737488351232 ∧ (x.f4.length * 16 ≤ 140737488351232 ∧ ∀ s ∈ x.f4, s.size ≤ 140737488351232) ∧ x.f5.length * 88 ≤ 140737488351232 ∧ ∀ y ∈ x.f5, wfJ y := by
  cases h with
  | mk _ h0 h1 h2 h3 h4 h5 h6 => exact ⟨h3, h4, h5, h6⟩
/-- What impl.ofJValue makes of values at most so deep. -/
def Mk (m : Nat) : Prop := ∀ (x : JV) (cs : Array Value) (w : World), Dp m x → wfJ x → kJ.K w x cs.toList →
  Calls Try.prog 17 #[.agg cs] w fun e w' => ∃ v, e = .returned v ∧ Rep m (fun k => w.heap.size ≤ k) w' v (toD m x) ∧ Below w.heap.size w w'
theorem Mk.call {m : Nat} (h : Mk m) (x : JV) (cs : Array Value) (w : World) (h1 : Dp m x) (h2 : wfJ x) (h3 : kJ.K w x cs.toList) :
  Calls Try.prog 17 #[.agg cs] w fun e w' => ∃ v, e = .returned v ∧ Rep m (fun k => w.heap.size ≤ k) w' v (toD m x) ∧ Below w.heap.size w w' := h x cs w h1 h2 h3
theorem infoAny : (Try.prog.info? 20).map (fun i => (i.zero, i.size, i.bytes)) = some (some .nilIface, 1, 16) := by kernel_rfl
/-- Values that were made, in a row of the call's own. -/
structure OwnR (w wi : World) (ds : List D0) (m i : Nat) (ov : Value) (us : List Value) : Prop where
  own : wi.ownsRow w.heap.size 20 1 ov us.length us
  len : us.length = i
  rep : ∀ (j : Nat) (u : Value), us[j]? = some u → ∃ e, ds[j]? = some e ∧ Rep m (fun k => w.heap.size ≤ k ∧ some k ≠ ov.ownBlock) wi u e
  below : Below w.heap.size w wi
theorem OwnR.next {w wi w1 w2 : World} {ds : List D0} {m i : Nat} {ov v1 u : Value} {us : List Value} {e : D0} (h : OwnR w wi ds m i ov us) (he : ds[i]? = some e) {H : Nat} (hH : wi.heap.size ≤ H) (hb : Below wi.heap.size wi w1) (hu : Rep m (fun k => H ≤ k) w1 u e)
    (ho : w2.ownsRow w.heap.size 20 1 v1 (us ++ [u]).length (us ++ [u])) (hb2 : Below w.heap.size w w2) (hg : w1.grownBy w2 ov.ownBlock) (hat : v1.ownBlock = ov.ownBlock ∨ ∃ b, v1.ownBlock = some b ∧ w1.heap.size ≤ b) : OwnR w w2 ds m (i + 1) v1 (us ++ [u]) := by
  have hlt : ∀ k, ov.ownBlock = some k → k < wi.heap.size := fun k hk => own_lt h.own k hk
  have hsz := hb.size
  have hw := h.below.size
  refine ⟨ho, by simp [h.len], fun j x hx => ?_, hb2⟩
  have key : ∀ {y : Value} {d : D0}, Rep m (fun k => w.heap.size ≤ k ∧ some k ≠ ov.ownBlock) w1 y d → Rep m (fun k => w.heap.size ≤ k ∧ some k ≠ v1.ownBlock) w2 y d := fun hr =>
    hr.step fun k hk hlt1 => ⟨⟨hk.1, fun e1 => by
      rcases hat with h1 | ⟨b, h1, h2⟩
      · rw [h1] at e1; exact hk.2 e1
      · rw [h1] at e1; injection e1 with e1; omega⟩, hg.block k hlt1 hk.2⟩
  rw [List.getElem?_append] at hx
  split at hx
  · rename_i hj
    obtain ⟨d, hd, hr⟩ := h.rep j x hx
    exact ⟨d, hd, key (hr.kept hb)⟩
  · rename_i hj
    have hj0 : j = us.length := by
      have := (List.getElem?_eq_some_iff.1 hx).1
      simp at this; omega
    subst hj0
    simp at hx
    subst hx
    refine ⟨e, by rw [h.len]; exact he, key (hu.mono fun k hk _ => ⟨by omega, fun e1 => ?_⟩)⟩
    have := hlt k e1.symm
    omega
theorem OwnR.start (w : World) (ds : List D0) (m : Nat) : OwnR w (w.alloc (.cells #[] 20)) ds m 0 (.slice (some ⟨w.heap.size, 0, none⟩) 0 0) [] :=
  ⟨World.ownsRow_made w #[] 0 (Nat.le_refl _) (by simp [maxLen]) rfl, rfl, fun j u h => by simp at h, (Below.refl _ _).alloc (Nat.le_refl _) _⟩
theorem OwnR.done {w wi : World} {ds : List D0} {m : Nat} {ov : Value} {us : List Value} (h : OwnR w wi ds m ds.length ov us) : ∃ A c, ov = .slice A ds.length c ∧ ds.length ≤ c ∧ RowAt (Rep m (fun k => w.heap.size ≤ k) wi) (fun k => w.heap.size ≤ k) wi A ds := by
  have hl := h.len
  rcases h.own.2 with ⟨rfl, h0⟩ | ⟨g, cap, cur, rfl, hb, hh, hc, _⟩
  · have : ds.length = 0 := by omega
    exact ⟨none, 0, by rw [this], by omega, fun hp => by omega⟩
  · refine ⟨some ⟨g, 0, none⟩, cap, by rw [hl], by omega, fun hp => ⟨_, rfl, hb, fun i e he => ?_⟩⟩
    have hi : i < us.length := by rw [hl]; exact (List.getElem?_eq_some_iff.1 he).1
    obtain ⟨e', he', hr⟩ := h.rep i _ (List.getElem?_eq_getElem hi)
    rw [he] at he'
    injection he' with he'
    subst he'
    exact ⟨_, h.own.cells (g := g) rfl i _ (List.getElem?_eq_getElem hi), hr.mono fun k hk _ => hk.1⟩

set_option maxHeartbeats 4000000 in
set_option maxRecDepth 100000 in
theorem ofJs (m : Nat) (hM : Mk m) (A : Option Addr) (c : Nat) (l : List JV) (w : World) (hr : kJ.C w A l.length l) (hc : l.length ≤ c) (hl : l.length * 88 ≤ 140737488351232) (hd : ∀ y ∈ l, Dp m y) (hw : ∀ y ∈ l, wfJ y) :
    Calls Try.prog 22 #[.slice A l.length c] w fun e w' => ∃ A' c', e = .returned (.slice A' l.length c') ∧ l.length ≤ c' ∧ RowAt (Rep m (fun k => w.heap.size ≤ k) w') (fun k => w.heap.size ≤ k) w' A' (l.map (toD m)) ∧ Below w.heap.size w w' := by
  have HM := Lib.hid hM
  have HR := Lib.hid hr
  have HD := Lib.hid hd
  have HW := Lib.hid hw
  obtain ⟨ds, hds⟩ : ∃ ds, l.map (toD m) = ds := ⟨_, rfl⟩
  rw [hds]
  have HDS := Lib.hid hds
  clear hM hr hd hw hds
  go_enter Try.func22, Try.ntmps22
  go_wp2_with fail
  go_loopw [3, 9] (fun ov iv wi => ∃ (i : Nat) (us : List Value), iv = .int .i64 i ∧ i ≤ l.length ∧ Hid (OwnR w wi ds m i ov us)) (fun _ iv _ => l.length - (intOf iv).toNat)
  case atStart => exact ⟨0, [], rfl, by omega, Lib.hid (OwnR.start w ds m)⟩
  case round =>
    obtain ⟨i, us, rfl, hil, HS⟩ := hrel
    by_cases hlt : i < l.length
    · have hd1 : decide ((i : Int) < (l.length : Int)) = true := decide_eq_true (by omega)
      have hC := Kd.C_below HR.out HS.out.below
      obtain ⟨ad, A4, c4, A5, c5, rfl, q0, q1, q2, q3, q4, q5, l4, g4, l5, g5⟩ := at_T25 hC (i : Int) (by omega) (by omega)
      rw [Int.toNat_natCast] at q0 q1 q2 q3 q4 q5
      have hg : rd_T25 l (i : Int) = l[i] := by
        unfold rd_T25
        rw [Int.toNat_natCast, List.getD_eq_getElem?_getD, List.getElem?_eq_getElem hlt]; rfl
      obtain ⟨g, hgg⟩ : ∃ g, rd_T25 l (i : Int) = g := ⟨_, rfl⟩
      rw [hgg] at hg q0 q1 q2 q3 q4 q5 l4 g4 l5 g5
      have HG := Lib.hid hg
      have HDg := Lib.hid (show Dp m g by rw [HG.out]; exact HD.out _ (List.getElem_mem _))
      have HWg := Lib.hid (show wfJ g by rw [HG.out]; exact HW.out _ (List.getElem_mem _))
      have HE := Lib.hid (show ds[i]? = some (toD m g) by rw [← HDS.out, List.getElem?_map, List.getElem?_eq_getElem hlt, HG.out]; rfl)
      have hK0 := k25_mk wr g l4 g4 l5 g5
      have HK := Lib.hid hK0
      have hul : (us.length + 1) * 16 ≤ 140737488355328 := by have := HS.out.len; omega
      have HUL := Lib.hid hul
      clear hg hC l4 g4 l5 g5 hK0 hgg hul
      go_wp2_with fail
      have hb1 : Below wr.heap.size wr (wr.alloc (.cells #[.int .i64 g.f0, .bool g.f1, .int .i64 g.f2, .string g.f3, .slice A4 g.f4.length c4, .slice A5 g.f5.length c5] 25)) := (Below.refl _ _).alloc (Nat.le_refl _) _
      with_reducible refine (HM.out.call g #[.int .i64 g.f0, .bool g.f1, .int .i64 g.f2, .string g.f3, .slice A4 g.f4.length c4, .slice A5 g.f5.length c5] _ HDg.out HWg.out (kJ.K_below hb1 HK.out)).mono ?_
      rintro e w1 ⟨u, rfl, hrep, hb2⟩
      have hb3 : Below wr.heap.size wr w1 := hb1.trans (hb2.mono (by simp))
      have HX := Lib.hid (And.intro hrep (And.intro hb3 (HS.out.below.trans (hb3.mono HS.out.below.size))))
      have hu1 := hrep.one
      have hu2 := hrep.cells
      unfold Value.cells at hu2
      have HO := Lib.hid (show w1.ownsRow w.heap.size 20 1 u3 us.length us from HS.out.own.kept (row := none) ⟨hb3.os, hb3.tape, hb3.output, hb3.size, fun i hi _ => hb3.block i hi⟩ (by cases u3.ownBlock <;> simp))
      clear hrep hb2 hb3 hb1
      go_wp2_with (at_builtin; refine print_append (w0 := w) w.heap.size rfl _ _ 42 20 .nilIface 16 rfl Try.underlying42 infoAny rfl (by decide) u3 us u rfl rfl hu1 HO.out HX.out.2.2 HX.out.2.2.size HUL.out ?_)
      intro v1 w2 hown hbw hgw hat
      have HN := Lib.hid (HS.out.next HE.out (by simp) HX.out.2.1 HX.out.1 (by simpa using hown) hbw hgw hat)
      clear hown hbw hgw hat
      go_wp2_with fail
      go_roundw
      case rel => exact ⟨i + 1, _, by go_num, by omega, HN⟩
      case measure => simp [intOf]; omega
    · obtain rfl : i = l.length := by omega
      have hd1 : decide ((l.length : Int) < (l.length : Int)) = false := by simp
      clear hlt
      have hdl : ds.length = l.length := by rw [← HDS.out, List.length_map]
      have hS := HS.out
      have hS' : OwnR w wr ds m ds.length u3 us := by rw [hdl]; exact hS
      obtain ⟨A', c', e1, e2, e3⟩ := hS'.done
      rw [hdl] at e1 e2
      have HF := Lib.hid (And.intro e2 (And.intro e3 hS.below))
      clear hS hS' e2 e3 hdl
      subst e1
      go_wp2_with fail
      go_ret
      exact ⟨A', c', rfl, HF.out.1, HF.out.2.1, HF.out.2.2⟩
end Go.Proofs.Ytdleegmdpgefmaa.J
