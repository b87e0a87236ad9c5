/- GraphQL types: IsCompatible. -/
import Derived.Test.YtamajbaojbghcaaTy2
namespace Go.Proofs.Ytamajbaojbghcaa.Ty
open Go.RowKit Go.Proofs.YtamajbaojbghcaaW.PrintWords Go.Proofs.YtamajbaojbghcaaW.PrintLast Go.Proofs.YtamajbaojbghcaaW.PrintMore Go.Proofs.Ytamajbaojbghcaa.PT Go.Proofs.Ytamajbaojbghcaa.K
set_option linter.unusedVariables false
set_option linter.unusedSimpArgs false
def CmP (t u : Ty) (w : World) (e : Ending) (w' : World) : Prop := e = .returned (.bool (compat t u)) ∧ Below w.heap.size w w'
def CmC (t : Ty) : Prop := ∀ (u : Ty) (p q : Value) (w : World) (b b' : Nat), Good t → Good u → TyAt w b t p → TyAt w b' u q → Calls Try.prog 39 #[p, q] w (CmP t u w)
theorem beq_comm_empty (s : ByteArray) (h : s ≠ ByteArray.empty) : (s.toList == ([] : List UInt8)) = false := by
  cases hx : s.toList with
  | nil => exact absurd (by apply ByteArray.ext; apply Array.toList_inj.1; simpa [ByteArray.toList_eq] using hx) h
  | cons a l => rfl
theorem CmC.at_ {t : Ty} (h : CmC t) (u : Ty) (p q : Value) (w : World) (b b' : Nat) (h1 : Good t) (h2 : Good u) (h3 : TyAt w b t p) (h4 : TyAt w b' u q) (r : Bool) (hr : compat t u = r) : Calls Try.prog 39 #[p, q] w fun e w' => e = .returned (.bool r) ∧ Below w.heap.size w w' := by
  subst hr; exact h u p q w b b' h1 h2 h3 h4
/-- The names differ: false at once. -/
theorem cm_differ (w : World) (g g' : Nat) (s s' : ByteArray) (hk : (s.toList == s'.toList) = false) (x0 : w.cell? ⟨g, 0, none⟩ = some (.string s)) (y0 : w.cell? ⟨g', 0, none⟩ = some (.string s')) : Calls Try.prog 39 #[.pointer (some ⟨g, 0, none⟩), .pointer (some ⟨g', 0, none⟩)] w fun e w' => e = .returned (.bool false) ∧ Below w.heap.size w w' := by
  go_enter Try.func39, Try.ntmps39
  go_wp2_with fail
  go_quiet (fail)
  obtain ⟨wa, hwa⟩ : ∃ W, w.drewN nq = W := ⟨_, rfl⟩
  have hb : Below w.heap.size w wa := by rw [← hwa]; exact pw_below_drewN (Below.refl _ _) _
  rw [hwa]
  clear hwa
  go_wp2_with fail
  go_ret
  exact ⟨rfl, hb⟩
set_option maxHeartbeats 4000000 in
set_option maxRecDepth 100000 in
theorem cm_same (w : World) (g g' : Nat) (s s' : ByteArray) (b b' : Bool) (hk : (s.toList == s'.toList) = true) (x0 : w.cell? ⟨g, 0, none⟩ = some (.string s)) (y0 : w.cell? ⟨g', 0, none⟩ = some (.string s')) (x1 : w.cell? ⟨g, 1, none⟩ = some (.pointer none)) (x2 : w.cell? ⟨g, 2, none⟩ = some (.bool b)) (y2 : w.cell? ⟨g', 2, none⟩ = some (.bool b')) : Calls Try.prog 39 #[.pointer (some ⟨g, 0, none⟩), .pointer (some ⟨g', 0, none⟩)] w fun e w' => e = .returned (.bool (!b' || b)) ∧ Below w.heap.size w w' := by
  go_enter Try.func39, Try.ntmps39
  go_wp2_with fail
  go_quiet (fail)
  obtain ⟨wa, hwa⟩ : ∃ W, w.drewN nq = W := ⟨_, rfl⟩
  have hb : Below w.heap.size w wa := by rw [← hwa]; exact pw_below_drewN (Below.refl _ _) _
  rw [hwa]
  clear hwa
  replace x1 := (hb.cell (lt_of_cell x1)).trans x1
  replace x2 := (hb.cell (lt_of_cell x2)).trans x2
  replace y2 := (hb.cell (lt_of_cell y2)).trans y2
  clear x0 y0
  go_wp2_with fail
  go_quiet (fail)
  obtain ⟨wc, hwc⟩ : ∃ W, wa.drewN nq = W := ⟨_, rfl⟩
  have hb2 : Below w.heap.size w wc := by rw [← hwc]; exact pw_below_drewN hb _
  have hbc : Below wa.heap.size wa wc := by rw [← hwc]; exact pw_below_drewN (Below.refl _ _) _
  rw [hwc]
  clear hwc
  replace x2 := (hbc.cell (lt_of_cell x2)).trans x2
  replace y2 := (hbc.cell (lt_of_cell y2)).trans y2
  clear x1
  cases b'
  · go_wp2_with fail
    go_ret
    exact ⟨by simp, hb2⟩
  · go_wp2_with fail
    go_ret
    exact ⟨by simp, hb2⟩
/-- Two lists: what the elements say. -/
theorem cm_lists (t u : Ty) (ih : CmC t) (hgt : Good t) (hgu : Good u) (w : World) (g g' : Nat) (bb bb' : Nat) (b b' : Bool) (pt pu : Nat) (ht : TyAt w bb t (.pointer (some ⟨pt, 0, none⟩))) (hu : TyAt w bb' u (.pointer (some ⟨pu, 0, none⟩))) (x0 : w.cell? ⟨g, 0, none⟩ = some (.string ByteArray.empty)) (y0 : w.cell? ⟨g', 0, none⟩ = some (.string ByteArray.empty)) (x1 : w.cell? ⟨g, 1, none⟩ = some (.pointer (some ⟨pt, 0, none⟩))) (y1 : w.cell? ⟨g', 1, none⟩ = some (.pointer (some ⟨pu, 0, none⟩))) (x2 : w.cell? ⟨g, 2, none⟩ = some (.bool b)) (y2 : w.cell? ⟨g', 2, none⟩ = some (.bool b')) : Calls Try.prog 39 #[.pointer (some ⟨g, 0, none⟩), .pointer (some ⟨g', 0, none⟩)] w fun e w' => e = .returned (.bool (compat t u && (!b' || b))) ∧ Below w.heap.size w w' := by
  obtain ⟨r, hr⟩ : ∃ r, compat t u = r := ⟨_, rfl⟩
  rw [hr]
  have HR := Lib.hid hr
  have IH := Lib.hid ih
  have HT := Lib.hid ht
  have HU := Lib.hid hu
  have HG := Lib.hid (And.intro hgt hgu)
  have hk : (ByteArray.empty.toList == ByteArray.empty.toList) = true := by simp
  clear hr ih ht hu hgt hgu
  go_enter Try.func39, Try.ntmps39
  go_wp2_with fail
  go_quiet (fail)
  obtain ⟨wa, hwa⟩ : ∃ W, w.drewN nq = W := ⟨_, rfl⟩
  have hb : Below w.heap.size w wa := by rw [← hwa]; exact pw_below_drewN (Below.refl _ _) _
  rw [hwa]
  clear hwa
  replace x1 := (hb.cell (lt_of_cell x1)).trans x1
  replace x2 := (hb.cell (lt_of_cell x2)).trans x2
  replace y1 := (hb.cell (lt_of_cell y1)).trans y1
  replace y2 := (hb.cell (lt_of_cell y2)).trans y2
  clear x0 y0 hk
  go_wp2_with fail
  have hbd : Below w.heap.size w wa.drew := hb.drew
  go_region_held3 (fun w' => w'.cell? ⟨g, 1, none⟩ = some (.pointer (some ⟨pt, 0, none⟩)) ∧ w'.cell? ⟨g', 1, none⟩ = some (.pointer (some ⟨pu, 0, none⟩)))
    (first
      | go_keep
      | (go_split_ands; exact ⟨(hbc.cell (lt_of_cell x1)).trans x1, (hbc.cell (lt_of_cell y1)).trans y1⟩))
    (first
      | (go_at_call 39; refine (IH.out.at_ u (.pointer (some ⟨pt, 0, none⟩)) (.pointer (some ⟨pu, 0, none⟩)) _ bb bb' HG.out.1 HG.out.2 (HT.out.below hbd) (HU.out.below hbd) r HR.out).mono ?_; rintro e wc ⟨rfl, hbl⟩; have hbc : Below wa.heap.size wa wc := (Below.refl _ _).drew.trans hbl)
      | fail)
  have hb2 : Below w.heap.size w wc := hb.trans (hbc.mono hb.size)
  replace x2 := (hbc.cell (lt_of_cell x2)).trans x2
  replace y2 := (hbc.cell (lt_of_cell y2)).trans y2
  clear x1 y1
  cases r
  · go_wp2_with fail
    go_ret
    exact ⟨by simp, hb2⟩
  · cases b'
    · go_wp2_with fail
      go_ret
      exact ⟨by simp, hb2⟩
    · go_wp2_with fail
      go_ret
      exact ⟨by simp, hb2⟩
theorem cm : ∀ t, CmC t
  | .named s b => fun u p q w b1 b2 hg hg' ht hu => by
    obtain ⟨g, P, rfl, _, hh⟩ := ht
    have x0 : w.cell? ⟨g, 0, none⟩ = some (.string s) := by rw [Lib.cell_of_heap hh]; rfl
    have x1 : w.cell? ⟨g, 1, none⟩ = some (.pointer none) := by rw [Lib.cell_of_heap hh]; rfl
    have x2 : w.cell? ⟨g, 2, none⟩ = some (.bool b) := by rw [Lib.cell_of_heap hh]; rfl
    cases u with
    | named s' b' =>
      obtain ⟨g', P', rfl, _, hh'⟩ := hu
      have y0 : w.cell? ⟨g', 0, none⟩ = some (.string s') := by rw [Lib.cell_of_heap hh']; rfl
      have y2 : w.cell? ⟨g', 2, none⟩ = some (.bool b') := by rw [Lib.cell_of_heap hh']; rfl
      cases hk : (s.toList == s'.toList)
      · refine (cm_differ w g g' s s' hk x0 y0).mono ?_
        rintro e w' ⟨rfl, hb⟩
        exact ⟨by simp [compat, hk], hb⟩
      · refine (cm_same w g g' s s' b b' hk x0 y0 x1 x2 y2).mono ?_
        rintro e w' ⟨rfl, hb⟩
        exact ⟨by simp only [compat, hk, Bool.true_and], hb⟩
    | list e' b' =>
      obtain ⟨g', P', q', rfl, _, hh', _⟩ := hu
      have y0 : w.cell? ⟨g', 0, none⟩ = some (.string ByteArray.empty) := by rw [Lib.cell_of_heap hh']; rfl
      refine (cm_differ w g g' s ByteArray.empty (by rw [show ByteArray.empty.toList = [] by rw [ByteArray.toList_eq]; rfl]; exact beq_comm_empty s hg) x0 y0).mono ?_
      rintro e w' ⟨rfl, hb⟩
      exact ⟨by simp [compat], hb⟩
  | .list t b => fun u p q w b1 b2 hg hg' ht hu => by
    obtain ⟨g, P, p', rfl, _, hh, ht⟩ := ht
    have x0 : w.cell? ⟨g, 0, none⟩ = some (.string ByteArray.empty) := by rw [Lib.cell_of_heap hh]; rfl
    have x1 : w.cell? ⟨g, 1, none⟩ = some p' := by rw [Lib.cell_of_heap hh]; rfl
    have x2 : w.cell? ⟨g, 2, none⟩ = some (.bool b) := by rw [Lib.cell_of_heap hh]; rfl
    cases u with
    | named s' b' =>
      obtain ⟨g', P', rfl, _, hh'⟩ := hu
      have y0 : w.cell? ⟨g', 0, none⟩ = some (.string s') := by rw [Lib.cell_of_heap hh']; rfl
      refine (cm_differ w g g' ByteArray.empty s' (by rw [show ByteArray.empty.toList = [] by rw [ByteArray.toList_eq]; rfl, BEq.comm]; exact beq_comm_empty s' hg') x0 y0).mono ?_
      rintro e w' ⟨rfl, hb⟩
      exact ⟨by simp [compat], hb⟩
    | list e' b' =>
      obtain ⟨g', P', q', rfl, _, hh', hu⟩ := hu
      have y0 : w.cell? ⟨g', 0, none⟩ = some (.string ByteArray.empty) := by rw [Lib.cell_of_heap hh']; rfl
      have y1 : w.cell? ⟨g', 1, none⟩ = some q' := by rw [Lib.cell_of_heap hh']; rfl
      have y2 : w.cell? ⟨g', 2, none⟩ = some (.bool b') := by rw [Lib.cell_of_heap hh']; rfl
      obtain ⟨pt, rfl⟩ := ht.ptr
      obtain ⟨pu, rfl⟩ := hu.ptr
      exact cm_lists t e' (cm t) hg hg' w g g' b1 b2 b b' pt pu ht hu x0 y0 x1 y1 x2 y2
end Go.Proofs.Ytamajbaojbghcaa.Ty
