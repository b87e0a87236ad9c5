/- GraphQL types: as texts, and the name at the base. -/
import Derived.Test.YtamajbaojbghcaaTy4
namespace Go.Proofs.Ytamajbaojbghcaa.Ty
open Go.RowKit Go.Proofs.YtamajbaojbghcaaW.PrintWords Go.Proofs.YtamajbaojbghcaaW.PrintLast Go.Proofs.YtamajbaojbghcaaW.PrintMore Go.Proofs.Ytamajbaojbghcaa.PT Go.Proofs.Ytamajbaojbghcaa.K
set_option linter.unusedVariables false
set_option linter.unusedSimpArgs false
/-- As a text. -/
def txt : Ty → ByteArray
  | .named s b => if b = true then s ++ ⟨#[33]⟩ else s
  | .list e b => if b = true then ((⟨#[91]⟩ ++ txt e) ++ ⟨#[93]⟩) ++ ⟨#[33]⟩ else (⟨#[91]⟩ ++ txt e) ++ ⟨#[93]⟩
def rank : Ty → Nat
  | .named _ _ => 0
  | .list e _ => rank e + 1
theorem rank_le : ∀ {n : Nat} {t : TV}, Ft n t → rank (toT n t) ≤ n := by
  intro n t h
  induction h with
  | name n t h1 h2 => rw [toT_name h1]; exact Nat.zero_le _
  | list n t e h1 h2 h3 ih => rw [toT_list h1]; simp only [rank]; omega
/-- The name is no longer than a text that came in. -/
def Sm (t : Ty) : Prop := (baseN t).size ≤ 140737488351232
theorem sm_of : ∀ {n : Nat} {t : TV}, Ft n t → wfT t → Sm (toT n t) := by
  intro n t h
  induction h with
  | name n t h1 h2 => intro hw; rw [toT_name h1]; exact hw.name
  | list n t e h1 h2 h3 ih => intro hw; rw [toT_list h1]; exact ih (hw.elem e (by rw [h1]; simp))
theorem txt_size : ∀ t : Ty, (txt t).size ≤ (baseN t).size + 3 * rank t + 1
  | .named s b => by
    cases b <;> simp only [txt, baseN, rank, if_true, ByteArray.size_append]
    · simp
    · show s.size + 1 ≤ _; omega
  | .list e b => by
    have := txt_size e
    cases b <;> simp only [txt, baseN, rank, if_true, ByteArray.size_append]
    · have : (if False then (((⟨#[91]⟩ : ByteArray) ++ txt e) ++ ⟨#[93]⟩) ++ ⟨#[33]⟩ else (⟨#[91]⟩ ++ txt e) ++ ⟨#[93]⟩).size = 1 + (txt e).size + 1 := by simp only [if_false, ByteArray.size_append]; rfl
      simp at this ⊢
      omega
    · show 1 + (txt e).size + 1 + 1 ≤ _; omega
theorem writeE : ∀ {n : Nat} {t : TV}, n ≤ 100 → Ft n t → wfT t → Ev (fun k => spec_WriteTyp.f k t.f0 t.f1 t.f2) (txt (toT n t)) := by
  intro n t hn h
  induction h with
  | name n t h1 h2 =>
    intro hw
    have hs := hw.name
    rw [toT_name h1]
    refine ⟨1, fun k hk => ?_⟩
    obtain ⟨k', rfl⟩ : ∃ k', k = k' + 1 := ⟨k - 1, by omega⟩
    show spec_WriteTyp.f (k' + 1) _ _ _ = _
    rw [spec_WriteTyp.f, if_neg (by rw [h1]; simp)]
    cases hb : t.f2
    · rw [if_neg (by simp)]; simp [txt]
    · rw [if_pos rfl, if_pos (by omega)]; simp [txt]
  | list n t e h1 h2 h3 ih =>
    intro hw
    have hwe := hw.elem e (by rw [h1]; simp)
    obtain ⟨K, hK⟩ := ih (by omega) hwe
    have hsz := txt_size (toT n e)
    have hsm := sm_of h3 hwe
    have hrk := rank_le h3
    unfold Sm at hsm
    rw [toT_list h1]
    refine ⟨K + 1, fun k hk => ?_⟩
    obtain ⟨k', rfl⟩ : ∃ k', k = k' + 1 := ⟨k - 1, by omega⟩
    have := hK k' (by omega)
    simp only at this
    show spec_WriteTyp.f (k' + 1) _ _ _ = _
    have e1 : ((⟨#[91]⟩ : ByteArray) ++ txt (toT n e)).size = 1 + (txt (toT n e)).size := by rw [ByteArray.size_append]; rfl
    have e2 : (((⟨#[91]⟩ : ByteArray) ++ txt (toT n e)) ++ (⟨#[93]⟩ : ByteArray)).size = 1 + (txt (toT n e)).size + 1 := by rw [ByteArray.size_append, e1]; rfl
    rw [spec_WriteTyp.f, if_pos (by rw [h1]; simp), if_pos (by rw [h1]; simp), rd0 _ e h1, this, Option.bind_some, if_pos (by omega), if_pos (by omega)]
    cases hb : t.f2
    · rw [if_neg (by simp)]; simp [txt]
    · rw [if_pos rfl, if_pos (by omega)]; simp [txt]
theorem app_nil (s : ByteArray) : s ++ (⟨#[]⟩ : ByteArray) = s := by apply ByteArray.ext; apply Array.toList_inj.1; simp
def StrC (t : Ty) : Prop := ∀ (p : Value) (w : World) (b : Nat), Good t → Sm t → rank t ≤ 100 → TyAt w b t p → Calls Try.prog 40 #[p] w fun e w' => e = .returned (.string (txt t)) ∧ Below w.heap.size w w'
set_option maxHeartbeats 1000000 in
theorem str_named (s : ByteArray) (nn : Bool) : StrC (.named s nn) := by
  intro p w b hg hsm _ ht
  obtain ⟨g, P, rfl, _, hh⟩ := ht
  have x0 : w.cell? ⟨g, 0, none⟩ = some (.string s) := by rw [Lib.cell_of_heap hh]; rfl
  have x2 : w.cell? ⟨g, 2, none⟩ = some (.bool nn) := by rw [Lib.cell_of_heap hh]; rfl
  have he := beq_comm_empty s hg
  have he1 : s.toList.isEmpty = false := by
    cases hx : s.toList with
    | nil => rw [hx] at he; cases he
    | cons a l => rfl
  have hs : s.size ≤ 140737488351232 := hsm
  have hs0 : (9223372036854775807 < s.size) = False := eq_false (by omega)
  have hs1 : (9223372036854775807 < s.size + 1) = False := eq_false (by omega)
  clear hh hg hsm
  go_enter Try.func40, Try.ntmps40
  cases nn
  · go_wp2_with fail
    go_ret
    exact ⟨by simp [txt, app_nil], Below.refl _ _⟩
  · go_wp2_with fail
    go_ret
    exact ⟨by simp [txt], Below.refl _ _⟩
set_option maxHeartbeats 1000000 in
theorem str_list (e : Ty) (nn : Bool) (ih : StrC e) : StrC (.list e nn) := by
  intro p w b hg hsm hr ht
  obtain ⟨g, P, q, rfl, _, hh, hte⟩ := ht
  obtain ⟨qa, rfl⟩ := hte.ptr
  have x0 : w.cell? ⟨g, 0, none⟩ = some (.string ByteArray.empty) := by rw [Lib.cell_of_heap hh]; rfl
  have x1 : w.cell? ⟨g, 1, none⟩ = some (.pointer (some ⟨qa, 0, none⟩)) := by rw [Lib.cell_of_heap hh]; rfl
  have x2 : w.cell? ⟨g, 2, none⟩ = some (.bool nn) := by rw [Lib.cell_of_heap hh]; rfl
  have he : (ByteArray.empty.toList == ([] : List UInt8)) = true := by rw [ByteArray.toList_eq]; rfl
  have he1 : ByteArray.empty.toList.isEmpty = true := by rw [ByteArray.toList_eq]; rfl
  have hsz := txt_size e
  have hse : (baseN e).size ≤ 140737488351232 := hsm
  have hre : rank e + 1 ≤ 100 := hr
  have HT := Lib.hid hte
  have HI := Lib.hid ih
  have HG := Lib.hid (And.intro (show Good e from hg) (And.intro (show Sm e from hsm) (show rank e ≤ 100 by omega)))
  obtain ⟨u, hu⟩ : ∃ u, txt e = u := ⟨_, rfl⟩
  rw [hu] at hsz
  have hs1 : (9223372036854775807 < 1 + u.size) = False := eq_false (by omega)
  have hs2 : (9223372036854775807 < 1 + u.size + 1) = False := eq_false (by omega)
  have hs3 : (9223372036854775807 < 1 + u.size + 1 + 1) = False := eq_false (by omega)
  have HU := Lib.hid hu
  clear hh hg hsm hr hte ih hsz hse hre hu
  go_enter Try.func40, Try.ntmps40
  cases nn
  · go_wp2_with fail
    refine (HI.out _ w b HG.out.1 HG.out.2.1 HG.out.2.2 HT.out).mono ?_
    rw [HU.out]
    rintro e1 w1 ⟨rfl, hb⟩
    go_wp2_with fail
    go_ret
    exact ⟨by simp [txt, HU.out, app_nil], hb⟩
  · go_wp2_with fail
    refine (HI.out _ w b HG.out.1 HG.out.2.1 HG.out.2.2 HT.out).mono ?_
    rw [HU.out]
    rintro e1 w1 ⟨rfl, hb⟩
    go_wp2_with fail
    go_ret
    exact ⟨by simp [txt, HU.out], hb⟩
theorem str : ∀ t, StrC t
  | .named s b => str_named s b
  | .list e b => str_list e b (str e)
def NamC (t : Ty) : Prop := ∀ (p : Value) (w : World) (b : Nat), Good t → TyAt w b t p → Calls Try.prog 41 #[p] w fun e w' => e = .returned (.string (baseN t)) ∧ Below w.heap.size w w'
set_option maxHeartbeats 1000000 in
theorem nam : ∀ t, NamC t
  | .named s nn => fun p w b hg ht => by
    obtain ⟨g, P, rfl, _, hh⟩ := ht
    have x0 : w.cell? ⟨g, 0, none⟩ = some (.string s) := by rw [Lib.cell_of_heap hh]; rfl
    have he := beq_comm_empty s hg
    have he1 : s.toList.isEmpty = false := by
      cases hx : s.toList with
      | nil => rw [hx] at he; cases he
      | cons a l => rfl
    clear hh hg
    go_enter Try.func41, Try.ntmps41
    go_wp2_with fail
    go_ret
    exact ⟨rfl, Below.refl _ _⟩
  | .list e nn => fun p w b hg ht => by
    obtain ⟨g, P, q, rfl, _, hh, hte⟩ := ht
    obtain ⟨qa, rfl⟩ := hte.ptr
    have x0 : w.cell? ⟨g, 0, none⟩ = some (.string ByteArray.empty) := by rw [Lib.cell_of_heap hh]; rfl
    have x1 : w.cell? ⟨g, 1, none⟩ = some (.pointer (some ⟨qa, 0, none⟩)) := by rw [Lib.cell_of_heap hh]; rfl
    have he : (ByteArray.empty.toList == ([] : List UInt8)) = true := by rw [ByteArray.toList_eq]; rfl
    have he1 : ByteArray.empty.toList.isEmpty = true := by rw [ByteArray.toList_eq]; rfl
    have HC := Lib.hid (nam e (.pointer (some ⟨qa, 0, none⟩)) w b hg hte)
    clear hh hg hte
    go_enter Try.func41, Try.ntmps41
    go_wp2_with fail
    refine HC.out.mono ?_
    rintro e1 w1 ⟨rfl, hb⟩
    go_wp2_with fail
    go_ret
    exact ⟨rfl, hb⟩
end Go.Proofs.Ytamajbaojbghcaa.Ty
