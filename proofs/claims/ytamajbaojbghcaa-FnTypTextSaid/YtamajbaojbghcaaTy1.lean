/- GraphQL types: what the specification's functions say of them, plain. -/
import Derived.Test.YtamajbaojbghcaaTy0
namespace Go.Proofs.Ytamajbaojbghcaa.Ty
open Go.RowKit Go.Proofs.YtamajbaojbghcaaW.PrintWords Go.Proofs.YtamajbaojbghcaaW.PrintLast Go.Proofs.YtamajbaojbghcaaW.PrintMore Go.Proofs.Ytamajbaojbghcaa.PT Go.Proofs.Ytamajbaojbghcaa.K
set_option linter.unusedVariables false
set_option linter.unusedSimpArgs false
theorem startE (a : Int) : ∃ b, spec_IsStart.f a = some b := by
  unfold spec_IsStart.f
  repeat' split
  all_goals exact ⟨_, rfl⟩
theorem digitE (a : Int) : ∃ b, spec_IsDigit.f a = some b := by
  unfold spec_IsDigit.f
  repeat' split
  all_goals exact ⟨_, rfl⟩
theorem isNameE (s : ByteArray) (hs : s.size ≤ 140737488351232) : ∃ b, Ev (fun k => spec_IsName.f k s) b ∧ (b = true → s ≠ ByteArray.empty) := by
  have loop : ∀ d i : Nat, s.size - i = d → i ≤ s.size → ∃ b, Ev (fun k => spec_IsName.l0 k s (i : Int)) b ∧ (b = true → s ≠ ByteArray.empty) := by
    intro d
    induction d with
    | zero =>
      intro i hd hi
      refine ⟨s.toList != ([] : List UInt8), ⟨1, fun k hk => ?_⟩, fun h e => by subst e; rw [ByteArray.toList_eq] at h; exact absurd h (by decide)⟩
      obtain ⟨k', rfl⟩ : ∃ k', k = k' + 1 := ⟨k - 1, by omega⟩
      show spec_IsName.l0 (k' + 1) s (i : Int) = _
      rw [spec_IsName.l0, if_neg (by omega)]
    | succ d ih =>
      intro i hd hi
      obtain ⟨b1, h1⟩ := startE (wrap32 (bt s (i : Int)))
      obtain ⟨b2, h2⟩ := digitE (wrap32 (bt s (i : Int)))
      obtain ⟨r, ⟨K, hK⟩, hr⟩ := ih (i + 1) (by omega) (by omega)
      have hw : wrap64 ((i : Int) + 1) = ((i + 1 : Nat) : Int) := by rw [wrap_in (by omega) (by omega)]; omega
      by_cases hb : b1 = true ∨ ((i : Int) ≠ 0 ∧ b2 = true)
      · refine ⟨r, ⟨K + 1, fun k hk => ?_⟩, hr⟩
        obtain ⟨k', rfl⟩ : ∃ k', k = k' + 1 := ⟨k - 1, by omega⟩
        show spec_IsName.l0 (k' + 1) s (i : Int) = _
        rw [spec_IsName.l0, if_pos (by omega), if_pos (by omega), h1, Option.bind_some, hw]
        have := hK k' (by omega)
        rcases hb with hb | ⟨h0, hb⟩
        · rw [if_pos hb]; exact this
        · by_cases hb1 : b1 = true
          · rw [if_pos hb1]; exact this
          · rw [if_neg hb1, if_neg h0, h2, Option.bind_some, if_pos hb]; exact this
      · refine ⟨false, ⟨1, fun k hk => ?_⟩, fun h => by cases h⟩
        obtain ⟨k', rfl⟩ : ∃ k', k = k' + 1 := ⟨k - 1, by omega⟩
        show spec_IsName.l0 (k' + 1) s (i : Int) = _
        have hb1 : ¬ b1 = true := fun e => hb (.inl e)
        rw [spec_IsName.l0, if_pos (by omega), if_pos (by omega), h1, Option.bind_some, if_neg hb1]
        by_cases h0 : (i : Int) = 0
        · rw [if_pos h0]
        · have hb2 : ¬ b2 = true := fun e => hb (.inr ⟨h0, e⟩)
          rw [if_neg h0, h2, Option.bind_some, if_neg hb2]
  exact loop s.size 0 (by omega) (by omega)
/-- The wf of what comes in: an element of a list. -/
theorem rd0 (l : List TV) (e : TV) (h : l = [e]) : rd_T24 l 0 = e := by subst h; rfl
theorem fitsTypE : ∀ (n : Nat) (t : TV), n ≤ 100 → Op.wf_k24 t → ∃ b, Ev (fun k => spec_FitsTyp.f k t.f0 t.f1 t.f2 (n : Int)) b ∧ (b = true → Ft n t) := by
  intro n
  induction n with
  | zero =>
    intro t hn hw
    by_cases h1 : t.f1 = []
    · obtain ⟨b, ⟨K, hK⟩, hb⟩ := isNameE t.f0 hw.name
      refine ⟨b, ⟨K + 1, fun k hk => ?_⟩, fun h => Ft.name _ _ h1 (hb h)⟩
      obtain ⟨k', rfl⟩ : ∃ k', k = k' + 1 := ⟨k - 1, by omega⟩
      show spec_FitsTyp.f (k' + 1) _ _ _ _ = _
      have := hK k' (by omega)
      simp only at this
      rw [spec_FitsTyp.f, if_pos (by rw [h1]; rfl), this]; rfl
    · refine ⟨false, ⟨1, fun k hk => ?_⟩, fun h => by cases h⟩
      obtain ⟨k', rfl⟩ : ∃ k', k = k' + 1 := ⟨k - 1, by omega⟩
      show spec_FitsTyp.f (k' + 1) _ _ _ _ = _
      have hl : ¬ (t.f1.length : Int) = 0 := fun e => h1 (List.eq_nil_of_length_eq_zero (by omega))
      rw [spec_FitsTyp.f, if_neg hl, if_neg (by simp)]
  | succ n ih =>
    intro t hn hw
    by_cases h1 : t.f1 = []
    · obtain ⟨b, ⟨K, hK⟩, hb⟩ := isNameE t.f0 hw.name
      refine ⟨b, ⟨K + 1, fun k hk => ?_⟩, fun h => Ft.name _ _ h1 (hb h)⟩
      obtain ⟨k', rfl⟩ : ∃ k', k = k' + 1 := ⟨k - 1, by omega⟩
      show spec_FitsTyp.f (k' + 1) _ _ _ _ = _
      have := hK k' (by omega)
      simp only at this
      rw [spec_FitsTyp.f, if_pos (by rw [h1]; rfl), this]; rfl
    · have hl : ¬ (t.f1.length : Int) = 0 := fun e => h1 (List.eq_nil_of_length_eq_zero (by omega))
      by_cases h2 : ∃ e, t.f1 = [e]
      · obtain ⟨e, he⟩ := h2
        by_cases h3 : t.f0.toList = ([] : List UInt8)
        · obtain ⟨b, ⟨K, hK⟩, hb⟩ := ih e (by omega) (hw.elem e (by rw [he]; simp))
          refine ⟨b, ⟨K + 1, fun k hk => ?_⟩, fun h => Ft.list _ _ e he (by apply ByteArray.ext; apply Array.toList_inj.1; simpa [ByteArray.toList_eq] using h3) (hb h)⟩
          obtain ⟨k', rfl⟩ : ∃ k', k = k' + 1 := ⟨k - 1, by omega⟩
          show spec_FitsTyp.f (k' + 1) _ _ _ _ = _
          have := hK k' (by omega)
          simp only at this
          have hwr : wrap64 (((n + 1 : Nat) : Int) - 1) = (n : Int) := by rw [wrap_in (by omega) (by omega)]; omega
          rw [spec_FitsTyp.f, if_neg hl, if_pos (by omega), if_pos (by rw [he]; rfl), if_pos h3, if_pos (by rw [he]; simp), rd0 _ e he, hwr, this]; rfl
        · refine ⟨false, ⟨1, fun k hk => ?_⟩, fun h => by cases h⟩
          obtain ⟨k', rfl⟩ : ∃ k', k = k' + 1 := ⟨k - 1, by omega⟩
          show spec_FitsTyp.f (k' + 1) _ _ _ _ = _
          rw [spec_FitsTyp.f, if_neg hl, if_pos (by omega), if_pos (by rw [he]; rfl), if_neg h3]
      · refine ⟨false, ⟨1, fun k hk => ?_⟩, fun h => by cases h⟩
        obtain ⟨k', rfl⟩ : ∃ k', k = k' + 1 := ⟨k - 1, by omega⟩
        show spec_FitsTyp.f (k' + 1) _ _ _ _ = _
        have hl1 : ¬ (t.f1.length : Int) = 1 := fun e => h2 (by
          obtain ⟨a, ha⟩ := List.length_eq_one_iff.1 (show t.f1.length = 1 by omega)
          exact ⟨a, ha⟩)
        rw [spec_FitsTyp.f, if_neg hl, if_pos (by omega), if_neg hl1]
theorem fits_name (n m : Nat) (a b : TV) (h1 : a.f1 = []) (hb : Ft m b) : Ev (fun k => spec_Fits.f k a.f0 a.f1 false b.f0 b.f1 false) (compat (toT n ⟨a.f0, a.f1, false⟩) (toT m ⟨b.f0, b.f1, false⟩)) := by
  rw [toT_name (t := ⟨a.f0, a.f1, false⟩) h1]
  refine ⟨1, fun k hk => ?_⟩
  obtain ⟨k', rfl⟩ : ∃ k', k = k' + 1 := ⟨k - 1, by omega⟩
  show spec_Fits.f (k' + 1) _ _ _ _ _ _ = _
  cases hb with
  | name _ _ g1 _ =>
    rw [toT_name (t := ⟨b.f0, b.f1, false⟩) g1]
    rw [spec_Fits.f, if_neg (by simp), if_neg (by simp), h1, g1, if_pos (by simp), if_pos (by rw [wrap_in (by simp) (by simp)]; rfl)]
    simp [compat]
  | list m _ e g1 _ _ =>
    rw [toT_list (t := ⟨b.f0, b.f1, false⟩) g1]
    rw [spec_Fits.f, if_neg (by simp), if_neg (by simp), h1, g1, if_pos (by simp), if_neg (fun h => by rw [wrap_in (by simp) (by simp)] at h; simp at h)]
    simp [compat]
theorem fits0 : ∀ (n m : Nat) (a b : TV), Ft n a → Ft m b → Ev (fun k => spec_Fits.f k a.f0 a.f1 false b.f0 b.f1 false) (compat (toT n ⟨a.f0, a.f1, false⟩) (toT m ⟨b.f0, b.f1, false⟩)) ∧ Ev (fun k => spec_Fits.f k a.f0 a.f1 a.f2 b.f0 b.f1 b.f2) (compat (toT n a) (toT m b)) := by
  have top : ∀ (n m : Nat) (a b : TV), Ft n a → Ft m b → Ev (fun k => spec_Fits.f k a.f0 a.f1 false b.f0 b.f1 false) (compat (toT n ⟨a.f0, a.f1, false⟩) (toT m ⟨b.f0, b.f1, false⟩)) → Ev (fun k => spec_Fits.f k a.f0 a.f1 a.f2 b.f0 b.f1 b.f2) (compat (toT n a) (toT m b)) := by
    intro n m a b ha hb ⟨K, hK⟩
    have e : compat (toT n a) (toT m b) = (compat (toT n ⟨a.f0, a.f1, false⟩) (toT m ⟨b.f0, b.f1, false⟩) && (!b.f2 || a.f2)) := by
      cases ha with
      | name _ _ h1 _ =>
        rw [toT_name h1, toT_name (t := ⟨a.f0, a.f1, false⟩) h1]
        cases hb with
        | name _ _ g1 _ => rw [toT_name g1, toT_name (t := ⟨b.f0, b.f1, false⟩) g1]; simp [compat]
        | list m _ e g1 _ _ => rw [toT_list g1, toT_list (t := ⟨b.f0, b.f1, false⟩) g1]; simp [compat]
      | list n _ e h1 _ _ =>
        rw [toT_list h1, toT_list (t := ⟨a.f0, a.f1, false⟩) h1]
        cases hb with
        | name _ _ g1 _ => rw [toT_name g1, toT_name (t := ⟨b.f0, b.f1, false⟩) g1]; simp [compat]
        | list m _ e g1 _ _ => rw [toT_list g1, toT_list (t := ⟨b.f0, b.f1, false⟩) g1]; simp [compat]
    rw [e]
    refine ⟨K + 2, fun k hk => ?_⟩
    obtain ⟨k', rfl⟩ : ∃ k', k = k' + 1 := ⟨k - 1, by omega⟩
    have h1 := hK k' (by omega)
    have h2 := hK (k' + 1) (by omega)
    simp only at h1 h2
    show spec_Fits.f (k' + 1) _ _ _ _ _ _ = _
    cases hb2 : b.f2 <;> cases ha2 : a.f2
    · rw [h2]; simp
    · rw [spec_Fits.f, if_neg (by simp), if_pos rfl, h1]; simp
    · rw [spec_Fits.f, if_pos rfl, if_neg (by simp)]; simp
    · rw [spec_Fits.f, if_pos rfl, if_pos rfl, h1]; simp
  intro n
  induction n with
  | zero =>
    intro m a b ha hb
    have h0 : Ev (fun k => spec_Fits.f k a.f0 a.f1 false b.f0 b.f1 false) (compat (toT 0 ⟨a.f0, a.f1, false⟩) (toT m ⟨b.f0, b.f1, false⟩)) := by
      cases ha with
      | name _ _ h1 _ => exact fits_name _ _ _ _ h1 hb
    exact ⟨h0, top 0 m a b ha hb h0⟩
  | succ n ih =>
    intro m a b ha hb
    have h0 : Ev (fun k => spec_Fits.f k a.f0 a.f1 false b.f0 b.f1 false) (compat (toT (n + 1) ⟨a.f0, a.f1, false⟩) (toT m ⟨b.f0, b.f1, false⟩)) := by
      cases ha with
      | name _ _ h1 _ => exact fits_name _ _ _ _ h1 hb
      | list _ _ e h1 h2 h3 =>
        cases hb with
        | name _ _ g1 _ =>
          rw [toT_list (t := ⟨a.f0, a.f1, false⟩) h1, toT_name (t := ⟨b.f0, b.f1, false⟩) g1]
          refine ⟨1, fun k hk => ?_⟩
          obtain ⟨k', rfl⟩ : ∃ k', k = k' + 1 := ⟨k - 1, by omega⟩
          show spec_Fits.f (k' + 1) _ _ _ _ _ _ = _
          rw [spec_Fits.f, if_neg (by simp), if_neg (by simp), h1, g1, if_neg (by simp), if_pos (by simp), if_neg (fun h => by rw [wrap_in (by simp) (by simp)] at h; simp at h)]
          rfl
        | list m _ e' g1 g2 g3 =>
          obtain ⟨K, hK⟩ := (ih m e e' h3 g3).2
          rw [toT_list (t := ⟨a.f0, a.f1, false⟩) h1, toT_list (t := ⟨b.f0, b.f1, false⟩) g1]
          refine ⟨K + 1, fun k hk => ?_⟩
          obtain ⟨k', rfl⟩ : ∃ k', k = k' + 1 := ⟨k - 1, by omega⟩
          have := hK k' (by omega)
          simp only at this
          show spec_Fits.f (k' + 1) _ _ _ _ _ _ = _
          rw [spec_Fits.f, if_neg (by simp), if_neg (by simp), if_neg (by rw [h1]; simp), if_neg (by rw [g1]; simp), if_pos (by rw [h1]; simp), if_pos (by rw [g1]; simp), rd0 _ e h1, rd0 _ e' g1, this]
          simp [compat]
    exact ⟨h0, top (n + 1) m a b ha hb h0⟩
end Go.Proofs.Ytamajbaojbghcaa.Ty
