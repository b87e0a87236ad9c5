/- spec.JHostname: what it answers. -/
import Derived.Test.YtfnnahopbghndaaDoorFmtHost
import Derived.Test.YtfnnahopbghndaaDoorPJEmailx2
namespace Go.Proofs.YtfnnahopbghndaaDoor.SHnJEmail
open Go.RowKit Go.Proofs.YtfnnahopbghndaaDoor.PJEmail Go.Proofs.YtfnnahopbghndaaDoorW.PrintWords Go.Proofs.YtfnnahopbghndaaDoorW.PrintLast Go.Proofs.YtfnnahopbghndaaDoor.K Go.Proofs.YtfnnahopbghndaaDoor.Fmt
set_option linter.unusedVariables false
set_option linter.unusedSimpArgs false

theorem digitS (b : UInt8) : spec_jDigit.f (b.toNat : Int) = some (decide (48 ≤ b.toNat ∧ b.toNat ≤ 57)) := by
  unfold spec_jDigit.f
  by_cases h : (b.toNat : Int) ≥ 48
  · rw [if_pos h]; congr 1; rw [decide_eq_decide]; omega
  · rw [if_neg h]; congr 1; symm; rw [decide_eq_false_iff_not]; omega

theorem letterS (b : UInt8) : spec_jLetter.f (b.toNat : Int) = some (decide ((97 ≤ b.toNat ∧ b.toNat ≤ 122) ∨ (65 ≤ b.toNat ∧ b.toNat ≤ 90))) := by
  unfold spec_jLetter.f
  repeat' split
  all_goals (congr 1; symm; first | (rw [decide_eq_true_eq]; omega) | (rw [decide_eq_false_iff_not]; omega) | (rw [decide_eq_decide]; omega))

theorem labelLoop (s : ByteArray) (hs : s.size ≤ 63) (d : Nat) : ∀ i : Nat, i ≤ s.size → s.size - i = d →
    ∃ b, Ev (fun k => spec_jLabel.l0 k s i) b ∧ (b = true ↔ ∀ j, (h : j < (bs s).length) → i ≤ j → hostB (bs s)[j] = true) := by
  have hl := bs_len s
  induction d with
  | zero =>
    intro i hi hd
    refine ⟨true, ev_succ 0 fun k _ => ?_, ?_⟩
    · simp only [spec_jLabel.l0]; rw [if_neg (by omega)]
    · simp only [true_iff]; intro j h hj; omega
  | succ d ih =>
    intro i hi hd
    have hlt : i < (bs s).length := by omega
    have ew' : wrap64 ((i : Int) + 1) = ((i + 1 : Nat) : Int) := by rw [wrap_in (by omega) (by omega)]; omega
    obtain ⟨b, ⟨K, hK⟩, hb2⟩ := ih (i + 1) (by omega) (by omega)
    have hbt := bt_nat s i hlt
    have hk := hostK.iff (bs s)[i]
    unfold hostR at hk
    by_cases hok : hostB (bs s)[i] = true
    · refine ⟨b, ev_succ K fun k hk' => ?_, ?_⟩
      · have hr := hk.1 hok
        simp only [spec_jLabel.l0, hbt, ew', letterS, digitS, Option.bind_some, decide_eq_true_eq]
        rw [if_pos (by omega), if_pos (by omega)]
        repeat' split
        all_goals first | exact hK k hk' | (exfalso; omega)
      · rw [hb2]
        constructor
        · intro h j hj hij
          by_cases e : j = i
          · subst e; exact hok
          · exact h j hj (by omega)
        · intro h j hj hij; exact h j hj (by omega)
    · refine ⟨false, ev_succ 0 fun k hk' => ?_, ?_⟩
      · have hr : ¬ _ := fun h => hok (hk.2 h)
        simp only [spec_jLabel.l0, hbt, ew', letterS, digitS, Option.bind_some, decide_eq_true_eq]
        rw [if_pos (by omega), if_pos (by omega), if_neg (by omega), if_neg (by omega), if_neg (by omega)]
      · simp only [Bool.false_eq_true, false_iff]
        intro h; exact hok (h i hlt (Nat.le_refl _))

theorem labelS (s : ByteArray) (hs : s.size ≤ 4294967296) : ∃ b, Ev (fun k => spec_jLabel.f k s) b ∧ (b = true ↔ labelOk (bs s)) := by
  have hl := bs_len s
  unfold spec_jLabel.f labelOk
  rw [hl]
  have hj0 : Ev (fun k => spec_jLabel.j0 k s true) false := ev_succ 0 fun k _ => by simp only [spec_jLabel.j0, if_true]
  by_cases h1 : (s.size : Int) < 1
  · simp only [if_pos h1]
    exact ⟨false, hj0, by simp; omega⟩
  simp only [if_neg h1]
  by_cases h2 : (s.size : Int) > 63
  · simp only [if_pos h2]
    exact ⟨false, hj0, by simp; omega⟩
  simp only [if_neg h2, if_pos (show 0 < (s.size : Int) by omega)]
  have hb0 := bt_nat s 0 (by omega)
  rw [show (0 : Int) = ((0 : Nat) : Int) from rfl, hb0]
  have hhead : (bs s).head? = some ((bs s)[0]'(by omega)) := by rw [List.head?_eq_getElem?, List.getElem?_eq_getElem (by omega)]
  by_cases h3 : (bs s)[0]'(by omega) = 45
  · simp only [h3, if_pos (show ((UInt8.toNat 45 : Nat) : Int) = 45 from rfl)]
    exact ⟨false, hj0, by simp [hhead, h3]⟩
  have h3' : ¬ (((bs s)[0]'(by omega)).toNat : Int) = 45 := fun e => h3 ((eq_toNat _ 45).1 e)
  have ew : wrap64 ((s.size : Int) - 1) = ((s.size - 1 : Nat) : Int) := by rw [wrap_in (by omega) (by omega)]; omega
  have hbl := bt_nat s (s.size - 1) (by omega)
  simp only [if_neg h3', ew, if_pos (show (((0 : Nat) : Int) ≤ ((s.size - 1 : Nat) : Int)) by omega), if_pos (show (((s.size - 1 : Nat) : Int) < (s.size : Int)) by omega), hbl]
  have hne : bs s ≠ [] := by intro e; rw [e] at hl; simp at hl; omega
  have hlast : (bs s).getLast? = some ((bs s)[s.size - 1]'(by omega)) := by
    rw [List.getLast?_eq_some_getLast hne, List.getLast_eq_getElem]
    simp only [hl]
  by_cases h4 : (bs s)[s.size - 1]'(by omega) = 45
  · have : ((((bs s)[s.size - 1]'(by omega)).toNat : Int) == 45) = true := by rw [h4]; rfl
    rw [this]
    exact ⟨false, hj0, by simp [hlast, h4]⟩
  · have : ((((bs s)[s.size - 1]'(by omega)).toNat : Int) == 45) = false := by
      rw [beq_eq_false_iff_ne]; exact fun e => h4 ((eq_toNat _ 45).1 e)
    rw [this]
    obtain ⟨b, ⟨K, hK⟩, hb⟩ := labelLoop s (by omega) s.size 0 (by omega) (by omega)
    refine ⟨b, ev_succ K fun k hk => ?_, ?_⟩
    · simp only [spec_jLabel.j0]; rw [if_neg (by simp)]; exact hK k hk
    · rw [hb]
      constructor
      · intro h
        refine ⟨by omega, by omega, by rw [hhead]; simpa using h3, by rw [hlast]; simpa using h4, ?_⟩
        intro x hx
        obtain ⟨i, hi, rfl⟩ := List.getElem_of_mem hx
        exact h i hi (by omega)
      · intro h j hj _
        exact h.2.2.2.2 _ (List.getElem_mem hj)

theorem hostLoop (s : ByteArray) (hs : s.size ≤ 2147483647) (d : Nat) : ∀ a i : Nat, a ≤ i → i ≤ s.size → s.size - i = d → Free 46 (bs s) a i →
    ∃ b, Ev (fun k => spec_JHostname.l0 k s a i) b ∧ (b = true ↔ s.size ≤ 253 ∧ ∀ g ∈ splitL 46 ((bs s).drop a), labelOk g) := by
  have hl := bs_len s
  induction d with
  | zero =>
    intro a i ha hi hd hf
    have e : i = s.size := by omega
    subst e
    obtain ⟨b, ⟨K, hK⟩, hb⟩ := labelS (s.extract a s.size) (by rw [ByteArray.size_extract]; omega)
    rw [bs_drop] at hb
    have ew' : wrap64 ((s.size : Int) + 1) = ((s.size + 1 : Nat) : Int) := by rw [wrap_in (by omega) (by omega)]; omega
    rw [← hl] at hf
    rw [seg_end hf]
    by_cases hbt : b = true
    · refine ⟨decide ((s.size : Int) ≤ 253), ev_succ (K + 2) fun k hk => ?_, ?_⟩
      · obtain ⟨k, rfl⟩ : ∃ m, k = m + 1 + 1 := ⟨k - 2, by omega⟩
        simp only [spec_JHostname.l0, spec_JHostname.j1, Int.toNat_natCast, ew', hK (k + 1) (by omega), Option.bind_some]
        rw [if_pos (by omega), if_pos trivial, if_pos trivial, if_pos (by omega), if_pos (by omega), if_pos (by omega), if_pos hbt, if_neg (by omega)]
      · simp only [decide_eq_true_eq, List.mem_singleton, forall_eq]
        rw [← hb]; simp [hbt]; omega
    · refine ⟨false, ev_succ (K + 1) fun k hk => ?_, ?_⟩
      · obtain ⟨k, rfl⟩ : ∃ m, k = m + 1 := ⟨k - 1, by omega⟩
        simp only [spec_JHostname.l0, spec_JHostname.j1, Int.toNat_natCast, ew', hK k (by omega), Option.bind_some]
        rw [if_pos (by omega), if_pos trivial, if_pos trivial, if_pos (by omega), if_pos (by omega), if_pos (by omega), if_neg hbt]
      · simp only [List.mem_singleton, forall_eq, Bool.false_eq_true, false_iff]
        rw [← hb]; exact fun h => hbt h.2
  | succ d ih =>
    intro a i ha hi hd hf
    have hlt : i < (bs s).length := by omega
    have ew' : wrap64 ((i : Int) + 1) = ((i + 1 : Nat) : Int) := by rw [wrap_in (by omega) (by omega)]; omega
    have hbt := bt_nat s i hlt
    have hne : ¬ ((i : Int) = (s.size : Int)) := by omega
    by_cases h46 : (bs s)[i] = 46
    · have hq : ((((bs s)[i]).toNat : Int) == 46) = true := by rw [h46]; rfl
      rw [seg_cut hf ha hlt h46]
      obtain ⟨b, ⟨K, hK⟩, hb⟩ := labelS (s.extract a i) (by rw [ByteArray.size_extract]; omega)
      rw [bs_extract] at hb
      obtain ⟨b2, ⟨K2, hK2⟩, hb2⟩ := ih (i + 1) (i + 1) (by omega) (by omega) (by omega) (Free.self _ _ _)
      by_cases hbt' : b = true
      · refine ⟨b2, ev_succ (K + K2 + 2) fun k hk => ?_, ?_⟩
        · obtain ⟨k, rfl⟩ : ∃ m, k = m + 1 := ⟨k - 1, by omega⟩
          simp only [spec_JHostname.l0, spec_JHostname.j1, Int.toNat_natCast, ew', hbt, hq, hK k (by omega), Option.bind_some]
          rw [if_pos (by omega), if_neg hne, if_pos (by omega), if_pos (by omega), if_pos trivial, if_pos (by omega), if_pos (by omega), if_pos (by omega), if_pos hbt']
          exact hK2 k (by omega)
        · rw [hb2]
          simp only [List.mem_cons, forall_eq_or_imp]
          rw [← hb]; simp [hbt']
      · refine ⟨false, ev_succ (K + 2) fun k hk => ?_, ?_⟩
        · obtain ⟨k, rfl⟩ : ∃ m, k = m + 1 := ⟨k - 1, by omega⟩
          simp only [spec_JHostname.l0, spec_JHostname.j1, Int.toNat_natCast, ew', hbt, hq, hK k (by omega), Option.bind_some]
          rw [if_pos (by omega), if_neg hne, if_pos (by omega), if_pos (by omega), if_pos trivial, if_pos (by omega), if_pos (by omega), if_pos (by omega), if_neg hbt']
        · simp only [List.mem_cons, forall_eq_or_imp, Bool.false_eq_true, false_iff]
          rw [← hb]; exact fun h => hbt' h.2.1
    · have hq : ((((bs s)[i]).toNat : Int) == 46) = false := by rw [beq_eq_false_iff_ne]; exact fun e => h46 ((eq_toNat _ 46).1 e)
      obtain ⟨b2, ⟨K2, hK2⟩, hb2⟩ := ih a (i + 1) (by omega) (by omega) (by omega) (hf.step hlt h46)
      refine ⟨b2, ev_succ (K2 + 2) fun k hk => ?_, hb2⟩
      obtain ⟨k, rfl⟩ : ∃ m, k = m + 1 := ⟨k - 1, by omega⟩
      simp only [spec_JHostname.l0, spec_JHostname.j1, ew', hbt, hq]
      rw [if_pos (by omega), if_neg hne, if_pos (by omega), if_pos (by omega), if_neg (by simp)]
      exact hK2 k (by omega)

theorem hostS (s : ByteArray) (hs : s.size ≤ 2147483647) : ∃ b, Ev (fun k => spec_JHostname.f k s) b ∧ (b = true ↔ (bs s).length ≤ 253 ∧ ∀ g ∈ splitL 46 (bs s), labelOk g) := by
  obtain ⟨b, hb, hb2⟩ := hostLoop s hs s.size 0 0 (Nat.le_refl _) (Nat.zero_le _) rfl (Free.self _ _ _)
  rw [bs_len]
  exact ⟨b, hb, by rw [hb2, List.drop_zero]⟩

end Go.Proofs.YtfnnahopbghndaaDoor.SHnJEmail
