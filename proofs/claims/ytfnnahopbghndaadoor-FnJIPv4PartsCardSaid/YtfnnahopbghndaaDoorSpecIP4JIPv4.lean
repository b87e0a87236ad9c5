/- spec.jOctet, spec.JIPv4: what they answer. -/
import Derived.Test.YtfnnahopbghndaaDoorSpecNumJIPv4
namespace Go.Proofs.YtfnnahopbghndaaDoor.SIP4JIPv4
open Go.RowKit Go.Proofs.YtfnnahopbghndaaDoor.PJIPv4 Go.Proofs.YtfnnahopbghndaaDoorW.PrintWords Go.Proofs.YtfnnahopbghndaaDoorW.PrintLast Go.Proofs.YtfnnahopbghndaaDoor.K Go.Proofs.YtfnnahopbghndaaDoor.Fmt Go.Proofs.YtfnnahopbghndaaDoor.SNumJIPv4
set_option linter.unusedVariables false
set_option linter.unusedSimpArgs false

theorem octetS (s : ByteArray) (hs : s.size ≤ 2147483647) : ∃ b, Ev (fun k => spec_jOctet.f k s) b ∧ (b = true ↔ octetOk (bs s)) := by
  have hl := bs_len s
  unfold octetOk
  rw [hl]
  by_cases h3 : (s.size : Int) ≤ 3
  · obtain ⟨b, ⟨K, hK⟩, hb⟩ := digitsS s hs
    by_cases hbt : b = true
    · obtain ⟨hne, hd⟩ := hb.1 hbt
      obtain ⟨K2, hK2⟩ := numberS s (by omega) hd
      by_cases hv : ((decF 0 (bs s) : Nat) : Int) ≤ 255
      · by_cases h1 : (s.size : Int) = 1
        · refine ⟨true, ⟨K + K2, fun k hk => ?_⟩, ?_⟩
          · show spec_jOctet.f k s = some true
            unfold spec_jOctet.f
            rw [if_pos h3, show spec_jDigits.f k s = some b from hK k (by omega), show spec_jNumber.f k s = _ from hK2 k (by omega)]
            simp only [Option.bind_some]
            rw [if_pos hbt, if_pos hv, if_pos h1]
          · simp only [true_iff]
            exact ⟨by omega, hne, hd, by omega, .inl (by omega)⟩
        · have h0 : 0 < (bs s).length := by
            rcases Nat.eq_zero_or_pos (bs s).length with h | h
            · exact absurd (List.length_eq_zero_iff.1 h) hne
            · exact h
          have hb0 := bt_nat s 0 h0
          refine ⟨(bt s 0) != 48, ⟨K + K2, fun k hk => ?_⟩, ?_⟩
          · show spec_jOctet.f k s = some _
            unfold spec_jOctet.f
            rw [if_pos h3, show spec_jDigits.f k s = some b from hK k (by omega), show spec_jNumber.f k s = _ from hK2 k (by omega)]
            simp only [Option.bind_some]
            rw [if_pos hbt, if_pos hv, if_neg h1, if_pos (by omega)]
          · have hh : (bs s).head? = some ((bs s)[0]'h0) := by rw [List.head?_eq_getElem?, List.getElem?_eq_getElem h0]
            rw [hh, bne_iff_ne]
            rw [show (0 : Int) = ((0 : Nat) : Int) from rfl, hb0]
            constructor
            · intro h
              refine ⟨by omega, hne, hd, by omega, .inr ?_⟩
              intro e
              apply h
              rw [Option.some.inj e]; rfl
            · rintro ⟨_, _, _, _, h | h⟩
              · omega
              · intro e
                exact h (congrArg some ((eq_toNat _ 48).1 e))
      · refine ⟨false, ⟨K + K2, fun k hk => ?_⟩, ?_⟩
        · show spec_jOctet.f k s = some false
          unfold spec_jOctet.f
          rw [if_pos h3, show spec_jDigits.f k s = some b from hK k (by omega), show spec_jNumber.f k s = _ from hK2 k (by omega)]
          simp only [Option.bind_some]
          rw [if_pos hbt, if_neg hv]
        · simp only [Bool.false_eq_true, false_iff]
          intro h; omega
    · refine ⟨false, ⟨K, fun k hk => ?_⟩, ?_⟩
      · show spec_jOctet.f k s = some false
        unfold spec_jOctet.f
        rw [if_pos h3, show spec_jDigits.f k s = some b from hK k (by omega)]
        simp only [Option.bind_some]
        rw [if_neg hbt]
      · simp only [Bool.false_eq_true, false_iff]
        exact fun h => hbt (hb.2 ⟨h.2.1, h.2.2.1⟩)
  · refine ⟨false, ⟨0, fun k hk => ?_⟩, ?_⟩
    · show spec_jOctet.f k s = some false
      unfold spec_jOctet.f
      rw [if_neg h3]
    · simp only [Bool.false_eq_true, false_iff]
      intro h; omega

theorem ipLoop (s : ByteArray) (hs : s.size ≤ 2147483647) (d : Nat) : ∀ a m i : Nat, a ≤ i → i ≤ s.size → m ≤ i → s.size - i = d → Free 46 (bs s) a i →
    ∃ b, Ev (fun k => spec_JIPv4.l0 k s a m i) b ∧ (b = true ↔ m + (splitL 46 ((bs s).drop a)).length = 4 ∧ ∀ g ∈ splitL 46 ((bs s).drop a), octetOk g) := by
  have hl := bs_len s
  induction d with
  | zero =>
    intro a m i ha hi hm hd hf
    have e : i = s.size := by omega
    subst e
    obtain ⟨b, ⟨K, hK⟩, hb⟩ := octetS (s.extract a s.size) (by rw [ByteArray.size_extract]; omega)
    rw [bs_drop] at hb
    have ew' : wrap64 ((s.size : Int) + 1) = ((s.size + 1 : Nat) : Int) := by rw [wrap_in (by omega) (by omega)]; omega
    have em : wrap64 ((m : Int) + 1) = ((m + 1 : Nat) : Int) := by rw [wrap_in (by omega) (by omega)]; omega
    rw [← hl] at hf
    rw [seg_end hf]
    by_cases hbt : b = true
    · refine ⟨((m + 1 : Nat) : Int) == 4, ev_succ (K + 2) fun k hk => ?_, ?_⟩
      · obtain ⟨k, rfl⟩ : ∃ m, k = m + 1 + 1 := ⟨k - 2, by omega⟩
        simp only [spec_JIPv4.l0, spec_JIPv4.j1, Int.toNat_natCast, ew', em, hK (k + 1) (by omega), Option.bind_some]
        rw [if_pos (by omega), if_pos trivial, if_pos trivial, if_pos (by omega), if_pos (by omega), if_pos (by omega), if_pos hbt, if_neg (by omega)]
      · simp only [List.mem_singleton, forall_eq, List.length_singleton, beq_iff_eq]
        rw [← hb]; simp [hbt]; omega
    · refine ⟨false, ev_succ (K + 1) fun k hk => ?_, ?_⟩
      · obtain ⟨k, rfl⟩ : ∃ m, k = m + 1 := ⟨k - 1, by omega⟩
        simp only [spec_JIPv4.l0, spec_JIPv4.j1, Int.toNat_natCast, ew', em, hK k (by omega), Option.bind_some]
        rw [if_pos (by omega), if_pos trivial, if_pos trivial, if_pos (by omega), if_pos (by omega), if_pos (by omega), if_neg hbt]
      · simp only [List.mem_singleton, forall_eq, Bool.false_eq_true, false_iff]
        rw [← hb]; exact fun h => hbt h.2
  | succ d ih =>
    intro a m i ha hi hm hd hf
    have hlt : i < (bs s).length := by omega
    have ew' : wrap64 ((i : Int) + 1) = ((i + 1 : Nat) : Int) := by rw [wrap_in (by omega) (by omega)]; omega
    have em : wrap64 ((m : Int) + 1) = ((m + 1 : Nat) : Int) := by rw [wrap_in (by omega) (by omega)]; omega
    have hbt := bt_nat s i hlt
    have hne : ¬ ((i : Int) = (s.size : Int)) := by omega
    by_cases h46 : (bs s)[i] = 46
    · have hq : ((((bs s)[i]).toNat : Int) == 46) = true := by rw [h46]; rfl
      rw [seg_cut hf ha hlt h46]
      obtain ⟨b, ⟨K, hK⟩, hb⟩ := octetS (s.extract a i) (by rw [ByteArray.size_extract]; omega)
      rw [bs_extract] at hb
      obtain ⟨b2, ⟨K2, hK2⟩, hb2⟩ := ih (i + 1) (m + 1) (i + 1) (by omega) (by omega) (by omega) (by omega) (Free.self _ _ _)
      by_cases hbt' : b = true
      · refine ⟨b2, ev_succ (K + K2 + 2) fun k hk => ?_, ?_⟩
        · obtain ⟨k, rfl⟩ : ∃ m, k = m + 1 := ⟨k - 1, by omega⟩
          simp only [spec_JIPv4.l0, spec_JIPv4.j1, Int.toNat_natCast, ew', em, hbt, hq, hK k (by omega), Option.bind_some]
          rw [if_pos (by omega), if_neg hne, if_pos (by omega), if_pos (by omega), if_pos trivial, if_pos (by omega), if_pos (by omega), if_pos (by omega), if_pos hbt']
          exact hK2 k (by omega)
        · rw [hb2]
          simp only [List.mem_cons, forall_eq_or_imp, List.length_cons]
          rw [← hb]; simp [hbt']; omega
      · refine ⟨false, ev_succ (K + 2) fun k hk => ?_, ?_⟩
        · obtain ⟨k, rfl⟩ : ∃ m, k = m + 1 := ⟨k - 1, by omega⟩
          simp only [spec_JIPv4.l0, spec_JIPv4.j1, Int.toNat_natCast, ew', em, hbt, hq, hK k (by omega), Option.bind_some]
          rw [if_pos (by omega), if_neg hne, if_pos (by omega), if_pos (by omega), if_pos trivial, if_pos (by omega), if_pos (by omega), if_pos (by omega), if_neg hbt']
        · simp only [List.mem_cons, forall_eq_or_imp, Bool.false_eq_true, false_iff]
          rw [← hb]; exact fun h => hbt' h.2.1
    · have hq : ((((bs s)[i]).toNat : Int) == 46) = false := by rw [beq_eq_false_iff_ne]; exact fun e => h46 ((eq_toNat _ 46).1 e)
      obtain ⟨b2, ⟨K2, hK2⟩, hb2⟩ := ih a m (i + 1) (by omega) (by omega) (by omega) (by omega) (hf.step hlt h46)
      refine ⟨b2, ev_succ (K2 + 2) fun k hk => ?_, hb2⟩
      obtain ⟨k, rfl⟩ : ∃ m, k = m + 1 := ⟨k - 1, by omega⟩
      simp only [spec_JIPv4.l0, spec_JIPv4.j1, ew', em, hbt, hq]
      rw [if_pos (by omega), if_neg hne, if_pos (by omega), if_pos (by omega), if_neg (by simp)]
      exact hK2 k (by omega)
theorem ipS (s : ByteArray) (hs : s.size ≤ 2147483647) : ∃ b, Ev (fun k => spec_JIPv4.f k s) b ∧ (b = true ↔ (splitL 46 (bs s)).length = 4 ∧ ∀ g ∈ splitL 46 (bs s), octetOk g) := by
  obtain ⟨b, hb, hb2⟩ := ipLoop s hs s.size 0 0 0 (Nat.le_refl _) (Nat.zero_le _) (Nat.zero_le _) rfl (Free.self _ _ _)
  rw [List.drop_zero, Nat.zero_add] at hb2
  exact ⟨b, hb, hb2⟩
end Go.Proofs.YtfnnahopbghndaaDoor.SIP4JIPv4
