/- FnJSemver: for every text of at most 2^31-1 bytes impl.JSemver and spec.JSemver answer the same. -/
import Derived.Test.YtdjmjgdafghdgaaFmtSem
import Derived.Test.YtdjmjgdafghdgaaPFnJSemverx
namespace Go.Proofs.Ytdjmjgdafghdgaa.LSem
open Go.RowKit Go.Proofs.Ytdjmjgdafghdgaa.PFnJSemver Go.Proofs.YtdjmjgdafghdgaaW.PrintWords Go.Proofs.YtdjmjgdafghdgaaW.PrintLast Go.Proofs.Ytdjmjgdafghdgaa.K Go.Proofs.Ytdjmjgdafghdgaa.Fmt
set_option linter.unusedVariables false
set_option linter.unusedSimpArgs false

theorem digitS (b : UInt8) : spec_jDigit.f (b.toNat : Int) = some (digB b) := by
  have hk := digK.iff b
  unfold digR at hk
  unfold spec_jDigit.f
  by_cases h : (b.toNat : Int) ≥ 48
  · rw [if_pos h]; congr 1; rw [Bool.eq_iff_iff, decide_eq_true_eq, hk]; omega
  · rw [if_neg h]; congr 1; symm; rw [Bool.eq_false_iff, Ne, hk]; omega

theorem letterS (b : UInt8) : spec_jLetter.f (b.toNat : Int) = some (decide ((97 ≤ b.toNat ∧ b.toNat ≤ 122) ∨ (65 ≤ b.toNat ∧ b.toNat ≤ 90))) := by
  unfold spec_jLetter.f
  repeat' split
  all_goals (congr 1; symm; first | (rw [decide_eq_true_eq]; omega) | (rw [decide_eq_false_iff_not]; omega) | (rw [decide_eq_decide]; omega))

theorem forall_from {l : List UInt8} {P : UInt8 → Prop} : (∀ j, (h : j < l.length) → 0 ≤ j → P l[j]) ↔ ∀ b ∈ l, P b := by
  constructor
  · intro h b hb
    obtain ⟨i, hi, rfl⟩ := List.getElem_of_mem hb
    exact h i hi (by omega)
  · intro h j hj _
    exact h _ (List.getElem_mem hj)

theorem digLoop (s : ByteArray) (hs : s.size ≤ 4294967296) (d : Nat) : ∀ i : Nat, i ≤ s.size → s.size - i = d →
    ∃ b, Ev (fun k => spec_jDigits.l0 k s i) b ∧ (b = true ↔ (∀ j, (h : j < (bs s).length) → i ≤ j → digB (bs s)[j] = true) ∧ 0 < s.size) := by
  have hl := bs_len s
  induction d with
  | zero =>
    intro i hi hd
    refine ⟨decide ((s.size : Int) > 0), ev_succ 0 fun k _ => ?_, ?_⟩
    · simp only [spec_jDigits.l0]; rw [if_neg (by omega)]
    · rw [decide_eq_true_eq]
      constructor
      · intro h; exact ⟨fun j hj hij => by omega, by omega⟩
      · intro h; omega
  | succ d ih =>
    intro i hi hd
    have hlt : i < (bs s).length := by omega
    have ew' : wrap64 ((i : Int) + 1) = ((i + 1 : Nat) : Int) := by rw [wrap_in (by omega) (by omega)]; omega
    obtain ⟨b, ⟨K, hK⟩, hb2⟩ := ih (i + 1) (by omega) (by omega)
    have hbt := bt_nat s i hlt
    by_cases hok : digB (bs s)[i] = true
    · refine ⟨b, ev_succ K fun k hk' => ?_, ?_⟩
      · simp only [spec_jDigits.l0, hbt, ew', digitS, Option.bind_some]
        rw [if_pos (by omega), if_pos (by omega), if_pos hok]
        exact hK k hk'
      · rw [hb2]
        constructor
        · rintro ⟨h, h0⟩
          refine ⟨fun j hj hij => ?_, h0⟩
          by_cases e : j = i
          · subst e; exact hok
          · exact h j hj (by omega)
        · rintro ⟨h, h0⟩; exact ⟨fun j hj hij => h j hj (by omega), h0⟩
    · refine ⟨false, ev_succ 0 fun k hk' => ?_, ?_⟩
      · simp only [spec_jDigits.l0, hbt, ew', digitS, Option.bind_some]
        rw [if_pos (by omega), if_pos (by omega), if_neg hok]
      · simp only [Bool.false_eq_true, false_iff]
        intro h; exact hok (h.1 i hlt (Nat.le_refl _))

theorem digitsS (s : ByteArray) (hs : s.size ≤ 4294967296) : ∃ b, Ev (fun k => spec_jDigits.f k s) b ∧ (b = true ↔ (∀ b ∈ bs s, digB b = true) ∧ 0 < s.size) := by
  obtain ⟨b, hb, hb2⟩ := digLoop s hs s.size 0 (Nat.zero_le _) rfl
  exact ⟨b, hb, by rw [hb2, forall_from (P := fun x => digB x = true)]⟩

theorem plainS (s : ByteArray) (hs : s.size ≤ 4294967296) : ∃ b, Ev (fun k => spec_jPlain.f k s) b ∧ (b = true ↔ coreId (bs s)) := by
  have hl := bs_len s
  obtain ⟨b, ⟨K, hK⟩, hb⟩ := digitsS s hs
  unfold coreId
  have hne : bs s ≠ [] ↔ 0 < s.size := by rw [← hl]; exact List.length_pos_iff.symm
  rw [hne]
  cases b with
  | false =>
    refine ⟨false, ev_from K fun k hk => ?_, ?_⟩
    · have := hK k hk
      simp only at this
      unfold spec_jPlain.f; rw [this]; rfl
    · simp only [Bool.false_eq_true, false_iff] at hb ⊢
      intro h; exact hb ⟨h.2.2, h.1⟩
  | true =>
    have hb := hb.1 rfl
    by_cases h1 : (s.size : Int) = 1
    · refine ⟨true, ev_from K fun k hk => ?_, ?_⟩
      · have := hK k hk
        simp only at this
        unfold spec_jPlain.f; rw [this]
        simp only [Option.bind_some, if_true]
        rw [if_pos h1]
      · simp only [true_iff]
        exact ⟨hb.2, by omega, hb.1⟩
    · have hpos : 0 < (bs s).length := by omega
      have hb0 := bt_nat s 0 hpos
      have hhead : (bs s).head? = some ((bs s)[0]'hpos) := by rw [List.head?_eq_getElem?, List.getElem?_eq_getElem hpos]
      refine ⟨(bt s 0) != 48, ev_from K fun k hk => ?_, ?_⟩
      · have := hK k hk
        simp only at this
        unfold spec_jPlain.f; rw [this]
        simp only [Option.bind_some, if_true]
        rw [if_neg h1, if_pos (by omega)]
      · rw [bne_iff_ne, show (0 : Int) = ((0 : Nat) : Int) from rfl, hb0, hhead]
        constructor
        · intro h
          exact ⟨hb.2, fun k => h (by rw [Option.some.inj k.2]; rfl), hb.1⟩
        · intro h e
          exact h.2.1 ⟨by omega, by rw [(eq_toNat _ 48).1 e]⟩

theorem idLoop (s : ByteArray) (hs : s.size ≤ 4294967296) (d : Nat) : ∀ i : Nat, i ≤ s.size → s.size - i = d →
    ∃ b, Ev (fun k => spec_jIdentifier.l0 k s i) b ∧ (b = true ↔ (∀ j, (h : j < (bs s).length) → i ≤ j → hostB (bs s)[j] = true) ∧ 0 < s.size) := by
  have hl := bs_len s
  induction d with
  | zero =>
    intro i hi hd
    refine ⟨decide ((s.size : Int) > 0), ev_succ 0 fun k _ => ?_, ?_⟩
    · simp only [spec_jIdentifier.l0]; rw [if_neg (by omega)]
    · rw [decide_eq_true_eq]
      constructor
      · intro h; exact ⟨fun j hj hij => by omega, by omega⟩
      · intro h; omega
  | succ d ih =>
    intro i hi hd
    have hlt : i < (bs s).length := by omega
    have ew' : wrap64 ((i : Int) + 1) = ((i + 1 : Nat) : Int) := by rw [wrap_in (by omega) (by omega)]; omega
    obtain ⟨b, ⟨K, hK⟩, hb2⟩ := ih (i + 1) (by omega) (by omega)
    have hbt := bt_nat s i hlt
    have hk := hostK.iff (bs s)[i]
    have hkd := digK.iff (bs s)[i]
    unfold hostR at hk
    unfold digR at hkd
    by_cases hok : hostB (bs s)[i] = true
    · refine ⟨b, ev_succ K fun k hk' => ?_, ?_⟩
      · have hr := hk.1 hok
        simp only [spec_jIdentifier.l0, hbt, ew', letterS, digitS, Option.bind_some, decide_eq_true_eq, hkd]
        rw [if_pos (by omega), if_pos (by omega)]
        repeat' split
        all_goals first | exact hK k hk' | (exfalso; omega)
      · rw [hb2]
        constructor
        · rintro ⟨h, h0⟩
          refine ⟨fun j hj hij => ?_, h0⟩
          by_cases e : j = i
          · subst e; exact hok
          · exact h j hj (by omega)
        · rintro ⟨h, h0⟩; exact ⟨fun j hj hij => h j hj (by omega), h0⟩
    · refine ⟨false, ev_succ 0 fun k hk' => ?_, ?_⟩
      · have hr : ¬ _ := fun h => hok (hk.2 h)
        simp only [spec_jIdentifier.l0, hbt, ew', letterS, digitS, Option.bind_some, decide_eq_true_eq, hkd]
        rw [if_pos (by omega), if_pos (by omega), if_neg (by omega), if_neg (by omega), if_neg (by omega)]
      · simp only [Bool.false_eq_true, false_iff]
        intro h; exact hok (h.1 i hlt (Nat.le_refl _))

theorem identS (s : ByteArray) (hs : s.size ≤ 4294967296) : ∃ b, Ev (fun k => spec_jIdentifier.f k s) b ∧ (b = true ↔ buildId (bs s)) := by
  have hl := bs_len s
  obtain ⟨b, hb, hb2⟩ := idLoop s hs s.size 0 (Nat.zero_le _) rfl
  refine ⟨b, hb, ?_⟩
  have hne : bs s ≠ [] ↔ 0 < s.size := by rw [← hl]; exact List.length_pos_iff.symm
  unfold buildId
  rw [hb2, forall_from (P := fun x => hostB x = true), hne]
  exact And.comm

/-- An identifier, strict or not. -/
def idOf (z : Bool) (g : List UInt8) : Prop := if z = true then preId g else buildId g

/-- One part between dots: it goes on, or it is no identifier. -/
theorem partS (s : ByteArray) (hs : s.size ≤ 4294967296) (z : Bool) (X : Nat → Option Bool) (Y : Nat → Option Bool) (r : Bool) (hY : Ev Y r)
    (hX : ∀ k, X (k + 1) = (spec_jIdentifier.f k s).bind fun t113 => (if t113 = true then (if z = true then ((spec_jDigits.f k s).bind fun t114 => (if t114 = true then ((spec_jPlain.f k s).bind fun t115 => (if t115 = true then Y k else (some false))) else Y k)) else Y k) else (some false))) :
    ∃ b, Ev X b ∧ (b = true ↔ idOf z (bs s) ∧ r = true) := by
  obtain ⟨b1, ⟨K1, h1⟩, e1⟩ := identS s hs
  obtain ⟨b2, ⟨K2, h2⟩, e2⟩ := digitsS s hs
  obtain ⟨b3, ⟨K3, h3⟩, e3⟩ := plainS s hs
  obtain ⟨K4, h4⟩ := hY
  have hall : (bs s).all digB = true ↔ ∀ b ∈ bs s, digB b = true := List.all_eq_true
  have step : ∀ (v : Bool), (∀ k, K1 + K2 + K3 + K4 ≤ k → X (k + 1) = some v) → Ev X v := fun v h => ev_succ (K1 + K2 + K3 + K4) h
  simp only at h1 h2 h3 h4
  cases b1 with
  | false =>
    refine ⟨false, step _ fun k hk => ?_, ?_⟩
    · rw [hX, h1 k (by omega)]; rfl
    · simp only [Bool.false_eq_true, false_iff] at e1 ⊢
      rintro ⟨h, _⟩
      apply e1
      unfold idOf at h
      split at h
      · exact h.1
      · exact h
  | true =>
    have e1 := e1.1 rfl
    cases z with
    | false =>
      refine ⟨r, step _ fun k hk => ?_, ?_⟩
      · rw [hX, h1 k (by omega), h4 k (by omega)]; rfl
      · have : idOf false (bs s) := e1
        simp [this]
    | true =>
      cases b2 with
      | false =>
        refine ⟨r, step _ fun k hk => ?_, ?_⟩
        · rw [hX, h1 k (by omega), h2 k (by omega), h4 k (by omega)]; rfl
        · have : idOf true (bs s) := ⟨e1, fun h => by
            have := e2.2 ⟨hall.1 h.1, by rw [← bs_len]; omega⟩
            cases this⟩
          simp [this]
      | true =>
        have e2 := e2.1 rfl
        cases b3 with
        | true =>
          have e3 := e3.1 rfl
          refine ⟨r, step _ fun k hk => ?_, ?_⟩
          · rw [hX, h1 k (by omega), h2 k (by omega), h3 k (by omega), h4 k (by omega)]; rfl
          · have : idOf true (bs s) := ⟨e1, fun h => e3.2.1 h.2⟩
            simp [this]
        | false =>
          refine ⟨false, step _ fun k hk => ?_, ?_⟩
          · rw [hX, h1 k (by omega), h2 k (by omega), h3 k (by omega)]; rfl
          · simp only [Bool.false_eq_true, false_iff] at e3 ⊢
            rintro ⟨h, _⟩
            exact e3 ⟨e1.1, fun h48 => h.2 ⟨hall.2 e2.1, h48⟩, e2.1⟩

theorem idsLoop (s : ByteArray) (hs : s.size ≤ 2147483647) (z : Bool) (d : Nat) : ∀ a i : Nat, a ≤ i → i ≤ s.size → s.size - i = d → Free 46 (bs s) a i →
    ∃ b, Ev (fun k => spec_jIdentifiers.l0 k s z a i) b ∧ (b = true ↔ ∀ g ∈ splitL 46 ((bs s).drop a), idOf z g) := by
  have hl := bs_len s
  induction d with
  | zero =>
    intro a i ha hi hd hf
    have e : i = s.size := by omega
    subst e
    have ew' : wrap64 ((s.size : Int) + 1) = ((s.size + 1 : Nat) : Int) := by rw [wrap_in (by omega) (by omega)]; omega
    have hY : Ev (fun k => spec_jIdentifiers.l0 k s z ((s.size + 1 : Nat) : Int) ((s.size + 1 : Nat) : Int)) true := ev_succ 0 fun k _ => by
      simp only [spec_jIdentifiers.l0]; rw [if_neg (by omega)]
    have hP := partS (s.extract a s.size) (by rw [ByteArray.size_extract]; omega) z (fun k => spec_jIdentifiers.j1 k s z a s.size true) _ true hY (fun k => by
      simp only [spec_jIdentifiers.j1, Int.toNat_natCast, ew', if_true]
      rw [if_pos (by omega), if_pos (by omega), if_pos (by omega)])
    obtain ⟨b, ⟨K, hK⟩, hb⟩ := hP
    rw [bs_drop] at hb
    rw [← hl] at hf
    rw [seg_end hf]
    refine ⟨b, ev_succ K fun k hk => ?_, by rw [hb]; simp⟩
    simp only [spec_jIdentifiers.l0]
    rw [if_pos (by omega), if_pos trivial]
    exact hK k hk
  | succ d ih =>
    intro a i ha hi hd hf
    have hlt : i < (bs s).length := by omega
    have ew' : wrap64 ((i : Int) + 1) = ((i + 1 : Nat) : Int) := by rw [wrap_in (by omega) (by omega)]; omega
    have hbt := bt_nat s i hlt
    have hne : ¬ ((i : Int) = (s.size : Int)) := by omega
    by_cases h46 : (bs s)[i] = 46
    · have hq : ((((bs s)[i]).toNat : Int) == 46) = true := by rw [h46]; rfl
      rw [seg_cut hf ha hlt h46]
      obtain ⟨b2, hY, hb2⟩ := ih (i + 1) (i + 1) (by omega) (by omega) (by omega) (Free.self _ _ _)
      have hP := partS (s.extract a i) (by rw [ByteArray.size_extract]; omega) z (fun k => spec_jIdentifiers.j1 k s z a i true) _ b2 hY (fun k => by
        simp only [spec_jIdentifiers.j1, Int.toNat_natCast, ew', if_true]
        rw [if_pos (by omega), if_pos (by omega), if_pos (by omega)])
      obtain ⟨b, ⟨K, hK⟩, hb⟩ := hP
      rw [bs_extract] at hb
      refine ⟨b, ev_succ K fun k hk => ?_, ?_⟩
      · simp only [spec_jIdentifiers.l0, hbt, hq]
        rw [if_pos (by omega), if_neg hne, if_pos (by omega), if_pos (by omega)]
        exact hK k hk
      · rw [hb, hb2]
        simp only [List.mem_cons, forall_eq_or_imp]
    · have hq : ((((bs s)[i]).toNat : Int) == 46) = false := by rw [beq_eq_false_iff_ne]; exact fun e => h46 ((eq_toNat _ 46).1 e)
      obtain ⟨b2, ⟨K2, hK2⟩, hb2⟩ := ih a (i + 1) (by omega) (by omega) (by omega) (hf.step hlt h46)
      refine ⟨b2, ev_succ (K2 + 2) fun k hk => ?_, hb2⟩
      obtain ⟨k, rfl⟩ : ∃ m, k = m + 1 := ⟨k - 1, by omega⟩
      simp only [spec_jIdentifiers.l0, spec_jIdentifiers.j1, ew', hbt, hq, Bool.false_eq_true, if_false]
      rw [if_pos (by omega), if_neg hne, if_pos (by omega), if_pos (by omega)]
      exact hK2 k (by omega)

theorem idsS (s : ByteArray) (hs : s.size ≤ 2147483647) (z : Bool) : ∃ b, Ev (fun k => spec_jIdentifiers.f k s z) b ∧ (b = true ↔ ∀ g ∈ splitL 46 (bs s), idOf z g) := by
  obtain ⟨b, hb, hb2⟩ := idsLoop s hs z s.size 0 0 (Nat.le_refl _) (Nat.zero_le _) rfl (Free.self _ _ _)
  exact ⟨b, hb, by rw [hb2, List.drop_zero]⟩

set_option maxHeartbeats 1000000 in
/-- The three numbers. -/
theorem coreLoop (s : ByteArray) (hs : s.size ≤ 2147483647) (c : Nat) (hc : c ≤ s.size) (d : Nat) : ∀ a i m : Nat, a ≤ i → i ≤ c → c - i = d → m ≤ i → Free 46 (bs s) a i →
    ∃ b, Ev (fun k => spec_JSemver.l2 k s c a m i) b ∧ (b = true ↔ m + (splitL 46 (((bs s).take c).drop a)).length = 3 ∧ ∀ g ∈ splitL 46 (((bs s).take c).drop a), coreId g) := by
  have hl := bs_len s
  have htl : ((bs s).take c).length = c := by rw [List.length_take]; omega
  have hft : ∀ a i, i ≤ c → Free 46 (bs s) a i → Free 46 ((bs s).take c) a i := by
    intro a i hi hf j hj h1 h2
    rw [List.getElem_take]
    exact hf j (by omega) h1 h2
  induction d with
  | zero =>
    intro a i m ha hi hd hm hf
    have e : i = c := by omega
    subst e
    have ew' : wrap64 ((i : Int) + 1) = ((i + 1 : Nat) : Int) := by rw [wrap_in (by omega) (by omega)]; omega
    have em : wrap64 ((m : Int) + 1) = ((m + 1 : Nat) : Int) := by rw [wrap_in (by omega) (by omega)]; omega
    have EM := Lib.hid em
    clear em
    obtain ⟨b, ⟨K, hK⟩, hb⟩ := plainS (s.extract a i) (by rw [ByteArray.size_extract]; omega)
    rw [bs_extract] at hb
    have hft' := hft a i (Nat.le_refl _) hf
    have hse : splitL 46 (((bs s).take i).drop a) = [((bs s).take i).drop a] := seg_end (by rw [htl]; exact hft')
    rw [hse]
    simp only [List.length_singleton, List.mem_singleton, forall_eq]
    rw [← hb]
    cases b with
    | true =>
      refine ⟨(((m + 1 : Nat) : Int) == 3), ev_succ (K + 2) fun k hk => ?_, ?_⟩
      · obtain ⟨k, rfl⟩ : ∃ m, k = m + 1 + 1 := ⟨k - 2, by omega⟩
        have := hK (k + 1) (by omega)
        simp only at this
        simp only [spec_JSemver.l2, spec_JSemver.j7, Int.toNat_natCast, ew', EM.out, this, Option.bind_some, if_true]
        rw [if_pos (by omega), if_pos (by omega), if_pos (by omega), if_pos (by omega), if_neg (by omega)]
      · rw [beq_iff_eq]; simp; omega
    | false =>
      refine ⟨false, ev_succ (K + 1) fun k hk => ?_, by simp⟩
      obtain ⟨k, rfl⟩ : ∃ m, k = m + 1 := ⟨k - 1, by omega⟩
      have := hK k (by omega)
      simp only at this
      simp only [spec_JSemver.l2, spec_JSemver.j7, Int.toNat_natCast, ew', EM.out, this, Option.bind_some, if_true]
      rw [if_pos (by omega), if_pos (by omega), if_pos (by omega), if_pos (by omega)]
      rfl
  | succ d ih =>
    intro a i m ha hi hd hm hf
    have hlt : i < (bs s).length := by omega
    have ew' : wrap64 ((i : Int) + 1) = ((i + 1 : Nat) : Int) := by rw [wrap_in (by omega) (by omega)]; omega
    have em : wrap64 ((m : Int) + 1) = ((m + 1 : Nat) : Int) := by rw [wrap_in (by omega) (by omega)]; omega
    have EM := Lib.hid em
    clear em
    have hbt := bt_nat s i hlt
    have hne : ¬ ((i : Int) = (c : Int)) := by omega
    by_cases h46 : (bs s)[i] = 46
    · have hq : ((((bs s)[i]).toNat : Int) == 46) = true := by rw [h46]; rfl
      have hse : splitL 46 (((bs s).take c).drop a) = (((bs s).take c).take i).drop a :: splitL 46 (((bs s).take c).drop (i + 1)) :=
        seg_cut (hft a i hi hf) ha (by omega) (by rw [List.getElem_take]; exact h46)
      rw [hse, List.take_take, Nat.min_eq_left hi]
      obtain ⟨b, ⟨K, hK⟩, hb⟩ := plainS (s.extract a i) (by rw [ByteArray.size_extract]; omega)
      rw [bs_extract] at hb
      obtain ⟨b2, ⟨K2, hK2⟩, hb2⟩ := ih (i + 1) (i + 1) (m + 1) (by omega) (by omega) (by omega) (by omega) (Free.self _ _ _)
      simp only [List.length_cons, List.mem_cons, forall_eq_or_imp]
      rw [← hb]
      cases b with
      | true =>
        refine ⟨b2, ev_succ (K + K2 + 2) fun k hk => ?_, ?_⟩
        · obtain ⟨k, rfl⟩ : ∃ m, k = m + 1 := ⟨k - 1, by omega⟩
          have := hK k (by omega)
          simp only at this
          simp only [spec_JSemver.l2, spec_JSemver.j7, Int.toNat_natCast, ew', EM.out, hbt, hq, this, Option.bind_some, if_true]
          rw [if_pos (by omega), if_neg hne, if_pos (by omega), if_pos (by omega), if_pos (by omega), if_pos (by omega), if_pos (by omega)]
          exact hK2 k (by omega)
        · rw [hb2]; simp; intro _; omega
      | false =>
        refine ⟨false, ev_succ (K + 2) fun k hk => ?_, by simp⟩
        obtain ⟨k, rfl⟩ : ∃ m, k = m + 1 := ⟨k - 1, by omega⟩
        have := hK k (by omega)
        simp only at this
        simp only [spec_JSemver.l2, spec_JSemver.j7, Int.toNat_natCast, ew', EM.out, hbt, hq, this, Option.bind_some, if_true]
        rw [if_pos (by omega), if_neg hne, if_pos (by omega), if_pos (by omega), if_pos (by omega), if_pos (by omega), if_pos (by omega)]
        rfl
    · have hq : ((((bs s)[i]).toNat : Int) == 46) = false := by rw [beq_eq_false_iff_ne]; exact fun e => h46 ((eq_toNat _ 46).1 e)
      obtain ⟨b2, ⟨K2, hK2⟩, hb2⟩ := ih a (i + 1) m (by omega) (by omega) (by omega) (by omega) (hf.step hlt h46)
      refine ⟨b2, ev_succ (K2 + 2) fun k hk => ?_, hb2⟩
      obtain ⟨k, rfl⟩ : ∃ m, k = m + 1 := ⟨k - 1, by omega⟩
      simp only [spec_JSemver.l2, spec_JSemver.j7, ew', hbt, hq, Bool.false_eq_true, if_false]
      rw [if_pos (by omega), if_neg hne, if_pos (by omega), if_pos (by omega)]
      exact hK2 k (by omega)

/-- Where a byte stands first below p, or p. -/
theorem before_at {c : UInt8} {l : List UInt8} {p : Nat} (h : Free c l 0 p) (hp : p ≤ l.length) (hc : ∀ h : p < l.length, l[p] = c) :
    before c l = l.take p ∧ after c l = if p < l.length then some (l.drop (p + 1)) else none := by
  unfold before after
  by_cases hlt : p < l.length
  · rw [idx1_at h hlt (hc hlt), if_neg (by omega), if_neg (by omega), if_pos hlt]
    simp
  · have e : p = l.length := by omega
    subst e
    rw [if_pos (idx1_no h), if_pos (idx1_no h), if_neg hlt, List.take_length]
    exact ⟨rfl, rfl⟩

/-- From the place of the hyphen on. -/
theorem fromDash (s : ByteArray) (hs : s.size ≤ 2147483647) (p c : Nat) (hp : p ≤ s.size) (hc : c ≤ p) (hf : Free 45 (bs s) 0 c) (hx : c < p → ∃ h : c < (bs s).length, (bs s)[c] = 45) :
    ∃ b, Ev (fun k => spec_JSemver.j4 k s p c) b ∧ (b = true ↔ preOk (after 45 ((bs s).take p)) ∧ coreOk (before 45 ((bs s).take p))) := by
  have hl := bs_len s
  have htl : ((bs s).take p).length = p := by rw [List.length_take]; omega
  have hft : Free 45 ((bs s).take p) 0 c := by
    intro j hj h1 h2
    rw [List.getElem_take]
    exact hf j (by omega) h1 h2
  obtain ⟨e1, e2⟩ := before_at hft (by omega) (fun h => by
    obtain ⟨h', e⟩ := hx (by omega)
    rw [List.getElem_take]; exact e)
  rw [htl] at e2
  rw [e1, e2, List.take_take, Nat.min_eq_left hc]
  obtain ⟨b, ⟨K, hK⟩, hb⟩ := coreLoop s hs c (by omega) c 0 0 0 (Nat.le_refl _) (Nat.zero_le _) rfl (Nat.le_refl _) (Free.self _ _ _)
  rw [List.drop_zero, Nat.zero_add] at hb
  have hcore : b = true ↔ coreOk ((bs s).take c) := hb
  simp only at hK
  by_cases hlt : c < p
  · have ew' : wrap64 ((c : Int) + 1) = ((c + 1 : Nat) : Int) := by rw [wrap_in (by omega) (by omega)]; omega
    obtain ⟨q, ⟨K2, hK2⟩, hq⟩ := idsS (s.extract (c + 1) p) (by rw [ByteArray.size_extract]; omega) true
    rw [bs_extract] at hq
    simp only at hK2
    rw [if_pos hlt]
    have hpre : preOk (some (((bs s).take p).drop (c + 1))) ↔ q = true := by
      rw [hq]; unfold preOk idOf
      simp
    rw [hpre, ← hcore]
    cases q with
    | true =>
      refine ⟨b, ev_succ (K + K2 + 2) fun k hk => ?_, by simp⟩
      obtain ⟨k, rfl⟩ : ∃ m, k = m + 1 := ⟨k - 1, by omega⟩
      simp only [spec_JSemver.j4, spec_JSemver.j5, Int.toNat_natCast, ew', hK2 (k + 1) (by omega), Option.bind_some, Bool.not_true, Bool.false_eq_true, if_false]
      rw [if_pos (by omega), if_pos (by omega), if_pos (by omega), if_pos (by omega)]
      exact hK k (by omega)
    | false =>
      refine ⟨false, ev_succ (K2 + 2) fun k hk => ?_, by simp⟩
      obtain ⟨k, rfl⟩ : ∃ m, k = m + 1 := ⟨k - 1, by omega⟩
      simp only [spec_JSemver.j4, spec_JSemver.j5, Int.toNat_natCast, ew', hK2 (k + 1) (by omega), Option.bind_some, Bool.not_false, if_true]
      rw [if_pos (by omega), if_pos (by omega), if_pos (by omega), if_pos (by omega)]
  · rw [if_neg hlt]
    refine ⟨b, ev_succ (K + 2) fun k hk => ?_, ?_⟩
    · obtain ⟨k, rfl⟩ : ∃ m, k = m + 1 := ⟨k - 1, by omega⟩
      simp only [spec_JSemver.j4, spec_JSemver.j5, Bool.false_eq_true, if_false]
      rw [if_neg (by omega)]
      exact hK k (by omega)
    · rw [hcore]
      exact ⟨fun h => ⟨fun r hr => (by cases hr), h⟩, fun h => h.2⟩

theorem dashLoop (s : ByteArray) (hs : s.size ≤ 2147483647) (p : Nat) (hp : p ≤ s.size) (d : Nat) : ∀ i : Nat, i ≤ p → p - i = d → Free 45 (bs s) 0 i →
    ∃ b, Ev (fun k => spec_JSemver.l1 k s p i) b ∧ (b = true ↔ preOk (after 45 ((bs s).take p)) ∧ coreOk (before 45 ((bs s).take p))) := by
  have hl := bs_len s
  induction d with
  | zero =>
    intro i hi hd hf
    obtain ⟨b, ⟨K, hK⟩, hb⟩ := fromDash s hs p i hp hi hf (fun h => by omega)
    refine ⟨b, ev_succ K fun k hk => ?_, hb⟩
    simp only [spec_JSemver.l1]
    rw [if_neg (by omega)]
    exact hK k hk
  | succ d ih =>
    intro i hi hd hf
    have hlt : i < (bs s).length := by omega
    have ew' : wrap64 ((i : Int) + 1) = ((i + 1 : Nat) : Int) := by rw [wrap_in (by omega) (by omega)]; omega
    have hbt := bt_nat s i hlt
    by_cases h45 : (bs s)[i] = 45
    · obtain ⟨b, ⟨K, hK⟩, hb⟩ := fromDash s hs p i hp hi hf (fun h => ⟨hlt, h45⟩)
      refine ⟨b, ev_succ K fun k hk => ?_, hb⟩
      simp only [spec_JSemver.l1, hbt]
      rw [if_pos (by omega), if_pos (by omega), if_pos (by omega), if_pos (by rw [h45]; rfl)]
      exact hK k hk
    · obtain ⟨b, ⟨K, hK⟩, hb⟩ := ih (i + 1) (by omega) (by omega) (hf.step hlt h45)
      refine ⟨b, ev_succ K fun k hk => ?_, hb⟩
      simp only [spec_JSemver.l1, hbt, ew']
      rw [if_pos (by omega), if_pos (by omega), if_pos (by omega), if_neg (show ¬ ((((bs s)[i]).toNat : Int) = 45) from fun e => h45 ((eq_toNat _ 45).1 e))]
      exact hK k hk

theorem fromPlus (s : ByteArray) (hs : s.size ≤ 2147483647) (p : Nat) (hp : p ≤ s.size) (hf : Free 43 (bs s) 0 p) (hx : p < s.size → ∃ h : p < (bs s).length, (bs s)[p] = 43) :
    ∃ b, Ev (fun k => spec_JSemver.j1 k s p) b ∧ (b = true ↔ semOk (bs s)) := by
  have hl := bs_len s
  obtain ⟨e1, e2⟩ := before_at hf (by omega) (fun h => (hx (by omega)).2)
  unfold semOk
  rw [e1, e2, hl]
  obtain ⟨b, ⟨K, hK⟩, hb⟩ := dashLoop s hs p hp p 0 (Nat.zero_le _) rfl (Free.self _ _ _)
  rw [← hb]
  simp only at hK
  by_cases hlt : p < s.size
  · have ew' : wrap64 ((p : Int) + 1) = ((p + 1 : Nat) : Int) := by rw [wrap_in (by omega) (by omega)]; omega
    obtain ⟨q, ⟨K2, hK2⟩, hq⟩ := idsS (s.extract (p + 1) s.size) (by rw [ByteArray.size_extract]; omega) false
    rw [bs_drop] at hq
    simp only at hK2
    rw [if_pos hlt]
    have hpre : buildOk (some ((bs s).drop (p + 1))) ↔ q = true := by
      rw [hq]; unfold buildOk idOf
      simp
    rw [hpre]
    cases q with
    | true =>
      refine ⟨b, ev_succ (K + K2 + 2) fun k hk => ?_, by simp⟩
      obtain ⟨k, rfl⟩ : ∃ m, k = m + 1 := ⟨k - 1, by omega⟩
      simp only [spec_JSemver.j1, spec_JSemver.j2, Int.toNat_natCast, ew', hK2 (k + 1) (by omega), Option.bind_some, Bool.not_true, Bool.false_eq_true, if_false]
      rw [if_pos (by omega), if_pos (by omega), if_pos (by omega)]
      exact hK k (by omega)
    | false =>
      refine ⟨false, ev_succ (K2 + 2) fun k hk => ?_, by simp⟩
      obtain ⟨k, rfl⟩ : ∃ m, k = m + 1 := ⟨k - 1, by omega⟩
      simp only [spec_JSemver.j1, spec_JSemver.j2, Int.toNat_natCast, ew', hK2 (k + 1) (by omega), Option.bind_some, Bool.not_false, if_true]
      rw [if_pos (by omega), if_pos (by omega), if_pos (by omega)]
  · rw [if_neg hlt]
    refine ⟨b, ev_succ (K + 2) fun k hk => ?_, ?_⟩
    · obtain ⟨k, rfl⟩ : ∃ m, k = m + 1 := ⟨k - 1, by omega⟩
      simp only [spec_JSemver.j1, spec_JSemver.j2, Bool.false_eq_true, if_false]
      rw [if_neg (by omega)]
      exact hK k (by omega)
    · exact ⟨fun h => ⟨fun r hr => (by cases hr), h⟩, fun h => h.2⟩

theorem plusLoop (s : ByteArray) (hs : s.size ≤ 2147483647) (d : Nat) : ∀ i : Nat, i ≤ s.size → s.size - i = d → Free 43 (bs s) 0 i →
    ∃ b, Ev (fun k => spec_JSemver.l0 k s i) b ∧ (b = true ↔ semOk (bs s)) := by
  have hl := bs_len s
  induction d with
  | zero =>
    intro i hi hd hf
    obtain ⟨b, ⟨K, hK⟩, hb⟩ := fromPlus s hs i hi hf (fun h => by omega)
    refine ⟨b, ev_succ K fun k hk => ?_, hb⟩
    simp only [spec_JSemver.l0]
    rw [if_neg (by omega)]
    exact hK k hk
  | succ d ih =>
    intro i hi hd hf
    have hlt : i < (bs s).length := by omega
    have ew' : wrap64 ((i : Int) + 1) = ((i + 1 : Nat) : Int) := by rw [wrap_in (by omega) (by omega)]; omega
    have hbt := bt_nat s i hlt
    by_cases h45 : (bs s)[i] = 43
    · obtain ⟨b, ⟨K, hK⟩, hb⟩ := fromPlus s hs i hi hf (fun h => ⟨hlt, h45⟩)
      refine ⟨b, ev_succ K fun k hk => ?_, hb⟩
      simp only [spec_JSemver.l0, hbt]
      rw [if_pos (by omega), if_pos (by omega), if_pos (by rw [h45]; rfl)]
      exact hK k hk
    · obtain ⟨b, ⟨K, hK⟩, hb⟩ := ih (i + 1) (by omega) (by omega) (hf.step hlt h45)
      refine ⟨b, ev_succ K fun k hk => ?_, hb⟩
      simp only [spec_JSemver.l0, hbt, ew']
      rw [if_pos (by omega), if_pos (by omega), if_neg (show ¬ ((((bs s)[i]).toNat : Int) = 43) from fun e => h45 ((eq_toNat _ 43).1 e))]
      exact hK k hk

theorem semS (s : ByteArray) (hs : s.size ≤ 2147483647) : ∃ b, Ev (fun k => spec_JSemver.f k s) b ∧ (b = true ↔ semOk (bs s)) :=
  plusLoop s hs s.size 0 (Nat.zero_le _) rfl (Free.self _ _ _)

theorem bool_of_iff {b c : Bool} {p q : Prop} (h1 : b = true ↔ p) (h2 : c = true ↔ q) (h : p ↔ q) : b = c := by
  rw [Bool.eq_iff_iff, h1, h2, h]

set_option maxHeartbeats 1000000 in
theorem walk (s : ByteArray) (w : World) (_hs : s.size ≤ 140737488351232) :
    Calls Try.prog 11 #[.string s] w fun e w' => e = .returned (.bool true) ∧ Below w.heap.size w w' := by
  by_cases hbig : s.size ≤ 2147483647
  · obtain ⟨c, ⟨K, hK⟩, hc⟩ := semS s hbig
    have HK := Lib.hid (hK K (Nat.le_refl _))
    have HC := Lib.hid hc
    clear hK hc
    go_enter Try.func11, Try.ntmps11
    go_wp2_with fail
    refine (implSem s _ hbig).mono ?_
    rintro e w1 ⟨⟨b, rfl, hb1⟩, hb⟩
    have hbc : b = c := bool_of_iff hb1 HC.out Iff.rfl
    subst hbc
    have hself : (b == b) = true := by simp
    clear hb1
    go_wp2_with fail
    refine (PFnJSemver.spec_JSemver.calls K s b _ HK.out).mono ?_
    rintro e w2 ⟨rfl, ⟨n3, rfl⟩⟩
    go_wp2_with fail
    go_ret
    exact ⟨by simp, pw_below_drewN hb n3⟩
  · go_enter Try.func11, Try.ntmps11
    go_wp2_with fail
    go_ret
    exact ⟨rfl, Below.refl _ _⟩
end Go.Proofs.Ytdjmjgdafghdgaa.LSem
