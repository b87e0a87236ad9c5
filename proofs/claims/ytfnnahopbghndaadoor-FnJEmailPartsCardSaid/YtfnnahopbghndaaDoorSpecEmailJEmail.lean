/- spec.jDotted, spec.JEmail: what they answer; the code's addresses are the grammar's. -/
import Derived.Test.YtfnnahopbghndaaDoorFmtEmail
import Derived.Test.YtfnnahopbghndaaDoorSpecHnJEmail
namespace Go.Proofs.YtfnnahopbghndaaDoor.SEmJEmail
open Go.RowKit Go.Proofs.YtfnnahopbghndaaDoor.PJEmail Go.Proofs.YtfnnahopbghndaaDoorW.PrintWords Go.Proofs.YtfnnahopbghndaaDoorW.PrintLast Go.Proofs.YtfnnahopbghndaaDoor.K Go.Proofs.YtfnnahopbghndaaDoor.Fmt Go.Proofs.YtfnnahopbghndaaDoor.SHnJEmail
set_option linter.unusedVariables false
set_option linter.unusedSimpArgs false

theorem split_sub {c : UInt8} {l g : List UInt8} (hg : g ∈ splitL c l) : ∀ x ∈ g, x ∈ l := by
  induction l generalizing g with
  | nil => simp [splitL] at hg; subst hg; simp
  | cons a l ih =>
    simp only [splitL] at hg
    split at hg
    · rcases List.mem_cons.1 hg with rfl | hg
      · simp
      · intro x hx; exact List.mem_cons_of_mem _ (ih hg x hx)
    · split at hg
      · rename_i h; exact absurd h (splitL_ne c l)
      · rename_i g0 gs h
        rcases List.mem_cons.1 hg with rfl | hg
        · intro x hx
          rcases List.mem_cons.1 hx with rfl | hx
          · simp
          · exact List.mem_cons_of_mem _ (ih (by rw [h]; simp) x hx)
        · intro x hx; exact List.mem_cons_of_mem _ (ih (by rw [h]; simp [hg]) x hx)
theorem split_mem {c : UInt8} {l : List UInt8} : ∀ x ∈ l, x = c ∨ ∃ g ∈ splitL c l, x ∈ g := by
  induction l with
  | nil => simp
  | cons a l ih =>
    intro x hx
    simp only [splitL]
    split
    · rename_i ha
      rcases List.mem_cons.1 hx with rfl | hx
      · exact .inl ha
      · rcases ih x hx with h | ⟨g, hg, h⟩
        · exact .inl h
        · exact .inr ⟨g, by simp [hg], h⟩
    · split
      · rename_i h; exact absurd h (splitL_ne c l)
      · rename_i g0 gs h
        rcases List.mem_cons.1 hx with rfl | hx
        · exact .inr ⟨_, List.mem_cons_self, by simp⟩
        · rcases ih x hx with h1 | ⟨g, hg, h1⟩
          · exact .inl h1
          · rw [h] at hg
            rcases List.mem_cons.1 hg with rfl | hg
            · exact .inr ⟨_, List.mem_cons_self, by simp [h1]⟩
            · exact .inr ⟨g, by simp [hg], h1⟩
theorem DD_cons (a : UInt8) (l : List UInt8) : DD (a :: l) ↔ (a = 46 ∧ l.head? = some 46) ∨ DD l := by
  unfold DD
  constructor
  · rintro ⟨i, h1, h2⟩
    cases i with
    | zero =>
      left
      simp only [List.getElem?_cons_zero, Option.some.injEq, Nat.zero_add, List.getElem?_cons_succ] at h1 h2
      exact ⟨h1, by rw [List.head?_eq_getElem?]; exact h2⟩
    | succ i =>
      right
      simp only [List.getElem?_cons_succ] at h1 h2
      exact ⟨i, h1, h2⟩
  · rintro (⟨h1, h2⟩ | ⟨i, h1, h2⟩)
    · refine ⟨0, by simp [h1], ?_⟩
      rw [List.head?_eq_getElem?] at h2
      simpa using h2
    · exact ⟨i + 1, by simpa using h1, by simpa using h2⟩
/-- No group is empty. -/
theorem full (n : Nat) : ∀ l : List UInt8, l.length = n → ((∀ g ∈ splitL 46 l, g ≠ []) ↔ l ≠ [] ∧ l.head? ≠ some 46 ∧ l.getLast? ≠ some 46 ∧ ¬ DD l) := by
  induction n using Nat.strongRecOn with
  | ind n ih =>
    intro l hn
    cases l with
    | nil => simp [splitL]
    | cons a r =>
      by_cases ha : a = 46
      · simp [splitL, ha]
      · cases r with
        | nil =>
          have : ¬ DD [a] := by rw [DD_cons]; simp [DD]
          simp [splitL, ha, this]
        | cons b r =>
          by_cases hb : b = 46
          · have e : splitL 46 (a :: b :: r) = [a] :: splitL 46 r := by
              subst hb
              simp only [splitL, if_neg ha, if_true]
            rw [e]
            have ih := ih r.length (by simp at hn; omega) r rfl
            simp only [List.mem_cons, forall_eq_or_imp]
            rw [ih, DD_cons, DD_cons]
            have hl : (a :: b :: r).getLast? = if r = [] then some 46 else r.getLast? := by
              cases r with
              | nil => simp [hb]
              | cons c r => simp
            rw [hl]
            by_cases hr : r = []
            · subst hr; simp
            · rw [if_neg hr]
              simp [ha, hb, hr]
              constructor
              · rintro ⟨h1, h2, h3⟩; exact ⟨h2, h1, h3⟩
              · rintro ⟨h1, h2, h3⟩; exact ⟨h2, h1, h3⟩
          · have ih := ih (b :: r).length (by simp at hn ⊢; omega) (b :: r) rfl
            have e : ∃ g gs, splitL 46 (b :: r) = (b :: g) :: gs ∧ splitL 46 (a :: b :: r) = (a :: b :: g) :: gs := by
              cases hs : splitL 46 r with
              | nil => exact absurd hs (splitL_ne _ _)
              | cons g gs =>
                have e1 : splitL 46 (b :: r) = (b :: g) :: gs := by rw [splitL, if_neg hb, hs]
                exact ⟨g, gs, e1, by rw [splitL, if_neg ha, e1]⟩
            obtain ⟨g, gs, e1, e2⟩ := e
            rw [e1] at ih
            rw [e2, DD_cons]
            simp only [List.mem_cons, forall_eq_or_imp] at ih ⊢
            have hl : (a :: b :: r).getLast? = (b :: r).getLast? := by simp
            rw [hl]
            simp only [ne_eq, reduceCtorEq, not_false_eq_true, true_and, List.head?_cons, Option.some.injEq, ha, hb, false_and, false_or] at ih ⊢
            exact ih

/-- Bytes of an atom. -/
def atB (b : UInt8) : Bool := emB b && b != 46
def dotted (l : List UInt8) : Prop := ∀ g ∈ splitL 46 l, g ≠ [] ∧ ∀ b ∈ g, atB b = true
theorem dotted_iff (l : List UInt8) (hne : l ≠ []) : dotted l ↔ l.head? ≠ some 46 ∧ l.getLast? ≠ some 46 ∧ ¬ DD l ∧ ∀ b ∈ l, emB b = true := by
  have hf := full l.length l rfl
  unfold dotted
  constructor
  · intro h
    obtain ⟨_, h1, h2, h3⟩ := hf.1 (fun g hg => (h g hg).1)
    refine ⟨h1, h2, h3, fun b hb => ?_⟩
    rcases split_mem (c := 46) b hb with rfl | ⟨g, hg, hb'⟩
    · decide
    · have := (h g hg).2 b hb'
      unfold atB at this
      rw [Bool.and_eq_true] at this
      exact this.1
  · rintro ⟨h1, h2, h3, h4⟩ g hg
    refine ⟨hf.2 ⟨hne, h1, h2, h3⟩ g hg, fun b hb => ?_⟩
    unfold atB
    rw [h4 b (split_sub hg b hb), Bool.true_and, bne_iff_ne]
    exact fun e => split_free 46 l g hg (e ▸ hb)

theorem specialS : ∀ n : Fin 256, spec_jSpecial.f (n.val : Int) = some (setL.contains (UInt8.ofNat n.val) && (n.val != 46)) := by decide +kernel
theorem atF (b : UInt8) : ∃ p q r : Bool, spec_jLetter.f (b.toNat : Int) = some p ∧ spec_jDigit.f (b.toNat : Int) = some q ∧ spec_jSpecial.f (b.toNat : Int) = some r ∧ (atB b = true ↔ (p = true ∨ q = true ∨ r = true)) := by
  have h := specialS ⟨b.toNat, b.toNat_lt⟩
  refine ⟨_, _, _, letterS b, digitS b, h, ?_⟩
  unfold atB emB
  simp only [Bool.and_eq_true, Bool.or_eq_true, decide_eq_true_eq, UInt8.le_iff_toNat_le, bne_iff_ne, UInt8.ofNat_toNat, ne_eq, ← UInt8.toNat_inj]
  simp only [UInt8.toNat_ofNat]
  generalize setL.contains b = q
  cases q <;> simp <;> omega

theorem dotLoop (s : ByteArray) (hs : s.size ≤ 2147483647) (d : Nat) : ∀ a i : Nat, a ≤ i → i ≤ s.size → s.size - i = d → Free 46 (bs s) a i → (∀ j, (h : j < (bs s).length) → a ≤ j → j < i → atB (bs s)[j] = true) →
    ∃ b, Ev (fun k => spec_jDotted.l0 k s a i) b ∧ (b = true ↔ dotted ((bs s).drop a)) := by
  have hl := bs_len s
  induction d with
  | zero =>
    intro a i ha hi hd hf hg
    have e : i = s.size := by omega
    subst e
    have ew' : wrap64 ((s.size : Int) + 1) = ((s.size + 1 : Nat) : Int) := by rw [wrap_in (by omega) (by omega)]; omega
    rw [← hl] at hf
    unfold dotted
    rw [seg_end hf]
    simp only [List.mem_singleton, forall_eq]
    by_cases hx : (s.size : Int) = (a : Int)
    · refine ⟨false, ev_succ 1 fun k hk => ?_, ?_⟩
      · obtain ⟨k, rfl⟩ : ∃ m, k = m + 1 := ⟨k - 1, by omega⟩
        simp only [spec_jDotted.l0, spec_jDotted.j1]
        rw [if_pos (by omega), if_pos trivial, if_pos trivial, if_pos hx]
      · rw [List.drop_of_length_le (by omega)]; simp
    · refine ⟨true, ev_succ 2 fun k hk => ?_, ?_⟩
      · obtain ⟨k, rfl⟩ : ∃ m, k = m + 1 + 1 := ⟨k - 2, by omega⟩
        simp only [spec_jDotted.l0, spec_jDotted.j1, ew']
        rw [if_pos (by omega), if_pos trivial, if_pos trivial, if_neg hx, if_neg (by omega)]
      · simp only [true_iff]
        refine ⟨fun e => ?_, fun b hb => ?_⟩
        · have := congrArg List.length e
          rw [List.length_drop] at this
          simp at this; omega
        · obtain ⟨j, hj, rfl⟩ := List.getElem_of_mem hb
          rw [List.length_drop] at hj
          rw [List.getElem_drop]
          exact hg (a + j) (by omega) (by omega) (by omega)
  | succ d ih =>
    intro a i ha hi hd hf hg
    have hlt : i < (bs s).length := by omega
    have ew' : wrap64 ((i : Int) + 1) = ((i + 1 : Nat) : Int) := by rw [wrap_in (by omega) (by omega)]; omega
    have hbt := bt_nat s i hlt
    have hne : ¬ ((i : Int) = (s.size : Int)) := by omega
    by_cases h46 : (bs s)[i] = 46
    · have hq : ((((bs s)[i]).toNat : Int) == 46) = true := by rw [h46]; rfl
      unfold dotted
      rw [seg_cut hf ha hlt h46]
      simp only [List.mem_cons, forall_eq_or_imp]
      by_cases hx : (i : Int) = (a : Int)
      · refine ⟨false, ev_succ 1 fun k hk => ?_, ?_⟩
        · obtain ⟨k, rfl⟩ : ∃ m, k = m + 1 := ⟨k - 1, by omega⟩
          simp only [spec_jDotted.l0, spec_jDotted.j1, hbt, hq]
          rw [if_pos (by omega), if_neg hne, if_pos (by omega), if_pos (by omega), if_pos trivial, if_pos hx]
        · have : ((bs s).take i).drop a = [] := List.drop_of_length_le (by rw [List.length_take]; omega)
          rw [this]; simp
      · obtain ⟨b, ⟨K, hK⟩, hb⟩ := ih (i + 1) (i + 1) (by omega) (by omega) (by omega) (Free.self _ _ _) (fun j h h1 h2 => by omega)
        refine ⟨b, ev_succ (K + 1) fun k hk => ?_, ?_⟩
        · obtain ⟨k, rfl⟩ : ∃ m, k = m + 1 := ⟨k - 1, by omega⟩
          simp only [spec_jDotted.l0, spec_jDotted.j1, hbt, hq, ew']
          rw [if_pos (by omega), if_neg hne, if_pos (by omega), if_pos (by omega), if_pos trivial, if_neg hx]
          exact hK k (by omega)
        · rw [hb]
          unfold dotted
          refine ⟨fun h => ⟨⟨fun e => ?_, fun b hb => ?_⟩, h⟩, fun h => h.2⟩
          · have := congrArg List.length e
            rw [List.length_drop, List.length_take] at this
            simp at this; omega
          · obtain ⟨j, hj, rfl⟩ := List.getElem_of_mem hb
            rw [List.length_drop, List.length_take] at hj
            rw [List.getElem_drop, List.getElem_take]
            exact hg (a + j) (by omega) (by omega) (by omega)
    · have hq : ((((bs s)[i]).toNat : Int) == 46) = false := by rw [beq_eq_false_iff_ne]; exact fun e => h46 ((eq_toNat _ 46).1 e)
      obtain ⟨p, q, r, hp, hqd, hr, hat⟩ := atF (bs s)[i]
      by_cases hok : atB (bs s)[i] = true
      · obtain ⟨b, ⟨K, hK⟩, hb⟩ := ih a (i + 1) (by omega) (by omega) (by omega) (hf.step hlt h46) (fun j h h1 h2 => by
          by_cases e : j = i
          · subst e; exact hok
          · exact hg j h h1 (by omega))
        refine ⟨b, ev_succ (K + 1) fun k hk => ?_, hb⟩
        obtain ⟨k, rfl⟩ : ∃ m, k = m + 1 := ⟨k - 1, by omega⟩
        simp only [spec_jDotted.l0, spec_jDotted.j1, hbt, hq, ew', hp, hqd, hr, Option.bind_some]
        rw [if_pos (by omega), if_neg hne, if_pos (by omega), if_pos (by omega), if_neg (by simp)]
        have h3 := hat.1 hok
        rw [if_pos (by omega), if_pos (by omega)]
        by_cases h1 : p = true
        · rw [if_pos h1]; exact hK k (by omega)
        · rw [if_neg h1]
          by_cases h2 : q = true
          · rw [if_pos h2]; exact hK k (by omega)
          · rw [if_neg h2, if_pos ((h3.resolve_left h1).resolve_left h2)]; exact hK k (by omega)
      · refine ⟨false, ev_succ 1 fun k hk => ?_, ?_⟩
        · obtain ⟨k, rfl⟩ : ∃ m, k = m + 1 := ⟨k - 1, by omega⟩
          simp only [spec_jDotted.l0, spec_jDotted.j1, hbt, hq, ew', hp, hqd, hr, Option.bind_some]
          rw [if_pos (by omega), if_neg hne, if_pos (by omega), if_pos (by omega), if_neg (by simp), if_pos (by omega), if_pos (by omega),
            if_neg (fun h => hok (hat.2 (.inl h))), if_neg (fun h => hok (hat.2 (.inr (.inl h)))), if_neg (fun h => hok (hat.2 (.inr (.inr h))))]
        · simp only [Bool.false_eq_true, false_iff]
          intro h
          have hm : (bs s)[i] ∈ (bs s).drop a := by
            have := List.getElem_mem (l := (bs s).drop a) (n := i - a) (by rw [List.length_drop]; omega)
            rwa [List.getElem_drop, show (bs s)[a + (i - a)]'(by omega) = (bs s)[i] from by congr 1; omega] at this
          rcases split_mem (c := 46) _ hm with e | ⟨g, hg', hb⟩
          · exact h46 e
          · exact hok ((h g hg').2 _ hb)
theorem dotS (s : ByteArray) (hs : s.size ≤ 2147483647) : ∃ b, Ev (fun k => spec_jDotted.f k s) b ∧ (b = true ↔ dotted (bs s)) := by
  obtain ⟨b, h1, h2⟩ := dotLoop s hs s.size 0 0 (Nat.le_refl _) (Nat.zero_le _) rfl (Free.self _ _ _) (fun j h h1 h2 => by omega)
  exact ⟨b, h1, by rwa [List.drop_zero] at h2⟩

/-- The grammar's addresses. -/
def gramOk (l : List UInt8) : Prop := ∃ i, LastAt l i ∧ i ≤ 64 ∧ l.length ≤ 254 ∧ dotted (l.take i) ∧ ((l.drop (i + 1)).length ≤ 253 ∧ ∀ g ∈ splitL 46 (l.drop (i + 1)), labelOk g)
theorem emLoop (s : ByteArray) (hs : s.size ≤ 2147483647) : ∀ m : Nat, m ≤ s.size → 64 ∉ (bs s).drop m →
    ∃ b, Ev (fun k => spec_JEmail.l0 k s ((m : Int) - 1)) b ∧ (b = true ↔ gramOk (bs s)) := by
  have hl := bs_len s
  intro m
  induction m with
  | zero =>
    intro hm hno
    refine ⟨false, ev_succ 0 fun k _ => ?_, ?_⟩
    · simp only [spec_JEmail.l0]; rw [if_neg (by omega)]
    · simp only [Bool.false_eq_true, false_iff]
      rintro ⟨i, h, _⟩
      rw [List.drop_zero] at hno
      exact hno (List.mem_of_getElem? h.1)
  | succ m ih =>
    intro hm hno
    have e0 : ((m + 1 : Nat) : Int) - 1 = (m : Int) := by omega
    rw [e0]
    have hlt : m < (bs s).length := by omega
    have ewm : wrap64 ((m : Int) - 1) = (m : Int) - 1 := wrap_in (by omega) (by omega)
    have ew' : wrap64 ((m : Int) + 1) = ((m + 1 : Nat) : Int) := by rw [wrap_in (by omega) (by omega)]; omega
    have hbt := bt_nat s m hlt
    by_cases h64 : (bs s)[m] = 64
    · have hat : LastAt (bs s) m := ⟨by rw [List.getElem?_eq_getElem hlt, h64], hno⟩
      have h64' : ((bs s)[m].toNat : Int) = 64 := by rw [h64]; rfl
      have hg : gramOk (bs s) ↔ m ≤ 64 ∧ (bs s).length ≤ 254 ∧ dotted ((bs s).take m) ∧ (((bs s).drop (m + 1)).length ≤ 253 ∧ ∀ g ∈ splitL 46 ((bs s).drop (m + 1)), labelOk g) := by
        constructor
        · rintro ⟨i, hi, h⟩
          obtain rfl := lastAt_one hat hi
          exact h
        · intro h; exact ⟨m, hat, h⟩
      rw [hg, hl]
      by_cases hm64 : (m : Int) ≤ 64
      · by_cases h254 : (s.size : Int) ≤ 254
        · obtain ⟨b, ⟨K, hK⟩, hb⟩ := dotS (s.extract 0 m) (by rw [ByteArray.size_extract]; omega)
          rw [bs_take] at hb
          by_cases hbt' : b = true
          · obtain ⟨c, ⟨K2, hK2⟩, hc⟩ := hostS (s.extract (m + 1) s.size) (by rw [ByteArray.size_extract]; omega)
            rw [bs_drop] at hc
            refine ⟨c, ev_succ (K + K2) fun k hk => ?_, ?_⟩
            · simp only [spec_JEmail.l0, hbt, Int.toNat_natCast, ew']
              rw [if_pos (by omega), if_pos (by omega), if_pos (by omega), if_pos h64', if_pos hm64, if_pos h254, if_pos (by omega), show spec_jDotted.f k (s.extract 0 m) = some b from hK k (by omega)]
              simp only [Option.bind_some]
              rw [if_pos hbt', if_pos (by omega), if_pos (by omega), show spec_JHostname.f k (s.extract (m + 1) s.size) = some c from hK2 k (by omega)]
              rfl
            · rw [hc]
              exact ⟨fun h => ⟨by omega, by omega, hb.1 hbt', h⟩, fun h => h.2.2.2⟩
          · refine ⟨false, ev_succ K fun k hk => ?_, ?_⟩
            · simp only [spec_JEmail.l0, hbt, Int.toNat_natCast, ew']
              rw [if_pos (by omega), if_pos (by omega), if_pos (by omega), if_pos h64', if_pos hm64, if_pos h254, if_pos (by omega), show spec_jDotted.f k (s.extract 0 m) = some b from hK k (by omega)]
              simp only [Option.bind_some]
              rw [if_neg hbt']
            · simp only [Bool.false_eq_true, false_iff]
              exact fun h => hbt' (hb.2 h.2.2.1)
        · refine ⟨false, ev_succ 0 fun k hk => ?_, by simp only [Bool.false_eq_true, false_iff]; intro h; omega⟩
          simp only [spec_JEmail.l0, hbt]
          rw [if_pos (by omega), if_pos (by omega), if_pos (by omega), if_pos h64', if_pos hm64, if_neg h254]
      · refine ⟨false, ev_succ 0 fun k hk => ?_, by simp only [Bool.false_eq_true, false_iff]; intro h; omega⟩
        simp only [spec_JEmail.l0, hbt]
        rw [if_pos (by omega), if_pos (by omega), if_pos (by omega), if_pos h64', if_neg hm64]
    · have hno' : 64 ∉ (bs s).drop m := by
        rw [List.drop_eq_getElem_cons hlt]
        intro h
        rcases List.mem_cons.1 h with h | h
        · exact h64 h.symm
        · exact hno h
      obtain ⟨b, ⟨K, hK⟩, hb⟩ := ih (by omega) hno'
      refine ⟨b, ev_succ K fun k hk => ?_, hb⟩
      simp only [spec_JEmail.l0, hbt, ewm]
      rw [if_pos (by omega), if_pos (by omega), if_pos (by omega), if_neg (show ¬ (((bs s)[m].toNat : Int) = 64) from fun e => h64 ((eq_toNat _ 64).1 e))]
      exact hK k hk
theorem emS (s : ByteArray) (hs : s.size ≤ 2147483647) : ∃ b, Ev (fun k => spec_JEmail.f k s) b ∧ (b = true ↔ gramOk (bs s)) := by
  obtain ⟨b, h1, h2⟩ := emLoop s hs s.size (Nat.le_refl _) (by rw [List.drop_of_length_le (by rw [bs_len]; exact Nat.le_refl _)]; simp)
  refine ⟨b, ?_, h2⟩
  have ew : wrap64 ((s.size : Int) - 1) = (s.size : Int) - 1 := wrap_in (by omega) (by omega)
  show Ev (fun k => spec_JEmail.l0 k s (wrap64 ((s.size : Int) - 1))) b
  rw [ew]
  exact h1

/-- Where the local part is not empty, and the name does not end with a dot. -/
theorem email_iff (l : List UInt8) (h : ∀ i, LastAt l i → 1 ≤ i ∧ (l.drop (i + 1)).getLast? ≠ some 46) : emailOk l ↔ gramOk l := by
  unfold emailOk gramOk
  constructor
  · rintro ⟨h1, i, hi, ⟨h2, h3⟩, h4⟩
    obtain ⟨k1, k2⟩ := h i hi
    have hlen := (List.getElem?_eq_some_iff.1 hi.1).1
    have hne : l.take i ≠ [] := fun e => by have := congrArg List.length e; rw [List.length_take, List.length_nil] at this; omega
    rw [List.length_take] at h2
    unfold hostOk trimDot at h4
    rw [if_neg k2] at h4
    exact ⟨i, hi, by omega, h1, (dotted_iff _ hne).2 h3, h4⟩
  · rintro ⟨i, hi, h2, h1, h3, h4⟩
    obtain ⟨k1, k2⟩ := h i hi
    have hlen := (List.getElem?_eq_some_iff.1 hi.1).1
    have hne : l.take i ≠ [] := fun e => by have := congrArg List.length e; rw [List.length_take, List.length_nil] at this; omega
    refine ⟨h1, i, hi, ⟨by rw [List.length_take]; omega, (dotted_iff _ hne).1 h3⟩, ?_⟩
    unfold hostOk trimDot
    rw [if_neg k2]
    exact h4
end Go.Proofs.YtfnnahopbghndaaDoor.SEmJEmail
