/- FnJDuration: for every text of at most 2^31-1 bytes that leaves out no unit between two others impl.JDuration and spec.JDuration answer the same. -/
import Derived.Test.YtdjmjgdafghdgaaFmtDur
namespace Go.Proofs.Ytdjmjgdafghdgaa.LDur
open Go.RowKit Go.Proofs.Ytdjmjgdafghdgaa.PFnJDuration Go.Proofs.YtdjmjgdafghdgaaW.PrintWords Go.Proofs.YtdjmjgdafghdgaaW.PrintLast Go.Proofs.Ytdjmjgdafghdgaa.K Go.Proofs.Ytdjmjgdafghdgaa.Fmt
set_option linter.unusedVariables false
set_option linter.unusedSimpArgs false

theorem digitS (b : UInt8) : spec_jDigit.f (b.toNat : Int) = some (digB b) := by
  have hk := digK.iff b
  unfold digR at hk
  unfold spec_jDigit.f
  by_cases h : (b.toNat : Int) ≥ 48
  · rw [if_pos h]; congr 1; rw [Bool.eq_iff_iff, decide_eq_true_eq, hk]; omega
  · rw [if_neg h]; congr 1; symm; rw [Bool.eq_false_iff, Ne, hk]; omega

/-- The units of a row of numbers; has there just been a digit? -/
def unitsF : Bool → List UInt8 → Option (List UInt8)
  | h, [] => if h then none else some []
  | h, a :: l => if digB a = true then unitsF true l else if h then (unitsF false l).map (a :: ·) else none

theorem unitsLoop (s : ByteArray) (hs : s.size ≤ 2147483647) (d : Nat) : ∀ (i m : Nat) (out : ByteArray), i ≤ s.size → s.size - i = d → m ≤ i → out.size ≤ i →
    ∃ r : ByteArray × Bool, Ev (fun k => spec_jUnits.l0 k s out m i) r ∧ (r.2 = true ↔ ∃ us, unitsF (decide (m ≠ 0)) ((bs s).drop i) = some us ∧ bs r.1 = bs out ++ us) ∧ (r.2 = false ↔ unitsF (decide (m ≠ 0)) ((bs s).drop i) = none) := by
  have hl := bs_len s
  induction d with
  | zero =>
    intro i m out hi hd hm ho
    have hd0 : (bs s).drop i = [] := List.drop_of_length_le (by omega)
    rw [hd0]
    refine ⟨(out, (m : Int) == 0), ev_succ 0 fun k _ => ?_, ?_, ?_⟩
    · simp only [spec_jUnits.l0]; rw [if_neg (by omega)]
    · by_cases h : m = 0
      · subst h; simp [unitsF]
      · have : ((m : Int) == 0) = false := by rw [beq_eq_false_iff_ne]; omega
        simp [unitsF, h, this]
    · by_cases h : m = 0
      · subst h; simp [unitsF]
      · have : ((m : Int) == 0) = false := by rw [beq_eq_false_iff_ne]; omega
        simp [unitsF, h, this]
  | succ d ih =>
    intro i m out hi hd hm ho
    have hlt : i < (bs s).length := by omega
    have ew' : wrap64 ((i : Int) + 1) = ((i + 1 : Nat) : Int) := by rw [wrap_in (by omega) (by omega)]; omega
    have em : wrap64 ((m : Int) + 1) = ((m + 1 : Nat) : Int) := by rw [wrap_in (by omega) (by omega)]; omega
    have EM := Lib.hid em
    clear em
    have hbt := bt_nat s i hlt
    rw [List.drop_eq_getElem_cons hlt]
    simp only [unitsF]
    by_cases hdg : digB (bs s)[i] = true
    · obtain ⟨r, ⟨K, hK⟩, h1, h2⟩ := ih (i + 1) (m + 1) out (by omega) (by omega) (by omega) (by omega)
      have e : decide (m + 1 ≠ 0) = true := by simp
      rw [e] at h1 h2
      rw [if_pos hdg]
      refine ⟨r, ev_succ K fun k hk => ?_, h1, h2⟩
      simp only [spec_jUnits.l0, hbt, digitS, Option.bind_some, ew', EM.out]
      rw [if_pos (by omega), if_pos (by omega), if_pos hdg]
      exact hK k hk
    · rw [if_neg hdg]
      by_cases h0 : m = 0
      · subst h0
        refine ⟨(⟨#[]⟩, false), ev_succ 0 fun k hk => ?_, by simp, by simp⟩
        simp only [spec_jUnits.l0, hbt, digitS, Option.bind_some]
        rw [if_pos (by omega), if_pos (by omega), if_neg hdg, if_pos (by omega)]
      · have hsz : (s.extract i (i + 1)).size = 1 := by rw [ByteArray.size_extract]; omega
        obtain ⟨r, ⟨K, hK⟩, h1, h2⟩ := ih (i + 1) 0 (out ++ s.extract i (i + 1)) (by omega) (by omega) (by omega) (by rw [ByteArray.size_append]; omega)
        have hone : bs (s.extract i (i + 1)) = [(bs s)[i]] := by
          rw [bs_extract, List.drop_take, List.drop_eq_getElem_cons hlt, show i + 1 - i = 1 from by omega]; rfl
        rw [bs_append, hone] at h1
        have e : decide (0 ≠ 0) = false := by simp
        rw [e] at h1 h2
        rw [show decide (m ≠ 0) = true from by simp [h0], if_pos rfl]
        refine ⟨r, ev_succ K fun k hk => ?_, ?_, ?_⟩
        · simp only [spec_jUnits.l0, hbt, digitS, Option.bind_some, ew', Int.toNat_natCast]
          rw [if_pos (by omega), if_pos (by omega), if_neg hdg, if_neg (by omega), if_pos (by omega), if_pos (by omega), if_pos (by rw [hsz]; omega)]
          exact hK k hk
        · rw [h1]
          constructor
          · rintro ⟨us, h3, h4⟩
            exact ⟨(bs s)[i] :: us, by rw [h3]; rfl, by rw [h4]; simp⟩
          · rintro ⟨us, h3, h4⟩
            cases hu : unitsF false ((bs s).drop (i + 1)) with
            | none => rw [hu] at h3; cases h3
            | some us' =>
              rw [hu] at h3
              obtain rfl := Option.some.inj h3
              exact ⟨us', rfl, by rw [h4]; simp⟩
        · rw [h2]
          cases unitsF false ((bs s).drop (i + 1)) <;> simp

theorem unitsS (s : ByteArray) (hs : s.size ≤ 2147483647) : ∃ r : ByteArray × Bool, Ev (fun k => spec_jUnits.f k s) r ∧ (r.2 = true ↔ unitsF false (bs s) = some (bs r.1)) ∧ (r.2 = false ↔ unitsF false (bs s) = none) := by
  obtain ⟨r, h, h1, h2⟩ := unitsLoop s hs s.size 0 0 ⟨#[]⟩ (by omega) (by omega) (by omega) (by decide)
  rw [List.drop_zero] at h1 h2
  refine ⟨r, h, ?_, h2⟩
  rw [h1]
  constructor
  · rintro ⟨us, h3, h4⟩
    have : bs r.1 = us := by rw [h4]; rfl
    rw [this]; exact h3
  · intro h3
    exact ⟨bs r.1, h3, rfl⟩

/-- Units in the order given. -/
def sub : List UInt8 → List UInt8 → Bool
  | [], _ => true
  | c :: us, U => if idx1 c U < 0 then false else sub us (U.drop ((idx1 c U).toNat + 1))

theorem unitsF_true (l : List UInt8) : ∀ h : Bool, (h = true ∨ digs l ≠ 0) → unitsF h l = match l.drop (digs l) with
    | [] => none
    | c :: r => (unitsF false r).map (c :: ·) := by
  induction l with
  | nil => intro h hh; rcases hh with rfl | hh <;> simp [unitsF, digs] at *
  | cons a l ih =>
    intro h hh
    simp only [unitsF]
    by_cases hd : digB a = true
    · rw [if_pos hd]
      have : digs (a :: l) = digs l + 1 := by simp [digs, List.takeWhile_cons, hd]
      rw [this, List.drop_succ_cons]
      exact ih true (.inl rfl)
    · rw [if_neg hd]
      have : digs (a :: l) = 0 := by simp [digs, List.takeWhile_cons, hd]
      rw [this] at hh ⊢
      rcases hh with rfl | hh
      · simp
      · exact absurd rfl hh

theorem unitsF_nodig (l : List UInt8) (hne : l ≠ []) (hd : digs l = 0) : unitsF false l = none := by
  cases l with
  | nil => exact absurd rfl hne
  | cons a l =>
    simp only [unitsF]
    have : ¬ digB a = true := by
      intro h
      simp [digs, List.takeWhile_cons, h] at hd
    rw [if_neg this]
    rfl

theorem durP_units (n : Nat) : ∀ (U l : List UInt8), l.length = n → (durP U l = true ↔ ∃ us, unitsF false l = some us ∧ sub us U = true) := by
  induction n using Nat.strongRecOn with
  | ind n ih =>
    intro U l hn
    by_cases h0 : l = []
    · subst h0
      simp [durP_nil, unitsF, sub]
    · by_cases hd : digs l = 0
      · rw [durP_nodig U l h0 hd, unitsF_nodig l h0 hd]; simp
      · rw [unitsF_true l false (.inr hd)]
        cases hr : l.drop (digs l) with
        | nil => rw [durP_nounit U l h0 hr]; simp
        | cons c r =>
          rw [durP_unit U l c r h0 hd hr]
          have hlen := congrArg List.length hr
          rw [List.length_drop, List.length_cons] at hlen
          simp only
          by_cases hi : idx1 c U < 0
          · rw [if_pos hi]
            constructor
            · intro h; cases h
            · rintro ⟨us, h1, h2⟩
              cases hu : unitsF false r with
              | none => rw [hu] at h1; cases h1
              | some us' =>
                rw [hu] at h1
                obtain rfl := Option.some.inj h1
                simp [sub, hi] at h2
          · rw [if_neg hi, ih r.length (by omega) _ r rfl]
            constructor
            · rintro ⟨us, h1, h2⟩
              exact ⟨c :: us, by rw [h1]; rfl, by simp [sub, hi, h2]⟩
            · rintro ⟨us, h1, h2⟩
              cases hu : unitsF false r with
              | none => rw [hu] at h1; cases h1
              | some us' =>
                rw [hu] at h1
                obtain rfl := Option.some.inj h1
                refine ⟨us', rfl, ?_⟩
                simpa [sub, hi] using h2

theorem sub0 (us : List UInt8) : sub us [] = true ↔ us = [] := by
  cases us with
  | nil => simp [sub]
  | cons c us => simp [sub, idx1]
theorem sub1 (us : List UInt8) (a : UInt8) : sub us [a] = true ↔ us = [] ∨ us = [a] := by
  cases us with
  | nil => simp [sub]
  | cons c us =>
    by_cases h : a = c
    · subst h; simp [sub, idx1, sub0]
    · simp [sub, idx1, h]; intro e; exact absurd e.symm h
theorem sub2 (us : List UInt8) (a b : UInt8) (hab : a ≠ b) : sub us [a, b] = true ↔ us = [] ∨ us = [a] ∨ us = [b] ∨ us = [a, b] := by
  cases us with
  | nil => simp [sub]
  | cons c us =>
    by_cases h : a = c
    · subst h; simp [sub, idx1, sub1, hab]
    · by_cases h2 : b = c
      · subst h2; simp [sub, idx1, sub0, h, Ne.symm h]
      · simp [sub, idx1, h, h2, Ne.symm h, Ne.symm h2]
theorem sub3 (us : List UInt8) (a b c : UInt8) (hab : a ≠ b) (hac : a ≠ c) (hbc : b ≠ c) : sub us [a, b, c] = true ↔ us = [] ∨ us = [a] ∨ us = [b] ∨ us = [c] ∨ us = [a, b] ∨ us = [a, c] ∨ us = [b, c] ∨ us = [a, b, c] := by
  cases us with
  | nil => simp [sub]
  | cons x us =>
    by_cases h : a = x
    · subst h; simp [sub, idx1, sub2 us b c hbc, hab, hac]
    · by_cases h2 : b = x
      · subst h2; simp [sub, idx1, sub1, h, Ne.symm h, hbc]
      · by_cases h3 : c = x
        · subst h3; simp [sub, idx1, sub0, h, h2, Ne.symm h, Ne.symm h2]
        · simp [sub, idx1, h, h2, h3, Ne.symm h, Ne.symm h2, Ne.symm h3]

/-- A year and a day without a month .. as the loop sees it. -/
def skipF (a b c : UInt8) : UInt8 → List UInt8 → Bool
  | _, [] => false
  | z, x :: l => if x = a ∨ x = b then skipF a b c x l else if x = c then (if z = a then true else skipF a b c z l) else skipF a b c z l

theorem skipLoop (s : ByteArray) (hs : s.size ≤ 2147483647) (a b c : UInt8) (d : Nat) : ∀ (i : Nat) (z : UInt8), i ≤ s.size → s.size - i = d →
    Ev (fun k => spec_jSkips.l0 k s (a.toNat : Int) (b.toNat : Int) (c.toNat : Int) (z.toNat : Int) i) (skipF a b c z ((bs s).drop i)) := by
  have hl := bs_len s
  induction d with
  | zero =>
    intro i z hi hd
    rw [List.drop_of_length_le (by omega)]
    refine ev_succ 0 fun k _ => ?_
    simp only [spec_jSkips.l0, skipF]; rw [if_neg (by omega)]
  | succ d ih =>
    intro i z hi hd
    have hlt : i < (bs s).length := by omega
    have ew' : wrap64 ((i : Int) + 1) = ((i + 1 : Nat) : Int) := by rw [wrap_in (by omega) (by omega)]; omega
    have hbt := bt_nat s i hlt
    rw [List.drop_eq_getElem_cons hlt]
    simp only [skipF]
    obtain ⟨K1, h1⟩ := ih (i + 1) (bs s)[i] (by omega) (by omega)
    obtain ⟨K2, h2⟩ := ih (i + 1) z (by omega) (by omega)
    simp only at h1 h2
    refine ev_succ (K1 + K2 + 2) fun k hk => ?_
    obtain ⟨k, rfl⟩ : ∃ m, k = m + 1 := ⟨k - 1, by omega⟩
    have hb1 : ∀ x : UInt8, ((((bs s)[i]).toNat : Int) == (x.toNat : Int)) = decide ((bs s)[i] = x) := by
      intro x; rw [Bool.eq_iff_iff, beq_iff_eq, decide_eq_true_eq, eq_toNat]
    simp only [spec_jSkips.l0, spec_jSkips.j1, hbt, ew', eq_toNat, hb1, decide_eq_true_eq]
    rw [if_pos (by omega), if_pos (by omega)]
    by_cases ha : (bs s)[i] = a
    · rw [if_pos ha, if_pos ha, if_pos (by omega), if_pos (by omega), if_pos (.inl ha)]
      exact h1 k (by omega)
    · rw [if_neg ha]
      by_cases hb : (bs s)[i] = b
      · rw [if_pos hb, if_pos (by omega), if_pos (by omega), if_pos (.inr hb)]
        exact h1 k (by omega)
      · rw [if_neg hb, if_neg (show ¬ ((bs s)[i] = a ∨ (bs s)[i] = b) from fun h => h.elim ha hb)]
        by_cases hc : (bs s)[i] = c
        · rw [if_pos hc, if_pos hc]
          by_cases hz : z = a
          · rw [if_pos hz, if_pos hz]
          · rw [if_neg hz, if_neg hz]; exact h2 k (by omega)
        · rw [if_neg hc, if_neg hc]; exact h2 k (by omega)

theorem skipS (s : ByteArray) (hs : s.size ≤ 2147483647) (a b c : UInt8) : Ev (fun k => spec_jSkips.f k s (a.toNat : Int) (b.toNat : Int) (c.toNat : Int)) (skipF a b c 0 (bs s)) := by
  have := skipLoop s hs a b c s.size 0 0 (by omega) (by omega)
  rw [List.drop_zero] at this
  exact this

/-- Two units, the first and the third: that is what is left out. -/
theorem skip_digits (a b c : UInt8) (ha : digB a = false) (hb : digB b = false) (hc : digB c = false) (r : List UInt8) : ∀ (g : List UInt8) (z : UInt8), (∀ x ∈ g, digB x = true) → skipF a b c z (g ++ r) = skipF a b c z r
  | [], _, _ => rfl
  | x :: g, z, h => by
    have hx := h x (by simp)
    have n1 : x ≠ a := fun e => by rw [e, ha] at hx; cases hx
    have n2 : x ≠ b := fun e => by rw [e, hb] at hx; cases hx
    have n3 : x ≠ c := fun e => by rw [e, hc] at hx; cases hx
    simp only [List.cons_append, skipF]
    rw [if_neg (fun h => h.elim n1 n2), if_neg n3]
    exact skip_digits a b c ha hb hc r g z (fun y hy => h y (by simp [hy]))

theorem tw_mem (l : List UInt8) : ∀ x ∈ l.takeWhile digB, digB x = true := by
  induction l with
  | nil => intro x hx; simp at hx
  | cons a l ih =>
    intro x hx
    rw [List.takeWhile_cons] at hx
    split at hx
    · rename_i h
      rcases List.mem_cons.1 hx with rfl | hx
      · exact h
      · exact ih x hx
    · simp at hx

theorem take_digs (l : List UInt8) : ∀ x ∈ l.take (digs l), digB x = true := by
  intro x hx
  have : l.take (digs l) = l.takeWhile digB := by
    have h := List.takeWhile_prefix (l := l) digB
    exact (List.prefix_iff_eq_take.1 h).symm
  rw [this] at hx
  exact tw_mem l x hx

theorem units_cons (l : List UInt8) (c : UInt8) (us : List UInt8) (h : unitsF false l = some (c :: us)) : ∃ g r, l = g ++ c :: r ∧ (∀ x ∈ g, digB x = true) ∧ unitsF false r = some us ∧ g ≠ [] := by
  have hne : l ≠ [] := by intro e; subst e; simp [unitsF] at h
  have hd : digs l ≠ 0 := by intro e; rw [unitsF_nodig l hne e] at h; cases h
  rw [unitsF_true l false (.inr hd)] at h
  cases hr : l.drop (digs l) with
  | nil => rw [hr] at h; cases h
  | cons x r =>
    rw [hr] at h
    simp only at h
    cases hu : unitsF false r with
    | none => rw [hu] at h; cases h
    | some us' =>
      rw [hu] at h
      have := Option.some.inj h
      simp only [List.cons.injEq] at this
      obtain ⟨rfl, rfl⟩ := this
      refine ⟨l.take (digs l), r, ?_, take_digs l, hu, ?_⟩
      rotate_left
      · intro e
        have e2 := congrArg List.length e
        have := digs_le l
        rw [List.length_take] at e2
        simp only [List.length_nil] at e2
        omega
      rw [← hr, List.take_append_drop]
theorem units_nil (l : List UInt8) (h : unitsF false l = some []) : l = [] := by
  by_cases hne : l = []
  · exact hne
  · exfalso
    by_cases hd : digs l = 0
    · rw [unitsF_nodig l hne hd] at h; cases h
    · rw [unitsF_true l false (.inr hd)] at h
      cases hr : l.drop (digs l) with
      | nil => rw [hr] at h; cases h
      | cons x r =>
        rw [hr] at h
        simp only at h
        cases hu : unitsF false r <;> rw [hu] at h <;> simp at h

theorem skip_found (a b c p : UInt8) (hab : a ≠ b) (hca : c ≠ a) (hcb : c ≠ b) (ha : digB a = false) (hb : digB b = false) (hc : digB c = false) (hp1 : p ≠ a) (hp2 : p ≠ b) (hp3 : p ≠ c) (l : List UInt8) (h : unitsF false l = some [a, c]) : skipF a b c 0 (p :: l) = true := by
  obtain ⟨g, r, rfl, hg, h2, _⟩ := units_cons l a [c] h
  obtain ⟨g2, r2, rfl, hg2, h3, _⟩ := units_cons r c [] h2
  rw [skipF, if_neg (fun h => h.elim hp1 hp2), if_neg hp3, skip_digits a b c ha hb hc _ g 0 hg]
  rw [skipF, if_pos (Or.inl rfl), skip_digits a b c ha hb hc _ g2 a hg2]
  rw [skipF, if_neg (fun h => h.elim hca hcb), if_pos rfl, if_pos rfl]

theorem units_mem (l : List UInt8) : ∀ (h : Bool) (us : List UInt8), unitsF h l = some us → ∀ x ∈ l, digB x = false → x ∈ us := by
  induction l with
  | nil => intro h us _ x hx; simp at hx
  | cons a l ih =>
    intro h us hu x hx hd
    simp only [unitsF] at hu
    split at hu
    · rename_i ha
      rcases List.mem_cons.1 hx with rfl | hx
      · rw [ha] at hd; cases hd
      · exact ih true us hu x hx hd
    · split at hu
      · cases hq : unitsF false l with
        | none => rw [hq] at hu; cases hu
        | some us' =>
          rw [hq] at hu
          obtain rfl := Option.some.inj hu
          rcases List.mem_cons.1 hx with rfl | hx
          · simp
          · exact List.mem_cons_of_mem _ (ih false us' hq x hx hd)
      · cases hu

theorem units_dig (q : List UInt8) (c : UInt8) (hc : digB c = false) : (∀ x ∈ q, digB x = true) → q ≠ [] → unitsF false (q ++ [c]) = some [c] := by
  intro hq hne
  have hd : digs (q ++ [c]) = q.length := by
    unfold digs
    rw [List.takeWhile_append_of_pos hq]
    simp [List.takeWhile_cons, hc]
  have h0 : q.length ≠ 0 := by intro e; exact hne (List.eq_nil_of_length_eq_zero e)
  rw [unitsF_true _ false (.inr (by rw [hd]; exact h0)), hd]
  simp [unitsF]

def dailyL (us : List UInt8) : Prop := us = [68] ∨ us = [77] ∨ us = [77, 68] ∨ us = [89] ∨ us = [89, 77] ∨ us = [89, 77, 68]
def hourlyL (us : List UInt8) : Prop := us = [83] ∨ us = [77] ∨ us = [77, 83] ∨ us = [72] ∨ us = [72, 77] ∨ us = [72, 77, 83]
theorem daily_mem {us : List UInt8} (h : dailyL us) : (87 : UInt8) ∉ us ∧ (84 : UInt8) ∉ us ∧ us ≠ [] := by
  rcases h with rfl | rfl | rfl | rfl | rfl | rfl <;> decide
theorem hourly_mem {us : List UInt8} (h : hourlyL us) : (87 : UInt8) ∉ us ∧ (84 : UInt8) ∉ us ∧ us ≠ [] := by
  rcases h with rfl | rfl | rfl | rfl | rfl | rfl <;> decide
theorem daily_sub {us : List UInt8} (h : dailyL us) : sub us [89, 77, 68] = true := by
  rcases h with rfl | rfl | rfl | rfl | rfl | rfl <;> decide
theorem hourly_sub {us : List UInt8} (h : hourlyL us) : sub us [72, 77, 83] = true := by
  rcases h with rfl | rfl | rfl | rfl | rfl | rfl <;> decide

/-- The part of days, of hours. -/
theorem day_part (l : List UInt8) (hs : skipF 89 77 68 0 (80 :: l) = false) : durP [89, 77, 68] l = true ↔ ∃ us, unitsF false l = some us ∧ (us = [] ∨ dailyL us) := by
  rw [durP_units _ _ _ rfl]
  constructor
  · rintro ⟨us, h1, h2⟩
    refine ⟨us, h1, ?_⟩
    rw [sub3 us 89 77 68 (by decide) (by decide) (by decide)] at h2
    unfold dailyL
    rcases h2 with h | h | h | h | h | h | h | h
    · exact .inl h
    · simp [h]
    · simp [h]
    · simp [h]
    · simp [h]
    · exfalso
      subst h
      rw [skip_found 89 77 68 80 (by decide) (by decide) (by decide) (by decide) (by decide) (by decide) (by decide) (by decide) (by decide) l h1] at hs
      cases hs
    · simp [h]
    · simp [h]
  · rintro ⟨us, h1, h2⟩
    refine ⟨us, h1, ?_⟩
    rcases h2 with rfl | h
    · rfl
    · exact daily_sub h
theorem hour_part (l : List UInt8) (hs : skipF 72 77 83 0 (84 :: l) = false) : durP [72, 77, 83] l = true ↔ ∃ us, unitsF false l = some us ∧ (us = [] ∨ hourlyL us) := by
  rw [durP_units _ _ _ rfl]
  constructor
  · rintro ⟨us, h1, h2⟩
    refine ⟨us, h1, ?_⟩
    rw [sub3 us 72 77 83 (by decide) (by decide) (by decide)] at h2
    unfold hourlyL
    rcases h2 with h | h | h | h | h | h | h | h
    · exact .inl h
    · simp [h]
    · simp [h]
    · simp [h]
    · simp [h]
    · exfalso
      subst h
      rw [skip_found 72 77 83 84 (by decide) (by decide) (by decide) (by decide) (by decide) (by decide) (by decide) (by decide) (by decide) l h1] at hs
      cases hs
    · simp [h]
    · simp [h]
  · rintro ⟨us, h1, h2⟩
    refine ⟨us, h1, ?_⟩
    rcases h2 with rfl | h
    · rfl
    · exact hourly_sub h

theorem two_bytes (l us : List UInt8) (h : unitsF false l = some us) (hne : us ≠ []) : 2 ≤ l.length := by
  cases us with
  | nil => exact absurd rfl hne
  | cons c us =>
    obtain ⟨g, r, rfl, _, _, hg⟩ := units_cons l c us h
    have : 0 < g.length := List.length_pos_iff.2 hg
    simp; omega

/-- Without T. -/
theorem dur_day (l : List UInt8) (hT : (84 : UInt8) ∉ l) (hs : skipF 89 77 68 0 (80 :: l) = false) :
    durOk (80 :: l) ↔ 2 ≤ l.length ∧ ∃ us, unitsF false l = some us ∧ (dailyL us ∨ us = [87]) := by
  unfold durOk
  simp only [List.head?_cons, List.drop_succ_cons, List.drop_zero, true_and]
  rw [splitL_none hT]
  by_cases hW : l.getLast? = some 87
  · rw [if_pos hW]
    have hne : l ≠ [] := by intro e; subst e; simp at hW
    have hlw : l.getLast hne = 87 := by rw [List.getLast?_eq_some_getLast hne] at hW; exact Option.some.inj hW
    have hl : l = l.dropLast ++ [87] := by conv => lhs; rw [← List.dropLast_concat_getLast hne, hlw]
    constructor
    · rintro ⟨_, h1, h2⟩
      have hu := units_dig l.dropLast 87 (by decide) h2 h1
      rw [← hl] at hu
      exact ⟨two_bytes l [87] hu (by simp), [87], hu, .inr rfl⟩
    · rintro ⟨h2, us, hu, h⟩
      have hm : (87 : UInt8) ∈ us := units_mem l false us hu 87 (by rw [hl]; simp) (by decide)
      rcases h with h | rfl
      · exact absurd hm (daily_mem h).1
      · obtain ⟨g, r, e, hg, hr, hgn⟩ := units_cons l 87 [] hu
        have hrn := units_nil r hr
        subst hrn
        have : l.dropLast = g := by rw [e]; simp
        rw [this]
        exact ⟨hne, hgn, hg⟩
  · rw [if_neg hW]
    constructor
    · rintro ⟨hne, h⟩
      have h0 := h 0 (by simp)
      simp only [List.getD_cons_zero] at h0
      obtain ⟨us, hu, hor⟩ := (day_part l hs).1 h0.2.2
      rcases hor with rfl | hd
      · exact absurd (units_nil l hu) hne
      · exact ⟨two_bytes l us hu (daily_mem hd).2.2, us, hu, .inl hd⟩
    · rintro ⟨h2, us, hu, h⟩
      have hne : l ≠ [] := by intro e; subst e; simp at h2
      refine ⟨hne, fun n hn => ?_⟩
      simp at hn
      subst hn
      simp only [List.getD_cons_zero]
      rcases h with h | rfl
      · exact ⟨fun k => absurd rfl k, by omega, (day_part l hs).2 ⟨us, hu, .inr h⟩⟩
      · exfalso
        obtain ⟨g, r, e, hg, hr, hgn⟩ := units_cons l 87 [] hu
        have hrn := units_nil r hr
        subst hrn
        apply hW
        rw [e]; simp

/-- With T. -/
theorem dur_both (a b : List UInt8) (hT : (84 : UInt8) ∉ a) (hs : skipF 89 77 68 0 (80 :: a) = false) (hs2 : skipF 72 77 83 0 (84 :: b) = false) :
    durOk (80 :: (a ++ 84 :: b)) ↔ ∃ us ut, unitsF false a = some us ∧ unitsF false b = some ut ∧ hourlyL ut ∧ (us = [] ∨ dailyL us) := by
  unfold durOk
  simp only [List.head?_cons, List.drop_succ_cons, List.drop_zero, true_and]
  rw [splitL_some hT]
  by_cases hW : (a ++ 84 :: b).getLast? = some 87
  · rw [if_pos hW]
    have hbn : b ≠ [] := by intro e; subst e; simp at hW
    have hb87 : (87 : UInt8) ∈ b := by
      have : (a ++ 84 :: b).getLast? = b.getLast? := by
        have e : ((84 : UInt8) :: b).getLast? = b.getLast? := by
          cases b with
          | nil => exact absurd rfl hbn
          | cons x b => rfl
        rw [List.getLast?_append, e, List.getLast?_eq_some_getLast hbn]; rfl
      rw [this] at hW
      exact List.mem_of_getLast? hW
    constructor
    · rintro ⟨_, _, h⟩
      exfalso
      have : (84 : UInt8) ∈ (a ++ 84 :: b).dropLast := by
        rw [List.dropLast_append_of_ne_nil (by simp)]
        cases b with
        | nil => exact absurd rfl hbn
        | cons x b => simp
      have := h 84 this
      exact absurd this (by decide)
    · rintro ⟨us, ut, _, hu, hh, _⟩
      exact absurd (units_mem b false ut hu 87 hb87 (by decide)) (hourly_mem hh).1
  · rw [if_neg hW]
    by_cases hTb : (84 : UInt8) ∈ b
    · have h2 : 2 ≤ (splitL 84 b).length := by
        have hj := join_split 84 b
        have hne := splitL_ne 84 b
        have hf := split_free 84 b
        match hg : splitL 84 b, hne with
        | [g], _ =>
          exfalso
          rw [hg] at hj hf
          simp only [joinL] at hj
          subst hj
          exact hf g (by simp) hTb
        | _ :: _ :: _, _ => simp
      constructor
      · rintro ⟨_, h⟩
        have := h 2 (by simp; omega)
        exact absurd this.2.1 (by omega)
      · rintro ⟨us, ut, _, hu, hh, _⟩
        exact absurd (units_mem b false ut hu 84 hTb (by decide)) (hourly_mem hh).2.1
    · rw [splitL_none hTb]
      constructor
      · rintro ⟨_, h⟩
        have h0 := h 0 (by simp)
        have h1 := h 1 (by simp)
        simp only [List.getD_cons_zero, List.getD_cons_succ] at h0 h1
        obtain ⟨us, hu, ho⟩ := (day_part a hs).1 h0.2.2
        obtain ⟨ut, hut, hot⟩ := (hour_part b hs2).1 h1.2.2
        refine ⟨us, ut, hu, hut, ?_, ho⟩
        rcases hot with rfl | hot
        · exact absurd (units_nil b hut) (h1.1 (by omega))
        · exact hot
      · rintro ⟨us, ut, hu, hut, hh, ho⟩
        refine ⟨by simp, fun n hn => ?_⟩
        simp at hn
        rcases (by omega : n = 0 ∨ n = 1) with rfl | rfl
        · simp only [List.getD_cons_zero]
          exact ⟨fun k => absurd rfl k, by omega, (day_part a hs).2 ⟨us, hu, ho⟩⟩
        · simp only [List.getD_cons_succ, List.getD_cons_zero]
          refine ⟨fun _ e => ?_, by omega, (hour_part b hs2).2 ⟨ut, hut, .inr hh⟩⟩
          subst e
          simp [unitsF] at hut
          exact (hourly_mem hh).2.2 hut

theorem dailyS (s : ByteArray) : ∃ b, spec_jDaily.f s = some b ∧ (b = true ↔ dailyL (bs s)) := by
  unfold spec_jDaily.f dailyL
  rw [ByteArray.toList_eq, bs_data]
  repeat' split
  all_goals first | exact ⟨true, rfl, by simp_all⟩ | exact ⟨false, rfl, by simp_all⟩
theorem hourlyS (s : ByteArray) : ∃ b, spec_jHourly.f s = some b ∧ (b = true ↔ hourlyL (bs s)) := by
  unfold spec_jHourly.f hourlyL
  rw [ByteArray.toList_eq, bs_data]
  repeat' split
  all_goals first | exact ⟨true, rfl, by simp_all⟩ | exact ⟨false, rfl, by simp_all⟩

/-- From the place of T on. -/
theorem fromT (s : ByteArray) (hs : s.size ≤ 2147483647) (p : Nat) (h1 : 1 ≤ p) (hp : p ≤ s.size) :
    ∃ b, Ev (fun k => spec_JDuration.j2 k s p) b ∧ (b = true ↔ ∃ us, unitsF false (((bs s).take p).drop 1) = some us ∧
      if p = s.size then dailyL us ∨ us = [87] else ∃ ut, unitsF false ((bs s).drop (p + 1)) = some ut ∧ hourlyL ut ∧ (us = [] ∨ dailyL us)) := by
  have hl := bs_len s
  obtain ⟨⟨u, ok⟩, ⟨K, hK⟩, e1, e2⟩ := unitsS (s.extract 1 p) (by rw [ByteArray.size_extract]; omega)
  rw [bs_extract] at e1 e2
  simp only at hK e1 e2
  cases ok with
  | false =>
    have e2 := e2.1 rfl
    refine ⟨false, ev_succ K fun k hk => ?_, by rw [e2]; simp⟩
    simp only [spec_JDuration.j2, Int.toNat_natCast, hK k hk, Option.bind_some, Bool.false_eq_true, if_false]
    rw [if_pos (by omega), if_pos (by omega)]
  | true =>
    have e1 := e1.1 rfl
    rw [e1]
    obtain ⟨dd, hdd, ed⟩ := dailyS u
    by_cases hend : p = s.size
    · simp only [if_pos hend]
      cases dd with
      | true =>
        refine ⟨true, ev_succ K fun k hk => ?_, ?_⟩
        · simp only [spec_JDuration.j2, Int.toNat_natCast, hK k hk, Option.bind_some, hdd, if_true]
          rw [if_pos (by omega), if_pos (by omega), if_pos (by omega)]
        · simp [ed.1 rfl]
      | false =>
        refine ⟨(u.toList == ([87] : List UInt8)), ev_succ K fun k hk => ?_, ?_⟩
        · simp only [spec_JDuration.j2, Int.toNat_natCast, hK k hk, Option.bind_some, hdd, if_true, Bool.false_eq_true, if_false]
          rw [if_pos (by omega), if_pos (by omega), if_pos (by omega)]
        · rw [beq_iff_eq, ByteArray.toList_eq, bs_data]
          have : ¬ dailyL (bs u) := fun h => by cases ed.2 h
          simp [this]
    · simp only [if_neg hend]
      have ew' : wrap64 ((p : Int) + 1) = ((p + 1 : Nat) : Int) := by rw [wrap_in (by omega) (by omega)]; omega
      obtain ⟨⟨v, ok2⟩, ⟨K2, hK2⟩, f1, f2⟩ := unitsS (s.extract (p + 1) s.size) (by rw [ByteArray.size_extract]; omega)
      rw [bs_drop] at f1 f2
      simp only at hK2 f1 f2
      cases ok2 with
      | false =>
        have f2 := f2.1 rfl
        refine ⟨false, ev_succ (K + K2) fun k hk => ?_, by rw [f2]; simp⟩
        simp only [spec_JDuration.j2, Int.toNat_natCast, ew', hK k (by omega), hK2 k (by omega), Option.bind_some, if_true, Bool.false_eq_true, if_false]
        rw [if_pos (by omega), if_pos (by omega), if_neg (by omega), if_pos (by omega), if_pos (by omega)]
      | true =>
        have f1 := f1.1 rfl
        rw [f1]
        obtain ⟨hh, hhh, eh⟩ := hourlyS v
        cases hh with
        | false =>
          refine ⟨false, ev_succ (K + K2) fun k hk => ?_, ?_⟩
          · simp only [spec_JDuration.j2, Int.toNat_natCast, ew', hK k (by omega), hK2 k (by omega), Option.bind_some, hhh, if_true, Bool.false_eq_true, if_false]
            rw [if_pos (by omega), if_pos (by omega), if_neg (by omega), if_pos (by omega), if_pos (by omega)]
          · have : ¬ hourlyL (bs v) := fun h => by cases eh.2 h
            simp [this]
        | true =>
          have eh := eh.1 rfl
          by_cases hu : bs u = []
          · have hu2 : u.toList = [] := by rw [ByteArray.toList_eq]; exact hu
            refine ⟨true, ev_succ (K + K2) fun k hk => ?_, by simp [eh, hu]⟩
            simp only [spec_JDuration.j2, Int.toNat_natCast, ew', hK k (by omega), hK2 k (by omega), Option.bind_some, hhh, if_true]
            rw [if_pos (by omega), if_pos (by omega), if_neg (by omega), if_pos (by omega), if_pos (by omega), if_pos hu2]
          · have hu2 : ¬ u.toList = [] := by rw [ByteArray.toList_eq]; exact hu
            refine ⟨dd, ev_succ (K + K2) fun k hk => ?_, by rw [ed]; simp [eh, hu]⟩
            simp only [spec_JDuration.j2, Int.toNat_natCast, ew', hK k (by omega), hK2 k (by omega), Option.bind_some, hhh, hdd, if_true]
            rw [if_pos (by omega), if_pos (by omega), if_neg (by omega), if_pos (by omega), if_pos (by omega), if_neg hu2]

/-- Where the first T stands: what the texts ahead of it and behind it are. -/
structure TAt (l : List UInt8) (p : Nat) : Prop where
  free : Free 84 l 0 p
  le : p ≤ l.length
  at_ : ∀ h : p < l.length, l[p] = 84

theorem skipsLoop (s : ByteArray) (hs : s.size ≤ 2147483647) (d : Nat) : ∀ i : Nat, i ≤ s.size → s.size - i = d → Free 84 (bs s) 0 i →
    ∃ o p, Ev (fun k => spec_JSkips.l0 k s i) o ∧ TAt (bs s) p ∧ (o = false → skipF 89 77 68 0 ((bs s).take p) = false ∧ skipF 72 77 83 0 ((bs s).drop p) = false) := by
  have hl := bs_len s
  have fin : ∀ p : Nat, p ≤ s.size → TAt (bs s) p → ∀ X : Nat → Option Bool, (∀ k, X (k + 1) = (spec_jSkips.f k (s.extract 0 p) 89 77 68).bind fun t => (if t = true then some true else (spec_jSkips.f k (s.extract p s.size) 72 77 83).bind fun t => some t)) →
      ∃ o p, Ev X o ∧ TAt (bs s) p ∧ (o = false → skipF 89 77 68 0 ((bs s).take p) = false ∧ skipF 72 77 83 0 ((bs s).drop p) = false) := by
    intro p hp ht X hX
    obtain ⟨K1, h1⟩ := skipS (s.extract 0 p) (by rw [ByteArray.size_extract]; omega) 89 77 68
    obtain ⟨K2, h2⟩ := skipS (s.extract p s.size) (by rw [ByteArray.size_extract]; omega) 72 77 83
    rw [bs_take] at h1
    rw [bs_drop] at h2
    simp only [show (((89 : UInt8).toNat : Nat) : Int) = 89 from rfl, show (((77 : UInt8).toNat : Nat) : Int) = 77 from rfl, show (((68 : UInt8).toNat : Nat) : Int) = 68 from rfl] at h1
    simp only [show (((72 : UInt8).toNat : Nat) : Int) = 72 from rfl, show (((77 : UInt8).toNat : Nat) : Int) = 77 from rfl, show (((83 : UInt8).toNat : Nat) : Int) = 83 from rfl] at h2
    cases hq : skipF 89 77 68 0 ((bs s).take p) with
    | true =>
      rw [hq] at h1
      exact ⟨true, p, ev_succ K1 fun k hk => by rw [hX, h1 k hk]; rfl, ht, fun h => by cases h⟩
    | false =>
      rw [hq] at h1
      refine ⟨skipF 72 77 83 0 ((bs s).drop p), p, ev_succ (K1 + K2) fun k hk => by rw [hX, h1 k (by omega), h2 k (by omega)]; rfl, ht, fun h => ⟨hq, h⟩⟩
  induction d with
  | zero =>
    intro i hi hd hf
    refine fin i hi ⟨hf, by omega, fun h => by omega⟩ _ fun k => ?_
    simp only [spec_JSkips.l0, Int.toNat_natCast]
    rw [if_neg (by omega), if_pos (by omega), if_pos (by omega)]
  | succ d ih =>
    intro i hi hd hf
    have hlt : i < (bs s).length := by omega
    have ew' : wrap64 ((i : Int) + 1) = ((i + 1 : Nat) : Int) := by rw [wrap_in (by omega) (by omega)]; omega
    have hbt := bt_nat s i hlt
    by_cases h84 : (bs s)[i] = 84
    · refine fin i hi ⟨hf, by omega, fun _ => h84⟩ _ fun k => ?_
      simp only [spec_JSkips.l0, Int.toNat_natCast, hbt]
      rw [if_pos (by omega), if_pos (by omega), if_pos (by rw [h84]; rfl), if_pos (by omega)]
    · obtain ⟨o, p, ⟨K, hK⟩, ht, ho⟩ := ih (i + 1) (by omega) (by omega) (hf.step hlt h84)
      refine ⟨o, p, ev_succ K fun k hk => ?_, ht, ho⟩
      simp only [spec_JSkips.l0, hbt, ew']
      rw [if_pos (by omega), if_pos (by omega), if_neg (show ¬ ((((bs s)[i]).toNat : Int) = 84) from fun e => h84 ((eq_toNat _ 84).1 e))]
      exact hK k hk

theorem durLoop (s : ByteArray) (hs : s.size ≤ 2147483647) (d : Nat) : ∀ i : Nat, 1 ≤ i → i ≤ s.size → s.size - i = d → Free 84 (bs s) 1 i →
    ∃ b p, Ev (fun k => spec_JDuration.l0 k s i) b ∧ 1 ≤ p ∧ p ≤ s.size ∧ Free 84 (bs s) 1 p ∧ (∀ h : p < (bs s).length, (bs s)[p] = 84) ∧
      (b = true ↔ ∃ us, unitsF false (((bs s).take p).drop 1) = some us ∧
      if p = s.size then dailyL us ∨ us = [87] else ∃ ut, unitsF false ((bs s).drop (p + 1)) = some ut ∧ hourlyL ut ∧ (us = [] ∨ dailyL us)) := by
  have hl := bs_len s
  induction d with
  | zero =>
    intro i h1 hi hd hf
    obtain ⟨b, ⟨K, hK⟩, hb⟩ := fromT s hs i h1 hi
    refine ⟨b, i, ev_succ K fun k hk => ?_, h1, hi, hf, fun h => by omega, hb⟩
    simp only [spec_JDuration.l0]
    rw [if_neg (by omega)]
    exact hK k hk
  | succ d ih =>
    intro i h1 hi hd hf
    have hlt : i < (bs s).length := by omega
    have ew' : wrap64 ((i : Int) + 1) = ((i + 1 : Nat) : Int) := by rw [wrap_in (by omega) (by omega)]; omega
    have hbt := bt_nat s i hlt
    by_cases h84 : (bs s)[i] = 84
    · obtain ⟨b, ⟨K, hK⟩, hb⟩ := fromT s hs i h1 hi
      refine ⟨b, i, ev_succ K fun k hk => ?_, h1, hi, hf, fun _ => h84, hb⟩
      simp only [spec_JDuration.l0, hbt]
      rw [if_pos (by omega), if_pos (by omega), if_pos (by rw [h84]; rfl)]
      exact hK k hk
    · obtain ⟨b, p, ⟨K, hK⟩, r1, r2, r3, r4, r5⟩ := ih (i + 1) (by omega) (by omega) (by omega) (hf.step hlt h84)
      refine ⟨b, p, ev_succ K fun k hk => ?_, r1, r2, r3, r4, r5⟩
      simp only [spec_JDuration.l0, hbt, ew']
      rw [if_pos (by omega), if_pos (by omega), if_neg (show ¬ ((((bs s)[i]).toNat : Int) = 84) from fun e => h84 ((eq_toNat _ 84).1 e))]
      exact hK k hk

/-- The grammar is what the code takes. -/
theorem durS (s : ByteArray) (hs : s.size ≤ 2147483647) : ∃ o b, Ev (fun k => spec_JSkips.f k s) o ∧ Ev (fun k => spec_JDuration.f k s) b ∧ (o = false → (b = true ↔ durOk (bs s))) := by
  have hl := bs_len s
  obtain ⟨o, q, ho, ht, hsk⟩ := skipsLoop s hs s.size 0 (Nat.zero_le _) rfl (Free.self _ _ _)
  by_cases hhead : (bs s).head? = some 80
  · -- it begins with P
    obtain ⟨l, e⟩ : ∃ l, bs s = 80 :: l := by
      cases hb : bs s with
      | nil => rw [hb] at hhead; simp at hhead
      | cons a l => rw [hb] at hhead; simp at hhead; exact ⟨l, by rw [hhead]⟩
    have hlen : s.size = l.length + 1 := by rw [← hl, e]; rfl
    -- the first T is not the first byte
    have hq1 : 1 ≤ q := by
      rcases Nat.eq_zero_or_pos q with h | h
      · subst h
        have := ht.at_ (by rw [hl]; omega)
        simp only [e, List.getElem_cons_zero] at this
        exact absurd this (by decide)
      · exact h
    have hqle : q ≤ s.size := by rw [← hl]; exact ht.le
    have heq : o = false → (durOk (bs s) ↔ 3 ≤ s.size ∧ ∃ us, unitsF false (((bs s).take q).drop 1) = some us ∧
      if q = s.size then dailyL us ∨ us = [87] else ∃ ut, unitsF false ((bs s).drop (q + 1)) = some ut ∧ hourlyL ut ∧ (us = [] ∨ dailyL us)) := by
      intro hof
      obtain ⟨k1, k2⟩ := hsk hof
      by_cases hend : q = s.size
      · simp only [if_pos hend]
        have hf := ht.free
        have hnT : (84 : UInt8) ∉ l := by
          intro hm
          obtain ⟨j, hj, ej⟩ := List.getElem_of_mem hm
          have := hf (j + 1) (by rw [hl]; omega) (by omega) (by omega)
          simp only [e, List.getElem_cons_succ] at this
          exact this ej
        have e1 : (bs s).take q = 80 :: l := by rw [e, List.take_of_length_le (by simp; omega)]
        rw [e1] at k1 ⊢
        rw [e, dur_day l hnT k1]
        simp only [List.drop_succ_cons, List.drop_zero]
        constructor
        · rintro ⟨h2, h⟩; exact ⟨by omega, h⟩
        · rintro ⟨h2, h⟩; exact ⟨by omega, h⟩
      · simp only [if_neg hend]
        have hlt : q < (bs s).length := by omega
        have h84 := ht.at_ hlt
        have hsp : bs s = (bs s).take q ++ 84 :: (bs s).drop (q + 1) := by
          conv => lhs; rw [← List.take_append_drop q (bs s), List.drop_eq_getElem_cons hlt, h84]
        have ha : (bs s).take q = 80 :: ((bs s).take q).drop 1 := by
          rw [e]
          obtain ⟨q', rfl⟩ : ∃ m, q = m + 1 := ⟨q - 1, by omega⟩
          rfl
        have hnT : (84 : UInt8) ∉ ((bs s).take q).drop 1 := by
          have hm := ht.free.mem
          rw [List.drop_zero] at hm
          exact fun h => hm (List.mem_of_mem_drop h)
        have hd : (bs s).drop q = 84 :: (bs s).drop (q + 1) := by rw [List.drop_eq_getElem_cons hlt, h84]
        rw [ha] at k1
        rw [hd] at k2
        have hfull : bs s = 80 :: (((bs s).take q).drop 1 ++ 84 :: (bs s).drop (q + 1)) := by
          conv => lhs; rw [hsp, ha]
          rfl
        have hdb := dur_both (((bs s).take q).drop 1) ((bs s).drop (q + 1)) hnT k1 k2
        rw [← hfull] at hdb
        rw [hdb]
        constructor
        · rintro ⟨us, ut, h1, h2, h3, h4⟩
          have := two_bytes _ ut h2 (hourly_mem h3).2.2
          rw [List.length_drop] at this
          exact ⟨by omega, us, h1, ut, h2, h3, h4⟩
        · rintro ⟨_, us, h1, ut, h2, h3, h4⟩
          exact ⟨us, ut, h1, h2, h3, h4⟩
    by_cases h3 : (s.size : Int) < 3
    · refine ⟨o, false, ho, ?_, ?_⟩
      · refine ev_from 1 fun k hk => ?_
        obtain ⟨k, rfl⟩ : ∃ m, k = m + 1 := ⟨k - 1, by omega⟩
        unfold spec_JDuration.f
        rw [if_pos h3]
        simp only [spec_JDuration.j0, if_true]
      · intro hof
        rw [heq hof]
        simp; intro h; omega
    · obtain ⟨b, p, ⟨K, hK⟩, r1, r2, r3, r4, r5⟩ := durLoop s hs (s.size - 1) 1 (Nat.le_refl _) (by omega) rfl (Free.self _ _ _)
      have hpq : p = q := by
        rcases Nat.lt_trichotomy p q with h | h | h
        · exfalso
          have hpl : p < (bs s).length := by omega
          exact ht.free p hpl (by omega) h (r4 hpl)
        · exact h
        · exfalso
          have hql : q < (bs s).length := by omega
          exact r3 q hql hq1 h (ht.at_ hql)
      subst hpq
      have hb0 := bt_nat s 0 (by omega)
      have q80 : ((bt s 0) != 80) = false := by
        rw [show (0 : Int) = ((0 : Nat) : Int) from rfl, hb0]
        simp only [e, List.getElem_cons_zero]
        rfl
      refine ⟨o, b, ho, ev_from (K + 1) fun k hk => ?_, fun hof => ?_⟩
      · obtain ⟨k, rfl⟩ : ∃ m, k = m + 1 := ⟨k - 1, by omega⟩
        unfold spec_JDuration.f
        rw [if_neg h3, if_pos (by omega), q80]
        simp only [spec_JDuration.j0, Bool.false_eq_true, if_false]
        exact hK k (by omega)
      · rw [heq hof, r5]
        exact ⟨fun h => ⟨by omega, h⟩, fun h => h.2⟩
  · refine ⟨o, false, ho, ?_, fun _ => ?_⟩
    · refine ev_from 1 fun k hk => ?_
      obtain ⟨k, rfl⟩ : ∃ m, k = m + 1 := ⟨k - 1, by omega⟩
      unfold spec_JDuration.f
      by_cases h3 : (s.size : Int) < 3
      · rw [if_pos h3]; simp only [spec_JDuration.j0, if_true]
      · have hpos : 0 < (bs s).length := by omega
        have hb0 := bt_nat s 0 hpos
        have q80 : ((bt s 0) != 80) = true := by
          rw [show (0 : Int) = ((0 : Nat) : Int) from rfl, hb0, bne_iff_ne]
          intro e
          apply hhead
          rw [List.head?_eq_getElem?, List.getElem?_eq_getElem hpos, (eq_toNat _ 80).1 e]
        rw [if_neg h3, if_pos (by omega), q80]
        simp only [spec_JDuration.j0, if_true]
    · simp only [Bool.false_eq_true, false_iff]
      exact fun h => hhead h.1

theorem bool_of_iff {b c : Bool} {p q : Prop} (h1 : b = true ↔ p) (h2 : c = true ↔ q) (h : p ↔ q) : b = c := by
  rw [Bool.eq_iff_iff, h1, h2, h]

set_option maxHeartbeats 1000000 in
theorem walk (s : ByteArray) (w : World) (_hs : s.size ≤ 140737488351232) :
    Calls Try.prog 14 #[.string s] w fun e w' => e = .returned (.bool true) ∧ Below w.heap.size w w' := by
  by_cases hbig : s.size ≤ 2147483647
  · obtain ⟨o, c, ⟨K0, hK0⟩, ⟨K, hK⟩, hc⟩ := durS s hbig
    have HK := Lib.hid (hK K (Nat.le_refl _))
    have HK0 := Lib.hid (hK0 K0 (Nat.le_refl _))
    have HC := Lib.hid hc
    clear hK hc hK0
    go_enter Try.func14, Try.ntmps14
    go_wp2_with fail
    refine (PFnJDuration.spec_JSkips.calls K0 s o _ HK0.out).mono ?_
    rintro e w2 ⟨rfl, hd2⟩
    have hbr : Below w.heap.size w w2 := by first | exact hd2.below | exact hd2
    cases o with
    | true =>
      go_wp2_with fail
      go_ret
      exact ⟨rfl, hbr⟩
    | false =>
      go_wp2_with fail
      refine (implDur s _ hbig).mono ?_
      rintro e w1 ⟨⟨b, rfl, hb1⟩, hb⟩
      have hbr := fin0 hbr hbr.size hb
      have hbc : b = c := bool_of_iff hb1 (HC.out (by simp)) Iff.rfl
      subst hbc
      have hself : (b == b) = true := by simp
      clear hb1
      go_wp2_with fail
      refine (PFnJDuration.spec_JDuration.calls K s b _ HK.out).mono ?_
      rintro e w3 ⟨rfl, hd3⟩
      have hbr3 : Below w.heap.size w w3 := fin0 hbr hbr.size (by first | exact hd3.below | exact hd3)
      go_wp2_with fail
      go_ret
      exact ⟨by simp, hbr3⟩
  · go_enter Try.func14, Try.ntmps14
    go_wp2_with fail
    go_ret
    exact ⟨rfl, Below.refl _ _⟩
end Go.Proofs.Ytdjmjgdafghdgaa.LDur
