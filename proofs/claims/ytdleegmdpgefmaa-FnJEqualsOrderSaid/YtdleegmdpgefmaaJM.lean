/- Members of objects: which ones count, and what they are. -/
import Derived.Test.YtdleegmdpgefmaaJR
import Derived.Test.YtdleegmdpgefmaaPJx
namespace Go.Proofs.Ytdleegmdpgefmaa.J
open Go.RowKit Go.Proofs.YtdleegmdpgefmaaW.PrintWords Go.Proofs.YtdleegmdpgefmaaW.PrintLast Go.Proofs.YtdleegmdpgefmaaW.PrintMore Go.Proofs.Ytdleegmdpgefmaa.PJ Go.Proofs.Ytdleegmdpgefmaa.K Go.Maps
set_option linter.unusedVariables false
set_option linter.unusedSimpArgs false

/-- The place of the last such name. -/
def Last (names : List ByteArray) (s : ByteArray) (j : Nat) : Prop := names[j]? = some s ∧ ∀ i, j < i → names[i]? ≠ some s
theorem Last.lt {names : List ByteArray} {s : ByteArray} {j : Nat} (h : Last names s j) : j < names.length := (List.getElem?_eq_some_iff.1 h.1).1
theorem last_or (names : List ByteArray) (s : ByteArray) : (∃ j, Last names s j) ∨ ∀ i : Nat, names[i]? ≠ some s := by
  have key : ∀ n, n ≤ names.length → (∃ j, j < n ∧ names[j]? = some s ∧ ∀ i, j < i → i < n → names[i]? ≠ some s) ∨ ∀ i, i < n → names[i]? ≠ some s := by
    intro n
    induction n with
    | zero => intro _; exact .inr fun i h => by omega
    | succ n ih =>
      intro hn
      by_cases h : names[n]? = some s
      · exact .inl ⟨n, by omega, h, fun i h1 h2 => by omega⟩
      · rcases ih (by omega) with ⟨j, h1, h2, h3⟩ | h3
        · refine .inl ⟨j, by omega, h2, fun i h4 h5 => ?_⟩
          by_cases e : i = n
          · subst e; exact h
          · exact h3 i h4 (by omega)
        · refine .inr fun i h4 => ?_
          by_cases e : i = n
          · subst e; exact h
          · exact h3 i (by omega)
  rcases key names.length (Nat.le_refl _) with ⟨j, h1, h2, h3⟩ | h3
  · refine .inl ⟨j, h2, fun i h4 => ?_⟩
    by_cases hi : i < names.length
    · exact h3 i h4 hi
    · rw [List.getElem?_eq_none (by omega)]; simp
  · refine .inr fun i => ?_
    by_cases hi : i < names.length
    · exact h3 i hi
    · rw [List.getElem?_eq_none (by omega)]; simp
theorem Last.uniq {names : List ByteArray} {s : ByteArray} {i j : Nat} (h : Last names s i) (k : Last names s j) : i = j := by
  rcases Nat.lt_trichotomy i j with h1 | h1 | h1
  · exact absurd k.1 (h.2 j h1)
  · exact h1
  · exact absurd h.1 (k.2 i h1)

/-! ### the object of some members -/
theorem key_eq {a b : ByteArray} : (Lit.string (bs a) : Lit) = .string (bs b) ↔ a = b := by
  constructor
  · intro h; injection h with h; exact bs_ext h
  · intro h; rw [h]
/-- What the members' object says, up to some place. -/
theorem objD_says (names : List ByteArray) (ds : List D0) (hl : names.length = ds.length) (n : Nat) (hn : n ≤ names.length) (s : ByteArray) :
    ((∃ j, ∃ hj : j < ds.length, j < n ∧ names[j]? = some s ∧ (∀ i, j < i → i < n → names[i]? ≠ some s) ∧ Maps.has (objD ((names.zip ds).take n)) (.string (bs s)) = true ∧ (objD ((names.zip ds).take n)).atKey (.string (bs s)) .nil = ds[j]) ∨ ((∀ i, i < n → names[i]? ≠ some s) ∧ Maps.has (objD ((names.zip ds).take n)) (.string (bs s)) = false)) := by
  induction n with
  | zero => right; exact ⟨fun i h => by omega, rfl⟩
  | succ n ih =>
    have h1 : n < (names.zip ds).length := by simp; omega
    have hz : (names.zip ds)[n] = (names[n]'(by omega), ds[n]'(by omega)) := List.getElem_zip
    rw [List.take_succ_eq_append_getElem h1, objD_snoc, hz]
    by_cases hs : names[n]'(by omega) = s
    · left
      refine ⟨n, by omega, by omega, by rw [List.getElem?_eq_getElem (by omega), hs], fun i h2 h3 => by omega, ?_, ?_⟩
      · unfold putM; rw [hs]; exact has_put_same (objD_canon _).isMap (key_lit _) _
      · unfold putM; rw [hs]; exact atKey_put_same (objD_canon _).isMap (key_lit _) _ _
    · have hne : (Lit.string (bs s) : Lit) ≠ .string (bs (names[n]'(by omega))) := fun e => hs ((key_eq.1 e).symm)
      have hn' : names[n]? ≠ some s := by rw [List.getElem?_eq_getElem (by omega)]; simpa using hs
      rcases ih (by omega) with ⟨j, hj, a1, a2, a3, a4, a5⟩ | ⟨a1, a2⟩
      · left
        refine ⟨j, hj, by omega, a2, fun i h2 h3 => ?_, ?_, ?_⟩
        · by_cases e : i = n
          · subst e; exact hn'
          · exact a3 i h2 (by omega)
        · unfold putM; rw [has_put_other hne]; exact a4
        · unfold putM; rw [atKey_put_other hne]; exact a5
      · right
        refine ⟨fun i h2 => ?_, ?_⟩
        · by_cases e : i = n
          · subst e; exact hn'
          · exact a1 i (by omega)
        · unfold putM; rw [has_put_other hne]; exact a2
theorem objD_last (names : List ByteArray) (ds : List D0) (hl : names.length = ds.length) (s : ByteArray) (j : Nat) (h : Last names s j) : Maps.has (objD (names.zip ds)) (.string (bs s)) = true ∧ (objD (names.zip ds)).atKey (.string (bs s)) .nil = ds[j]'(by have := h.lt; omega) := by
  have := objD_says names ds hl names.length (Nat.le_refl _) s
  rw [List.take_of_length_le (by simp; omega)] at this
  rcases this with ⟨i, hi, a1, a2, a3, a4, a5⟩ | ⟨a1, a2⟩
  · have e : i = j := Last.uniq (names := names) (s := s) ⟨a2, fun k hk => by
      by_cases hkl : k < names.length
      · exact a3 k hk hkl
      · rw [List.getElem?_eq_none (by omega)]; simp⟩ h
    subst e
    exact ⟨a4, a5⟩
  · exact absurd h.1 (a1 j h.lt)
theorem objD_none (names : List ByteArray) (ds : List D0) (hl : names.length = ds.length) (s : ByteArray) (h : ∀ i : Nat, names[i]? ≠ some s) : Maps.has (objD (names.zip ds)) (.string (bs s)) = false := by
  have := objD_says names ds hl names.length (Nat.le_refl _) s
  rw [List.take_of_length_le (by simp; omega)] at this
  rcases this with ⟨i, hi, a1, a2, _⟩ | ⟨_, a2⟩
  · exact absurd a2 (h i)
  · exact a2
/-- All keys are names. -/
theorem objD_key (ms : List (ByteArray × D0)) (k : Lit) (h : Maps.has (objD ms) k = true) : ∃ s : ByteArray, k = .string (bs s) := by
  obtain ⟨es, e, _, hs⟩ := objD_canon ms
  rw [e] at h
  obtain ⟨p, hp, hk⟩ := List.any_eq_true.1 h
  obtain ⟨t, ht⟩ := hs p hp
  refine ⟨⟨t.toArray⟩, ?_⟩
  rw [← WideAt.sameKey_eq hk, ht, bs_mk]

/-! ### spec.JMember, spec.JMembers -/
/-- The place of a member, as the specification tells it. -/
def MemI (names : List ByteArray) (s : ByteArray) (r : Int) : Prop := (∃ j, Last names s j ∧ r = j) ∨ ((∀ i : Nat, names[i]? ≠ some s) ∧ r = -1)
theorem memI (names : List ByteArray) (s : ByteArray) : ∃ r, MemI names s r := by
  rcases last_or names s with ⟨j, h⟩ | h
  · exact ⟨j, .inl ⟨j, h, rfl⟩⟩
  · exact ⟨-1, .inr ⟨h, rfl⟩⟩
theorem rdS (l : List ByteArray) (i : Nat) (hi : i < l.length) : rdOf ByteArray.empty l (i : Int) = l[i] := by
  unfold rdOf
  rw [Int.toNat_natCast, List.getD_eq_getElem?_getD, List.getElem?_eq_getElem hi]; rfl
theorem memberE (x : JV) (hl : x.f4.length ≤ 140737488351232) (s : ByteArray) (r : Int) (hr : MemI x.f4 s r) : Ev (fun k => spec_JMember.f k x.f0 x.f1 x.f2 x.f3 x.f4 x.f5 s) r := by
  have loop : ∀ n : Nat, n ≤ x.f4.length → (∀ i, n ≤ i → x.f4[i]? ≠ some s) → Ev (fun k => spec_JMember.l0 k s ((n : Int) - 1) x.f0 x.f1 x.f2 x.f3 x.f4 x.f5) r := by
    intro n
    induction n with
    | zero =>
      intro _ h
      rcases hr with ⟨j, hj, _⟩ | ⟨_, rfl⟩
      · exact absurd hj.1 (h j (by omega))
      · refine ev_succ 0 fun k hk => ?_
        simp only [spec_JMember.l0]
        rw [if_neg (by omega)]
    | succ n ih =>
      intro hn h
      have e0 : ((n + 1 : Nat) : Int) - 1 = (n : Int) := by omega
      have e1 : wrap64 ((n : Int) - 1) = (n : Int) - 1 := wrap_in (by omega) (by omega)
      by_cases hs : x.f4[n]'(by omega) = s
      · have hL : Last x.f4 s n := ⟨by rw [List.getElem?_eq_getElem (by omega), hs], fun i hi => h i (by omega)⟩
        have : r = n := by
          rcases hr with ⟨j, hj, rfl⟩ | ⟨h', _⟩
          · rw [hj.uniq hL]
          · exact absurd hL.1 (h' n)
        refine ev_succ 0 fun k hk => ?_
        simp only [spec_JMember.l0, e0, rdS x.f4 n (by omega)]
        rw [if_pos (by omega), if_pos (by omega), if_pos (by omega), if_pos (by rw [hs]), this]
      · obtain ⟨K, hK⟩ := ih (by omega) fun i hi => by
          by_cases e : i = n
          · subst e; rw [List.getElem?_eq_getElem (by omega)]; simpa using hs
          · exact h i (by omega)
        refine ev_succ K fun k hk => ?_
        simp only [spec_JMember.l0, e0, e1, rdS x.f4 n (by omega)]
        rw [if_pos (by omega), if_pos (by omega), if_pos (by omega), if_neg (fun e => hs (bs_ext (toList_inj.1 e)))]
        exact hK k hk
  have e : wrap64 ((x.f4.length : Int) - 1) = (x.f4.length : Int) - 1 := wrap_in (by omega) (by omega)
  obtain ⟨K, hK⟩ := loop x.f4.length (Nat.le_refl _) fun i hi => by rw [List.getElem?_eq_none hi]; simp
  refine ⟨K, fun k hk => ?_⟩
  show spec_JMember.f k x.f0 x.f1 x.f2 x.f3 x.f4 x.f5 s = some r
  unfold spec_JMember.f
  rw [e]
  exact hK k hk
/-- The places of the members that count, below some place. -/
noncomputable def memL (names : List ByteArray) : Nat → List Int
  | 0 => []
  | n + 1 => memL names n ++ (if @decide (∃ s, Last names s n) (Classical.propDecidable _) = true then [(n : Int)] else [])
theorem memL_len (names : List ByteArray) (n : Nat) : (memL names n).length ≤ n := by
  induction n with
  | zero => simp [memL]
  | succ n ih => simp only [memL, List.length_append]; split <;> simp <;> omega
theorem mem_memL (names : List ByteArray) (n : Nat) (x : Int) : x ∈ memL names n ↔ ∃ j : Nat, x = j ∧ j < n ∧ ∃ s, Last names s j := by
  induction n with
  | zero => simp [memL]
  | succ n ih =>
    simp only [memL, List.mem_append, ih]
    by_cases h : ∃ s, Last names s n
    · rw [if_pos (@decide_eq_true _ (Classical.propDecidable _) h)]
      simp only [List.mem_singleton]
      constructor
      · rintro (⟨j, rfl, h1, h2⟩ | rfl)
        · exact ⟨j, rfl, by omega, h2⟩
        · exact ⟨n, rfl, by omega, h⟩
      · rintro ⟨j, rfl, h1, h2⟩
        by_cases e : j = n
        · right; rw [e]
        · left; exact ⟨j, rfl, by omega, h2⟩
    · rw [if_neg (by rw [@decide_eq_true_iff _ (Classical.propDecidable _)]; exact h)]
      simp only [List.not_mem_nil, or_false]
      constructor
      · rintro ⟨j, rfl, h1, h2⟩; exact ⟨j, rfl, by omega, h2⟩
      · rintro ⟨j, rfl, h1, h2⟩
        by_cases e : j = n
        · subst e; exact absurd h2 h
        · exact ⟨j, rfl, by omega, h2⟩
theorem membersE (x : JV) (hl : x.f4.length * 16 ≤ 140737488351232) : Ev (fun k => spec_JMembers.f k x.f0 x.f1 x.f2 x.f3 x.f4 x.f5) (memL x.f4 x.f4.length) := by
  have loop : ∀ d n : Nat, n ≤ x.f4.length → x.f4.length - n = d → Ev (fun k => spec_JMembers.l0 k (memL x.f4 n) (n : Int) x.f0 x.f1 x.f2 x.f3 x.f4 x.f5) (memL x.f4 x.f4.length) := by
    intro d
    induction d with
    | zero =>
      intro n hn hd
      obtain rfl : n = x.f4.length := by omega
      refine ev_succ 0 fun k hk => ?_
      simp only [spec_JMembers.l0]
      rw [if_neg (by omega)]
    | succ d ih =>
      intro n hn hd
      have hlt : n < x.f4.length := by omega
      have e1 : wrap64 ((n : Int) + 1) = ((n + 1 : Nat) : Int) := by rw [wrap_in (by omega) (by omega)]; omega
      have hml := memL_len x.f4 n
      obtain ⟨r, hr⟩ := memI x.f4 x.f4[n]
      obtain ⟨K1, hK1⟩ := memberE x (by omega) x.f4[n] r hr
      obtain ⟨K2, hK2⟩ := ih (n + 1) (by omega) (by omega)
      have hcase : (r = (n : Int)) ↔ ∃ s, Last x.f4 s n := by
        constructor
        · intro h
          rcases hr with ⟨j, hj, rfl⟩ | ⟨_, rfl⟩
          · have : j = n := by omega
            subst this; exact ⟨_, hj⟩
          · omega
        · rintro ⟨s, hs⟩
          have es : x.f4[n] = s := by have := hs.1; rw [List.getElem?_eq_getElem hlt] at this; exact Option.some.inj this
          rcases hr with ⟨j, hj, rfl⟩ | ⟨h', _⟩
          · rw [es] at hj; rw [hj.uniq hs]
          · exact absurd (List.getElem?_eq_getElem hlt) (h' n)
      refine ev_succ (max K1 K2) fun k hk => ?_
      simp only [spec_JMembers.l0, rdS x.f4 n hlt, e1]
      rw [if_pos (by omega), if_pos (by omega), show spec_JMember.f k x.f0 x.f1 x.f2 x.f3 x.f4 x.f5 x.f4[n] = some r from hK1 k (by omega)]
      simp only [Option.bind_some]
      have hK2' : spec_JMembers.l0 k (memL x.f4 (n + 1)) ((n + 1 : Nat) : Int) x.f0 x.f1 x.f2 x.f3 x.f4 x.f5 = some (memL x.f4 x.f4.length) := hK2 k (by omega)
      by_cases h : r = (n : Int)
      · rw [if_pos h, if_pos (by omega)]
        rw [memL, if_pos (@decide_eq_true _ (Classical.propDecidable _) (hcase.1 h))] at hK2'
        exact hK2'
      · rw [if_neg h]
        rw [memL, if_neg (by rw [@decide_eq_true_iff _ (Classical.propDecidable _)]; exact fun k => h (hcase.2 k)), List.append_nil] at hK2'
        exact hK2'
  exact loop x.f4.length 0 (by omega) rfl
end Go.Proofs.Ytdleegmdpgefmaa.J
