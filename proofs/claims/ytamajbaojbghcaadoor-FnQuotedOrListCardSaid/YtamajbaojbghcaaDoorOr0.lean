/- Items that are joined by commas and or: plain; what the specification's functions say. -/
import Derived.Test.YtamajbaojbghcaaDoorK
import Derived.Test.YtamajbaojbghcaaDoorPOx1
import Derived.Test.YtamajbaojbghcaaDoorShelf
import Derived.Lib.Hide
namespace Go.Proofs.YtamajbaojbghcaaDoor.Or
open Go.RowKit Go.Proofs.YtamajbaojbghcaaDoorW.PrintWords Go.Proofs.YtamajbaojbghcaaDoorW.PrintLast Go.Proofs.YtamajbaojbghcaaDoorW.PrintMore Go.Proofs.YtamajbaojbghcaaDoor.PO Go.Proofs.YtamajbaojbghcaaDoor.K
set_option linter.unusedVariables false
set_option linter.unusedSimpArgs false
/-- Item number i. -/
def it (l : List ByteArray) (i : Nat) : ByteArray := rdOf ByteArray.empty l (i : Int)
/-- What is written for the first i items of n. -/
def orS (l : List ByteArray) : Nat → ByteArray
  | 0 => ⟨#[]⟩
  | i + 1 => if i = 0 then orS l i ++ it l i else if l.length = 2 then (orS l i ++ ⟨#[32, 111, 114, 32]⟩) ++ it l i else if i + 1 = l.length then (orS l i ++ ⟨#[44, 32, 111, 114, 32]⟩) ++ it l i else (orS l i ++ ⟨#[44, 32]⟩) ++ it l i
theorem it_get {l : List ByteArray} {i : Nat} (h : i < l.length) : it l i = l[i] := by
  unfold it rdOf
  rw [Int.toNat_natCast, List.getD_eq_getElem?_getD, List.getElem?_eq_getElem h]; rfl
theorem it_size {l : List ByteArray} {N : Nat} (h : ∀ s ∈ l, s.size ≤ N) (i : Nat) (hi : i < l.length) : (it l i).size ≤ N := by rw [it_get hi]; exact h _ (List.getElem_mem hi)
theorem orS_size {l : List ByteArray} {N : Nat} (h : ∀ s ∈ l, s.size ≤ N) : ∀ i, i ≤ l.length → (orS l i).size ≤ i * (N + 5)
  | 0, _ => show (0 : Nat) ≤ _ from Nat.zero_le _
  | i + 1, hi => by
    have h1 := orS_size h i (by omega)
    have h2 := it_size h i (by omega)
    have e4 : (⟨#[32, 111, 114, 32]⟩ : ByteArray).size = 4 := rfl
    have e5 : (⟨#[44, 32, 111, 114, 32]⟩ : ByteArray).size = 5 := rfl
    have e2 : (⟨#[44, 32]⟩ : ByteArray).size = 2 := rfl
    rw [orS, Nat.add_mul, Nat.one_mul]
    split
    · rw [ByteArray.size_append]; omega
    · split
      · rw [ByteArray.size_append, ByteArray.size_append]; omega
      · split
        · rw [ByteArray.size_append, ByteArray.size_append]; omega
        · rw [ByteArray.size_append, ByteArray.size_append]; omega
/-- Each between quotes. -/
def quo (s : ByteArray) : ByteArray := ((⟨#[34]⟩ : ByteArray) ++ s) ++ (⟨#[34]⟩ : ByteArray)
theorem quo_size (s : ByteArray) : (quo s).size = s.size + 2 := by
  unfold quo
  rw [ByteArray.size_append, ByteArray.size_append]
  have : (⟨#[34]⟩ : ByteArray).size = 1 := rfl
  omega
theorem zz4E (l : List ByteArray) : ∃ b, Ev (fun k => laws_zzFits4.f k l) b ∧ (b = true → ∀ s ∈ l, s.size ≤ 2147483647) := by
  by_cases hL : (l.length : Int) > 2147483647
  · exact ⟨false, ⟨0, fun k _ => by show laws_zzFits4.f k l = _; rw [laws_zzFits4.f, if_pos hL]⟩, fun h => by cases h⟩
  have loop : ∀ d i : Nat, l.length - i = d → i ≤ l.length → (∀ s ∈ l.take i, s.size ≤ 2147483647) → ∃ b, Ev (fun k => laws_zzFits4.l0 k l (l.length : Int) (i : Int)) b ∧ (b = true → ∀ s ∈ l, s.size ≤ 2147483647) := by
    intro d
    induction d with
    | zero =>
      intro i hd hi hs
      refine ⟨true, ⟨1, fun k hk => ?_⟩, fun _ => by rw [List.take_of_length_le (by omega)] at hs; exact hs⟩
      obtain ⟨k', rfl⟩ : ∃ k', k = k' + 1 := ⟨k - 1, by omega⟩
      show laws_zzFits4.l0 (k' + 1) l _ (i : Int) = _
      rw [laws_zzFits4.l0, if_neg (by omega)]
    | succ d ih =>
      intro i hd hi hs
      by_cases hbig : ((rdOf ByteArray.empty l (i : Int)).size : Int) > 2147483647
      · refine ⟨false, ⟨1, fun k hk => ?_⟩, fun h => by cases h⟩
        obtain ⟨k', rfl⟩ : ∃ k', k = k' + 1 := ⟨k - 1, by omega⟩
        show laws_zzFits4.l0 (k' + 1) l _ (i : Int) = _
        rw [laws_zzFits4.l0, if_pos (by omega), if_pos (by omega), if_pos (by omega), if_pos hbig]
      · have hlt : i < l.length := by omega
        obtain ⟨r, ⟨K, hK⟩, hr⟩ := ih (i + 1) (by omega) (by omega) (fun s hs' => by
          rw [List.take_succ_eq_append_getElem hlt] at hs'
          rcases List.mem_append.1 hs' with h' | h'
          · exact hs s h'
          · rw [List.mem_singleton.1 h', ← it_get hlt]; unfold it; omega)
        refine ⟨r, ⟨K + 1, fun k hk => ?_⟩, hr⟩
        obtain ⟨k', rfl⟩ : ∃ k', k = k' + 1 := ⟨k - 1, by omega⟩
        show laws_zzFits4.l0 (k' + 1) l _ (i : Int) = _
        have hw : wrap64 ((i : Int) + 1) = ((i + 1 : Nat) : Int) := by rw [wrap_in (by omega) (by omega)]; omega
        rw [laws_zzFits4.l0, if_pos (by omega), if_pos (by omega), if_pos (by omega), if_neg hbig, hw]
        exact hK k' (by omega)
  obtain ⟨b, ⟨K, hK⟩, hb⟩ := loop l.length 0 (by omega) (by omega) (by simp)
  exact ⟨b, ⟨K, fun k hk => by show laws_zzFits4.f k l = _; rw [laws_zzFits4.f, if_neg hL]; exact hK k hk⟩, hb⟩
theorem orE (l : List ByteArray) (hl : l.length ≤ 5) (hs : ∀ s ∈ l, s.size ≤ 2147483649) : Ev (fun k => spec_OrList.f k l) (orS l l.length) := by
  have loop : ∀ d i : Nat, l.length - i = d → i ≤ l.length → Ev (fun k => spec_OrList.l0 k l (orS l i) l (l.length : Int) (i : Int)) (orS l l.length) := by
    intro d
    induction d with
    | zero =>
      intro i hd hi
      obtain rfl : i = l.length := by omega
      refine ⟨1, fun k hk => ?_⟩
      obtain ⟨k', rfl⟩ : ∃ k', k = k' + 1 := ⟨k - 1, by omega⟩
      show spec_OrList.l0 (k' + 1) _ _ _ _ _ = _
      rw [spec_OrList.l0, if_neg (by omega)]
    | succ d ih =>
      intro i hd hi
      obtain ⟨K, hK⟩ := ih (i + 1) (by omega) (by omega)
      refine ⟨K + 1, fun k hk => ?_⟩
      obtain ⟨k', rfl⟩ : ∃ k', k = k' + 1 := ⟨k - 1, by omega⟩
      have h1 := hK k' (by omega)
      simp only at h1
      have z1 := orS_size hs i (by omega)
      have z2 := it_size hs i (by omega)
      have z3 : i * (2147483649 + 5) ≤ 5 * (2147483649 + 5) := Nat.mul_le_mul_right _ (by omega)
      have hw : wrap64 ((i : Int) + 1) = ((i + 1 : Nat) : Int) := by rw [wrap_in (by omega) (by omega)]; omega
      have hw1 : wrap64 ((l.length : Int) - 1) = (l.length : Int) - 1 := wrap_in (by omega) (by omega)
      have e4 : (orS l i ++ (⟨#[32, 111, 114, 32]⟩ : ByteArray)).size = (orS l i).size + 4 := by rw [ByteArray.size_append]; rfl
      have e5 : (orS l i ++ (⟨#[44, 32, 111, 114, 32]⟩ : ByteArray)).size = (orS l i).size + 5 := by rw [ByteArray.size_append]; rfl
      have e2 : (orS l i ++ (⟨#[44, 32]⟩ : ByteArray)).size = (orS l i).size + 2 := by rw [ByteArray.size_append]; rfl
      unfold it at z2
      show spec_OrList.l0 (k' + 1) _ _ _ _ _ = _
      rw [spec_OrList.l0, if_pos (by omega), if_pos (by omega), if_pos (by omega), hw, hw1]
      rw [orS] at h1
      unfold it at h1
      by_cases h0 : i = 0
      · rw [if_pos h0] at h1
        rw [if_pos (by omega), if_pos (by omega)]
        exact h1
      · rw [if_neg h0] at h1
        rw [if_neg (by omega)]
        by_cases hl2 : l.length = 2
        · rw [if_pos hl2] at h1
          rw [if_pos (by omega), if_pos (by omega), if_pos (by omega)]
          exact h1
        · rw [if_neg hl2] at h1
          rw [if_neg (by omega)]
          by_cases hln : i + 1 = l.length
          · rw [if_pos hln] at h1
            rw [if_pos (by omega), if_pos (by omega), if_pos (by omega)]
            exact h1
          · rw [if_neg hln] at h1
            rw [if_neg (by omega), if_pos (by omega), if_pos (by omega)]
            exact h1
  obtain ⟨K, hK⟩ := loop l.length 0 (by omega) (by omega)
  exact ⟨K, fun k hk => hK k hk⟩
theorem quotedE (l : List ByteArray) (hl : l.length ≤ 5) (hs : ∀ s ∈ l, s.size ≤ 2147483647) : Ev (fun k => spec_QuotedOrList.f k l) (orS (l.map quo) l.length) := by
  have hq : ∀ s ∈ l.map quo, s.size ≤ 2147483649 := fun s h => by
    obtain ⟨x, hx, rfl⟩ := List.mem_map.1 h
    rw [quo_size]; have := hs x hx; omega
  obtain ⟨KO, hKO⟩ := orE (l.map quo) (by simpa using hl) hq
  simp only [List.length_map] at hKO
  have loop : ∀ d i : Nat, l.length - i = d → i ≤ l.length → Ev (fun k => spec_QuotedOrList.l0 k ((l.take i).map quo) l (l.length : Int) (i : Int)) (orS (l.map quo) l.length) := by
    intro d
    induction d with
    | zero =>
      intro i hd hi
      obtain rfl : i = l.length := by omega
      refine ⟨KO + 1, fun k hk => ?_⟩
      obtain ⟨k', rfl⟩ : ∃ k', k = k' + 1 := ⟨k - 1, by omega⟩
      show spec_QuotedOrList.l0 (k' + 1) _ _ _ _ = _
      rw [spec_QuotedOrList.l0, if_neg (by omega), List.take_length, hKO k' (by omega)]; rfl
    | succ d ih =>
      intro i hd hi
      have hlt : i < l.length := by omega
      obtain ⟨K, hK⟩ := ih (i + 1) (by omega) (by omega)
      refine ⟨K + 1, fun k hk => ?_⟩
      obtain ⟨k', rfl⟩ : ∃ k', k = k' + 1 := ⟨k - 1, by omega⟩
      have h1 := hK k' (by omega)
      simp only at h1
      have z2 := it_size hs i hlt
      have e1 : ((⟨#[34]⟩ : ByteArray) ++ it l i).size = 1 + (it l i).size := by rw [ByteArray.size_append]; rfl
      have hw : wrap64 ((i : Int) + 1) = ((i + 1 : Nat) : Int) := by rw [wrap_in (by omega) (by omega)]; omega
      show spec_QuotedOrList.l0 (k' + 1) _ _ _ _ = _
      rw [List.take_succ_eq_append_getElem hlt, List.map_append, List.map_singleton, ← it_get hlt] at h1
      rw [spec_QuotedOrList.l0, if_pos (by omega), if_pos (by omega), if_pos (by omega)]
      rw [show rdOf ByteArray.empty l (i : Int) = it l i from rfl, if_pos (by omega), if_pos (by omega), if_pos (by simp; omega), hw]
      exact h1
  obtain ⟨K, hK⟩ := loop l.length 0 (by omega) (by omega)
  exact ⟨K, fun k hk => hK k hk⟩
end Go.Proofs.YtamajbaojbghcaaDoor.Or
