/- Plain lemmas on byte strings as lists of bytes, and on rounds; no program in sight. -/
import Derived.Test.YtamajbaojbghcaaWWords
import Derived.Test.YtamajbaojbghcaaWLast
namespace Go.Proofs.Ytamajbaojbghcaa.K
open Go.RowKit Go.Proofs.YtamajbaojbghcaaW.PrintWords Go.Proofs.YtamajbaojbghcaaW.PrintLast
set_option linter.unusedVariables false
set_option linter.unusedSimpArgs false

/-- The bytes of a string. -/
def bs (s : ByteArray) : List UInt8 := s.data.toList

theorem bs_len (s : ByteArray) : (bs s).length = s.size := by unfold bs; rw [Array.length_toList]; rfl

theorem bs_ext {s t : ByteArray} (h : bs s = bs t) : s = t := by
  apply ByteArray.ext
  exact Array.toList_inj.1 h

theorem bs_inj {s t : ByteArray} : s = t ↔ bs s = bs t := ⟨fun h => by rw [h], bs_ext⟩

theorem toList_inj {s t : ByteArray} : s.toList = t.toList ↔ bs s = bs t := by
  rw [ByteArray.toList_eq, ByteArray.toList_eq]
  exact Iff.rfl

theorem bs_extract (s : ByteArray) (a b : Nat) : bs (s.extract a b) = ((bs s).take b).drop a := by
  simp only [bs, ByteArray.data_extract, Array.toList_extract]
  rw [List.extract_eq_take_drop]
  rw [List.drop_take]

theorem bs_drop (s : ByteArray) (a : Nat) : bs (s.extract a s.size) = (bs s).drop a := by
  rw [bs_extract, List.take_of_length_le (by rw [bs_len]; exact Nat.le_refl _)]

theorem bs_take (s : ByteArray) (b : Nat) : bs (s.extract 0 b) = (bs s).take b := by
  rw [bs_extract, List.drop_zero]

theorem bs_append (s t : ByteArray) : bs (s ++ t) = bs s ++ bs t := by
  simp only [bs, ByteArray.data_append, Array.toList_append]

theorem bs_mk (l : List UInt8) : bs ⟨l.toArray⟩ = l := by simp [bs]

theorem bt_nat (s : ByteArray) (i : Nat) (h : i < (bs s).length) : bt s (i : Int) = (((bs s)[i]).toNat : Int) := by
  have h' : i < s.size := by rwa [bs_len] at h
  unfold bt
  rw [dif_pos (by simpa using h')]
  simp [bs, Array.getElem_toList]
  rfl

theorem bt_int (s : ByteArray) (i : Int) (h0 : 0 ≤ i) (h : i.toNat < (bs s).length) : bt s i = (((bs s)[i.toNat]).toNat : Int) := by
  have := bt_nat s i.toNat h
  rwa [Int.toNat_of_nonneg h0] at this

theorem bs_data (s : ByteArray) : s.data.toList = bs s := rfl

theorem bytesOf_bs (s : ByteArray) : bytesOf s = (bs s).map fun b => (b.toNat : Int) := rfl

theorem bs_strOfNums (xs : List Int) : bs (strOfNums xs) = xs.map fun n => UInt8.ofNat n.toNat := by
  simp [bs, strOfNums]

theorem ofNums_map (l : List UInt8) : (l.map fun b => (b.toNat : Int)).map (fun n => UInt8.ofNat n.toNat) = l := by
  rw [List.map_map]
  conv => rhs; rw [← List.map_id l]
  apply List.map_congr_left
  intro b _
  simp

theorem wrap_in {x : Int} (h0 : -9223372036854775808 ≤ x) (h1 : x ≤ 9223372036854775807) : wrap64 x = x := by
  unfold wrap64; omega

/-- Where a byte stands first in a list; -1 where it does not. -/
def idx1 (c : UInt8) : List UInt8 → Int
  | [] => -1
  | a :: l => if a = c then 0 else if idx1 c l < 0 then -1 else idx1 c l + 1

theorem idx1_lo (c : UInt8) (l : List UInt8) : -1 ≤ idx1 c l := by
  induction l with
  | nil => simp [idx1]
  | cons a l ih => unfold idx1; split <;> (try split) <;> omega

theorem idx1_hi (c : UInt8) (l : List UInt8) : idx1 c l < l.length ∨ idx1 c l < 0 := by
  induction l with
  | nil => simp [idx1]
  | cons a l ih => simp only [idx1, List.length_cons]; split <;> (try split) <;> omega

/-- Split at the first such byte. -/
theorem idx1_neg {c : UInt8} {l : List UInt8} : idx1 c l < 0 ↔ c ∉ l := by
  induction l with
  | nil => simp [idx1]
  | cons a l ih =>
    simp only [idx1, List.mem_cons, not_or]
    split
    · rename_i h; subst h; simp
    · rename_i h
      split
      · rename_i h2; exact ⟨fun _ => ⟨fun e => h e.symm, ih.1 h2⟩, fun _ => by omega⟩
      · rename_i h2; exact ⟨fun k => by omega, fun k => absurd (ih.2 k.2) h2⟩

theorem idx1_pos {c : UInt8} {l : List UInt8} (h : 0 ≤ idx1 c l) : l = l.take (idx1 c l).toNat ++ c :: l.drop ((idx1 c l).toNat + 1) ∧ c ∉ l.take (idx1 c l).toNat := by
  induction l with
  | nil => simp [idx1] at h
  | cons a l ih =>
    simp only [idx1] at h ⊢
    by_cases ha : a = c
    · simp [ha]
    · rw [if_neg ha] at h ⊢
      by_cases hn : idx1 c l < 0
      · rw [if_pos hn] at h; omega
      · rw [if_neg hn] at h ⊢
        have ih := ih (by omega)
        have e : (idx1 c l + 1).toNat = (idx1 c l).toNat + 1 := by omega
        rw [e]
        refine ⟨?_, ?_⟩
        · simp only [List.take_succ_cons, List.drop_succ_cons, List.cons_append]
          rw [← ih.1]
        · simp only [List.take_succ_cons, List.mem_cons, not_or]
          exact ⟨fun x => ha x.symm, ih.2⟩

theorem extract_one (s c : ByteArray) (i : Nat) (x : UInt8) (hc : bs c = [x]) (hi : i < (bs s).length) : ((s.extract i (i + 1)).toList = c.toList) ↔ (bs s)[i] = x := by
  rw [toList_inj, bs_extract, hc, List.drop_take]
  have : i + 1 - i = 1 := by omega
  rw [this, List.drop_eq_getElem_cons hi, List.take_succ_cons, List.take_zero]
  simp

theorem ev_from {α : Type} {g : Nat → Option α} {r : α} (K : Nat) (h : ∀ k, K ≤ k → g k = some r) : Ev g r := ⟨K, h⟩

/-- What is so from some round on, a round more. -/
theorem ev_succ {α : Type} {g : Nat → Option α} {r : α} (K : Nat) (h : ∀ k, K ≤ k → g (k + 1) = some r) : Ev g r := by
  refine ⟨K + 1, fun k hk => ?_⟩
  obtain ⟨m, rfl⟩ : ∃ m, k = m + 1 := ⟨k - 1, by omega⟩
  exact h m (by omega)


/-! ### a list of bytes split at a byte -/
def splitL (c : UInt8) : List UInt8 → List (List UInt8)
  | [] => [[]]
  | a :: l => if a = c then [] :: splitL c l else match splitL c l with
    | [] => [[a]]
    | g :: gs => (a :: g) :: gs

theorem splitL_ne (c : UInt8) (l : List UInt8) : splitL c l ≠ [] := by
  cases l with
  | nil => simp [splitL]
  | cons a l => unfold splitL; split <;> (try split) <;> simp

theorem splitL_none {c : UInt8} {l : List UInt8} (h : c ∉ l) : splitL c l = [l] := by
  induction l with
  | nil => rfl
  | cons a l ih =>
    simp only [List.mem_cons, not_or] at h
    rw [splitL, if_neg (fun e => h.1 e.symm), ih h.2]

theorem splitL_some {c : UInt8} {g l : List UInt8} (h : c ∉ g) : splitL c (g ++ c :: l) = g :: splitL c l := by
  induction g with
  | nil => simp [splitL]
  | cons a g ih =>
    simp only [List.mem_cons, not_or] at h
    rw [List.cons_append, splitL, if_neg (fun e => h.1 e.symm), ih h.2]

/-- Lists with a byte between them. -/
def joinL (c : UInt8) : List (List UInt8) → List UInt8
  | [] => []
  | [g] => g
  | g :: h :: gs => g ++ c :: joinL c (h :: gs)

theorem join_split (c : UInt8) (l : List UInt8) : joinL c (splitL c l) = l := by
  induction l with
  | nil => rfl
  | cons a l ih =>
    have hne := splitL_ne c l
    simp only [splitL]
    split
    · rename_i h
      subst h
      cases hs : splitL a l with
      | nil => exact absurd hs hne
      | cons g gs => rw [joinL, ← hs, ih]; rfl
    · cases hs : splitL c l with
      | nil => exact absurd hs hne
      | cons g gs =>
        rw [hs] at ih
        cases gs with
        | nil => simp only [joinL] at ih ⊢; rw [ih]
        | cons g2 gs => simp only [joinL] at ih ⊢; rw [List.cons_append, ih]

theorem split_free (c : UInt8) (l : List UInt8) : ∀ g ∈ splitL c l, c ∉ g := by
  induction l with
  | nil => simp [splitL]
  | cons a l ih =>
    simp only [splitL]
    split
    · intro g hg
      rcases List.mem_cons.1 hg with rfl | hg
      · simp
      · exact ih g hg
    · rename_i hne
      cases hs : splitL c l with
      | nil => intro g hg; rcases List.mem_singleton.1 hg with rfl; simp; exact fun e => hne e.symm
      | cons g gs =>
        rw [hs] at ih
        intro g' hg'
        rcases List.mem_cons.1 hg' with rfl | hg'
        · simp only [List.mem_cons, not_or]; exact ⟨fun e => hne e.symm, ih g (by simp)⟩
        · exact ih g' (by simp [hg'])

theorem split_join {c : UInt8} {gs : List (List UInt8)} (hne : gs ≠ []) (hf : ∀ g ∈ gs, c ∉ g) : splitL c (joinL c gs) = gs := by
  induction gs with
  | nil => exact absurd rfl hne
  | cons g gs ih =>
    cases gs with
    | nil => exact splitL_none (hf g (by simp))
    | cons h gs =>
      rw [joinL, splitL_some (hf g (by simp)), ih (by simp) (fun x hx => hf x (by simp [hx]))]

theorem split_le (c : UInt8) (l : List UInt8) : ∀ g ∈ splitL c l, g.length ≤ l.length := by
  induction l with
  | nil => simp [splitL]
  | cons a l ih =>
    simp only [splitL, List.length_cons]
    split
    · intro g hg
      rcases List.mem_cons.1 hg with rfl | hg
      · simp
      · have := ih g hg; omega
    · cases hs : splitL c l with
      | nil => exact absurd hs (splitL_ne c l)
      | cons g gs =>
        rw [hs] at ih
        intro g' hg'
        rcases List.mem_cons.1 hg' with rfl | hg'
        · have := ih g (by simp); simp; omega
        · have := ih g' (by simp [hg']); omega

theorem split_length (c : UInt8) (l : List UInt8) : (splitL c l).length ≤ l.length + 1 := by
  induction l with
  | nil => simp [splitL]
  | cons a l ih =>
    simp only [splitL, List.length_cons]
    split
    · simp; omega
    · split
      · simp
      · rename_i h; rw [h] at ih; simp at ih ⊢; omega


/-- No such byte from one place up to another. -/
def Free (c : UInt8) (l : List UInt8) (a i : Nat) : Prop := ∀ j, (hj : j < l.length) → a ≤ j → j < i → l[j] ≠ c
theorem Free.self (c : UInt8) (l : List UInt8) (a : Nat) : Free c l a a := fun j _ h1 h2 => by omega
theorem Free.step {c : UInt8} {l : List UInt8} {a i : Nat} (h : Free c l a i) (hi : i < l.length) (hne : l[i] ≠ c) : Free c l a (i + 1) := by
  intro j hj h1 h2
  by_cases e : j = i
  · subst e; exact hne
  · exact h j hj h1 (by omega)
theorem Free.mem {c : UInt8} {l : List UInt8} {a i : Nat} (h : Free c l a i) : c ∉ (l.take i).drop a := by
  intro hm
  obtain ⟨j, hj, e⟩ := List.getElem_of_mem hm
  rw [List.length_drop, List.length_take] at hj
  rw [List.getElem_drop, List.getElem_take] at e
  exact h (a + j) (by omega) (by omega) (by omega) e
theorem seg_end {c : UInt8} {l : List UInt8} {a : Nat} (h : Free c l a l.length) : splitL c (l.drop a) = [l.drop a] := by
  apply splitL_none
  have := h.mem
  rwa [List.take_length] at this
theorem seg_cut {c : UInt8} {l : List UInt8} {a i : Nat} (h : Free c l a i) (ha : a ≤ i) (hi : i < l.length) (hc : l[i] = c) : splitL c (l.drop a) = (l.take i).drop a :: splitL c (l.drop (i + 1)) := by
  have e : l.drop a = (l.take i).drop a ++ c :: l.drop (i + 1) := by
    have h1 : l = l.take i ++ l[i] :: l.drop (i + 1) := by rw [← List.drop_eq_getElem_cons hi, List.take_append_drop]
    conv => lhs; rw [h1]
    rw [List.drop_append_of_le_length (by rw [List.length_take]; omega), hc]
  rw [e, splitL_some h.mem]
theorem eq_toNat (a b : UInt8) : ((a.toNat : Int) = (b.toNat : Int)) ↔ a = b := by
  constructor
  · intro h; exact UInt8.toNat_inj.1 (by omega)
  · intro h; rw [h]

theorem idx1_app {c : UInt8} {g r : List UInt8} (h : c ∉ g) : idx1 c (g ++ c :: r) = g.length := by
  induction g with
  | nil => simp [idx1]
  | cons a g ih =>
    simp only [List.mem_cons, not_or] at h
    rw [List.cons_append, idx1, if_neg (fun e => h.1 e.symm), ih h.2, if_neg (by omega), List.length_cons]
    omega
theorem idx1_at {c : UInt8} {l : List UInt8} {p : Nat} (h : Free c l 0 p) (hp : p < l.length) (hc : l[p] = c) : idx1 c l = p := by
  have h1 : l = l.take p ++ c :: l.drop (p + 1) := by
    conv => lhs; rw [← List.take_append_drop p l, List.drop_eq_getElem_cons hp, hc]
  rw [h1, idx1_app (by have := h.mem; rwa [List.drop_zero] at this), List.length_take]
  omega
theorem idx1_no {c : UInt8} {l : List UInt8} (h : Free c l 0 l.length) : idx1 c l < 0 := by
  rw [idx1_neg]
  have := h.mem
  rwa [List.take_length, List.drop_zero] at this

end Go.Proofs.Ytamajbaojbghcaa.K
