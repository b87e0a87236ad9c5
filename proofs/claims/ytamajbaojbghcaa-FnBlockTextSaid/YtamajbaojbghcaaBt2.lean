/- The lines of a block string, plain: common indent, cut, trimmed, joined. -/
import Derived.Test.YtamajbaojbghcaaBt1
namespace Go.Proofs.Ytamajbaojbghcaa.Bt
open Go.RowKit Go.Proofs.YtamajbaojbghcaaW.PrintWords Go.Proofs.YtamajbaojbghcaaW.PrintLast Go.Proofs.YtamajbaojbghcaaW.PrintMore Go.Proofs.Ytamajbaojbghcaa.PB Go.Proofs.Ytamajbaojbghcaa.K
set_option linter.unusedVariables false
set_option linter.unusedSimpArgs false
/-- A line is blank. -/
def blk (x : List UInt8) : Bool := ld x == x.length
theorem blk_iff (x : List UInt8) : blk x = true ↔ ld x = x.length := by unfold blk; rw [beq_iff_eq]
/-- The least indent so far of lines that are not blank. -/
def mn (a : Option Nat) (x : List UInt8) : Option Nat := if blk x = true then a else some (match a with | none => ld x | some m => if ld x < m then ld x else m)
theorem mn_zero (x : List UInt8) : mn (some 0) x = some 0 := by
  unfold mn
  split
  · rfl
  · simp
theorem mn_zeros (L : List (List UInt8)) : L.foldl mn (some 0) = some 0 := by
  induction L with
  | nil => rfl
  | cons x L ih => rw [List.foldl_cons, mn_zero, ih]
theorem fold_take (L : List (List UInt8)) (i : Nat) (hi : i < L.length) : (L.take (i + 1)).foldl mn none = mn ((L.take i).foldl mn none) L[i] := by
  rw [List.take_succ_eq_append_getElem hi, List.foldl_append]; rfl
theorem fold_zero (L : List (List UInt8)) (i : Nat) (h : (L.take i).foldl mn none = some 0) : L.foldl mn none = some 0 := by
  conv => lhs; rw [← List.take_append_drop i L]
  rw [List.foldl_append, h, mn_zeros]
/-- All but the first line, cut. -/
def cut (c : Nat) (L : List (List UInt8)) : List (List UInt8) := L.take 1 ++ (L.drop 1).map (List.drop c)
theorem cut_zero (L : List (List UInt8)) : cut 0 L = L := by
  unfold cut
  rw [show (List.drop 0 : List UInt8 → List UInt8) = id from by funext l; rfl, List.map_id, List.take_append_drop]
theorem cut_length (c : Nat) (L : List (List UInt8)) : (cut c L).length = L.length := by
  unfold cut; simp; omega
/-- The specification's indent: of all lines but the first. -/
def comS (L : List (List UInt8)) : Option Nat := (L.drop 1).foldl mn none
def comI (L : List (List UInt8)) : Option Nat := L.foldl mn none
theorem com_eq (l : List UInt8) (h : Lev l) : cut ((comI (splitL 10 l)).getD 0) (splitL 10 l) = cut ((comS (splitL 10 l)).getD 0) (splitL 10 l) := by
  obtain ⟨_, h⟩ := h
  have hne := splitL_ne 10 l
  have hj := join_split 10 l
  generalize splitL 10 l = L at *
  obtain ⟨x, T, rfl⟩ : ∃ x T, L = x :: T := by
    cases L with
    | nil => exact absurd rfl hne
    | cons x T => exact ⟨x, T, rfl⟩
  rcases h with h | ⟨h1, h2⟩
  · have hb : blk x = true := (blk_iff x).2 h
    unfold comI comS
    rw [List.foldl_cons]
    have : mn none x = none := by unfold mn; rw [if_pos hb]
    rw [this]; rfl
  · obtain rfl : T = [] := by simpa using h1
    rfl
/-- How many lines at the beginning are blank. -/
def stN (M : List (List UInt8)) : Nat := (M.takeWhile blk).length
theorem stN_le (M : List (List UInt8)) : stN M ≤ M.length := (List.takeWhile_prefix blk).length_le
theorem stN_yes (M : List (List UInt8)) (i : Nat) (hi : i < M.length) (hb : blk M[i] = true) : i + stN (M.drop i) = (i + 1) + stN (M.drop (i + 1)) := by
  rw [List.drop_eq_getElem_cons hi]
  unfold stN
  rw [List.takeWhile_cons, if_pos hb, List.length_cons]; omega
theorem stN_no (M : List (List UInt8)) (i : Nat) (hi : i < M.length) (hb : ¬ blk M[i] = true) : i + stN (M.drop i) = i := by
  rw [List.drop_eq_getElem_cons hi]
  unfold stN
  rw [List.takeWhile_cons, if_neg hb]; rfl
theorem stN_end (M : List (List UInt8)) : M.length + stN (M.drop M.length) = M.length := by
  rw [List.drop_length]; rfl
/-- Where the last line that is not blank ends. -/
def enN (M : List (List UInt8)) (s : Nat) : Nat → Nat
  | 0 => 0
  | e + 1 => if s < e + 1 ∧ blk (M[e]?.getD []) = true then enN M s e else e + 1
theorem enN_le (M : List (List UInt8)) (s : Nat) (e : Nat) : enN M s e ≤ e := by
  induction e with
  | zero => exact Nat.le_refl _
  | succ e ih => rw [enN]; split <;> omega
theorem enN_ge (M : List (List UInt8)) (s : Nat) (e : Nat) (h : s ≤ e) : s ≤ enN M s e := by
  induction e with
  | zero => simpa [enN] using h
  | succ e ih =>
    rw [enN]
    split
    · rename_i hh; exact ih (by omega)
    · exact h
theorem enN_yes (M : List (List UInt8)) (s e : Nat) (h : s < e + 1) (hi : e < M.length) (hb : blk M[e] = true) : enN M s (e + 1) = enN M s e := by
  rw [enN, List.getElem?_eq_getElem hi, Option.getD_some, if_pos ⟨h, hb⟩]
theorem enN_no (M : List (List UInt8)) (s e : Nat) (hi : e < M.length) (hb : ¬ blk M[e] = true) : enN M s (e + 1) = e + 1 := by
  rw [enN, List.getElem?_eq_getElem hi, Option.getD_some, if_neg (fun h => hb h.2)]
theorem enN_eq (M : List (List UInt8)) (s : Nat) : enN M s s = s := by
  cases s with
  | zero => rfl
  | succ s => rw [enN, if_neg (by omega)]
/-- The lines that are left. -/
def left (M : List (List UInt8)) : List (List UInt8) := (M.take (enN M (stN M) M.length)).drop (stN M)
theorem joinL_snoc (c : UInt8) (L : List (List UInt8)) (x : List UInt8) (h : L ≠ []) : joinL c (L ++ [x]) = joinL c L ++ c :: x := by
  induction L with
  | nil => exact absurd rfl h
  | cons a L ih =>
    cases L with
    | nil => simp [joinL]
    | cons b L =>
      have := ih (by simp)
      rw [List.cons_append, List.cons_append, joinL, ← List.cons_append, this, joinL]
      simp
theorem joinL_take (c : UInt8) (L : List (List UInt8)) (i : Nat) (hi : i < L.length) : joinL c (L.take (i + 1)) = if i = 0 then L[i] else joinL c (L.take i) ++ c :: L[i] := by
  rw [List.take_succ_eq_append_getElem hi]
  by_cases h : i = 0
  · subst h
    rw [if_pos rfl]; rfl
  · rw [if_neg h, joinL_snoc]
    intro e
    have := congrArg List.length e
    rw [List.length_take, List.length_nil] at this
    omega
theorem joinL_len (c : UInt8) (L : List (List UInt8)) (B : Nat) (h : ∀ x ∈ L, x.length ≤ B) : (joinL c L).length ≤ L.length * (B + 1) := by
  induction L with
  | nil => simp [joinL]
  | cons a L ih =>
    have ha := h a (by simp)
    have ih := ih (fun x hx => h x (by simp [hx]))
    have e : (L.length + 1) * (B + 1) = L.length * (B + 1) + (B + 1) := Nat.succ_mul _ _
    cases L with
    | nil => simp only [joinL, List.length_cons, List.length_nil] at *; omega
    | cons b L => rw [joinL]; simp only [List.length_append, List.length_cons] at *; omega
/-- The value of a block string. -/
def bval (l : List UInt8) : List UInt8 := joinL 10 (left (cut ((comS (splitL 10 l)).getD 0) (splitL 10 l)))
end Go.Proofs.Ytamajbaojbghcaa.Bt
