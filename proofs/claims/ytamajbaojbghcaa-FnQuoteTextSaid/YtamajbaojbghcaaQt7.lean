/- The specification's lexer at a quoted text: quoted. -/
import Derived.Test.YtamajbaojbghcaaQt6
namespace Go.Proofs.Ytamajbaojbghcaa.Qt
open Go.RowKit Go.Lib Go.Proofs.YtamajbaojbghcaaW.PrintWords Go.Proofs.YtamajbaojbghcaaW.PrintLast Go.Proofs.YtamajbaojbghcaaW.PrintMore Go.Proofs.Ytamajbaojbghcaa.PX Go.Proofs.Ytamajbaojbghcaa.K Go.Proofs.Ytamajbaojbghcaa.Lx
set_option linter.unusedVariables false
set_option linter.unusedSimpArgs false
/-- The characters of a quoted text. -/
def qz (R : List Nat) : List Nat := 34 :: (qRs R ++ [34])
/-- Where what is written for a character begins. -/
def pos (R : List Nat) (k : Nat) : Nat := 1 + (qRs (R.take k)).length
theorem qRs_app (a b : List Nat) : qRs (a ++ b) = qRs a ++ qRs b := by
  induction a with
  | nil => rfl
  | cons r a ih => simp [qRs, ih]
theorem qRs_cut (R : List Nat) (k : Nat) (hk : k < R.length) : qRs R = qRs (R.take k) ++ (qR R[k] ++ qRs (R.drop (k + 1))) := by
  conv => lhs; rw [← List.take_append_drop k R, List.drop_eq_getElem_cons hk]
  rw [qRs_app, qRs]
theorem pos_next (R : List Nat) (k : Nat) (hk : k < R.length) : pos R (k + 1) = pos R k + (qR R[k]).length := by
  unfold pos
  rw [List.take_succ_eq_append_getElem hk, qRs_app, List.length_append, qRs]
  simp [qRs]
  omega
theorem qz_len (R : List Nat) : (qz R).length = pos R R.length + 1 := by
  unfold qz pos
  rw [List.take_length]
  simp
  omega
theorem qz_at (R : List Nat) (k j : Nat) (hk : k < R.length) (hj : j < (qR R[k]).length) : (qz R)[pos R k + j]? = some ((qR R[k])[j]) := by
  unfold qz pos
  rw [show 1 + (qRs (List.take k R)).length + j = ((qRs (List.take k R)).length + j) + 1 by omega, List.getElem?_cons_succ, qRs_cut R k hk, List.append_assoc, List.getElem?_append_right (by omega), List.append_assoc, List.getElem?_append_left (by omega)]
  rw [show (qRs (List.take k R)).length + j - (qRs (List.take k R)).length = j by omega, List.getElem?_eq_getElem hj]
theorem qz_end (R : List Nat) : (qz R)[pos R R.length]? = some 34 := by
  unfold qz pos
  rw [List.take_length, show 1 + (qRs R).length = (qRs R).length + 1 by omega, List.getElem?_cons_succ, List.getElem?_append_right (Nat.le_refl _)]
  simp
theorem pos_le (R : List Nat) (k : Nat) (hk : k ≤ R.length) : pos R k ≤ pos R R.length := by
  unfold pos
  rw [List.take_length]
  conv => rhs; rw [← List.take_append_drop k R, qRs_app, List.length_append]
  omega
/-- Where the lexer stands. -/
def aOf (g : Nat) (w : World) : Nat := match w.cell? ⟨g, 1, none⟩ with
  | some (.int _ x) => x.toNat
  | _ => 0
theorem Sl.aOf {wi : World} {b g c a : Nat} {Z : List Nat} (h : Sl wi b g c Z a) : aOf g wi = a := by
  unfold Qt.aOf
  rw [h.c1]
  simp
end Go.Proofs.Ytamajbaojbghcaa.Qt
