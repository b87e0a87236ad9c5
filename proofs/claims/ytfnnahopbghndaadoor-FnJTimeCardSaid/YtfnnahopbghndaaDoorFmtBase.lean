/- Digits at the beginning of a text; the last byte. -/
import Derived.Test.YtfnnahopbghndaaDoorFmt0
import Derived.Test.YtfnnahopbghndaaDoorFmtSplit
namespace Go.Proofs.YtfnnahopbghndaaDoor.Fmt
open Go.RowKit Go.Proofs.YtfnnahopbghndaaDoorW.PrintWords Go.Proofs.YtfnnahopbghndaaDoorW.PrintLast Go.Proofs.YtfnnahopbghndaaDoorW.PrintMore Go.Proofs.YtfnnahopbghndaaDoor.K
set_option linter.unusedVariables false
set_option linter.unusedSimpArgs false

def digB (b : UInt8) : Bool := 48 ≤ b && b ≤ 57
def digR (r : Nat) : Prop := 48 ≤ r ∧ r ≤ 57
theorem digK : Kind digB digR where
  iff b := by
    unfold digB digR
    simp only [Bool.and_eq_true, decide_eq_true_eq, UInt8.le_iff_toNat_le]
    rfl
  low r h := by unfold digR; omega

/-- How many digits stand at the beginning. -/
def digs (l : List UInt8) : Nat := (l.takeWhile digB).length
theorem digs_le (l : List UInt8) : digs l ≤ l.length := (List.takeWhile_sublist _).length_le
theorem digs_stop {g : ByteArray} {pos : Nat} (h : Sofar digB g pos) (hle : pos ≤ g.size) (hend : pos = g.size ∨ ∃ hp : pos < g.size, digB (g[pos]'hp) = false) : digs (bs g) = pos := by
  have hl := bs_len g
  have e : bs g = (bs g).take pos ++ (bs g).drop pos := (List.take_append_drop _ _).symm
  have h1 : ∀ b ∈ (bs g).take pos, digB b = true := by
    intro b hb
    obtain ⟨i, hi, rfl⟩ := List.getElem_of_mem hb
    rw [List.length_take] at hi
    rw [List.getElem_take]
    exact h i (by omega) (by omega)
  have h2 : ((bs g).drop pos).takeWhile digB = [] := by
    rcases hend with hh | ⟨hp, hh⟩
    · rw [List.drop_of_length_le (by omega)]; rfl
    · rw [List.drop_eq_getElem_cons (by omega), List.takeWhile_cons, bs_at g pos hp (by omega), hh]; rfl
  unfold digs
  rw [e, List.takeWhile_append_of_pos h1, h2, List.append_nil, List.length_take]
  omega
theorem dig_stop {g : ByteArray} {pos : Nat} (hp : pos < g.size) (hr : ¬ digR (Utf8.decode g pos).1) : digB (g[pos]'hp) = false := by
  rcases decode_cases g pos hp with ⟨e, _⟩ | ⟨_, _, h2⟩
  · rw [e] at hr
    exact Bool.eq_false_iff.2 (fun h => hr ((digK.iff _).1 h))
  · exact Bool.eq_false_iff.2 (fun h => digK.low _ h2 ((digK.iff _).1 h))

theorem last_drop (l : List UInt8) (x : UInt8) (h : 1 ≤ l.length) : l.drop (l.length - 1) = [x] ↔ l.getLast? = some x := by
  have hne : l ≠ [] := by intro e; subst e; simp at h
  rw [List.getLast?_eq_some_getLast hne]
  have : l.drop (l.length - 1) = [l.getLast hne] := by
    conv => lhs; rw [← List.dropLast_concat_getLast hne]
    simp
  rw [this]; simp

end Go.Proofs.YtfnnahopbghndaaDoor.Fmt
