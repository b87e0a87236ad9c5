/- strings.IndexByte; empty strings; heads. -/
import Derived.Test.YtfnnahopbghndaaDoorFmtBase
import Derived.Test.YtfnnahopbghndaaDoorShelf
namespace Go.Proofs.YtfnnahopbghndaaDoor.Fmt
open Go.RowKit Go.Proofs.YtfnnahopbghndaaDoorW.PrintWords Go.Proofs.YtfnnahopbghndaaDoorW.PrintLast Go.Proofs.YtfnnahopbghndaaDoorW.PrintMore Go.Proofs.YtfnnahopbghndaaDoor.K
set_option linter.unusedVariables false
set_option linter.unusedSimpArgs false

theorem indexByte_eq (l : List UInt8) (c : UInt8) : Lib.indexByte l c = idx1 c l := by
  induction l with
  | nil => rfl
  | cons a l ih =>
    simp only [Lib.indexByte, idx1, ih, beq_iff_eq]
    have := idx1_lo c l
    split
    · rfl
    · by_cases h : idx1 c l = -1
      · rw [if_pos h, if_pos (by omega)]
      · rw [if_neg h, if_neg (by omega)]

theorem idxB (s : ByteArray) (c : Int) (x : UInt8) (i : Int) (w : World) (hx : c.toNat.toUInt8 = x) (hi : idx1 x (bs s) = i) : Calls Tryd.prog 54 #[.string s, .int .u8 c] w fun e w' => e = .returned (.int .i64 i) ∧ w = w' := by
  have := Tryd.strings_IndexByte s c w
  rw [indexByte_eq, hx, bs_data, hi] at this
  exact this.mono fun e w' ⟨h1, h2⟩ => ⟨h1, h2.symm⟩

theorem bs_nil {g : ByteArray} : bs g = [] ↔ g.size = 0 := by
  rw [← bs_len]
  exact List.length_eq_zero_iff.symm

theorem head_bs {g : ByteArray} (h : 0 < g.size) : (bs g).head? = some (g[0]'h) := by
  have hl := bs_len g
  rw [List.head?_eq_getElem?, List.getElem?_eq_getElem (by omega)]
  rw [bs_at g 0 h (by omega)]

theorem emp_true {g : ByteArray} (h : g.size = 0) : g.toList.isEmpty = true := by
  rw [ByteArray.toList_eq, bs_data, bs_nil.2 h]; rfl
theorem emp_false {g : ByteArray} (h : g.size ≠ 0) : g.toList.isEmpty = false := by
  rw [ByteArray.toList_eq, bs_data, List.isEmpty_eq_false_iff]
  exact fun e => h (bs_nil.1 e)

end Go.Proofs.YtfnnahopbghndaaDoor.Fmt
