/- What the listed variables of strconv hold when the call begins: errors. -/
import Derived.Test.YtfnnahopbghndaaDoorRows
import Derived.ProofKit
import Derived.LaidMore
import Derived.OpenShut
import Derived.Stop.Joined
import Derived.Stop.LaidErr
namespace Go.Proofs.YtfnnahopbghndaaDoor.Errs
open Go.ChangeShapes Go.WideShapes Go.ChangeAt Go.WideMaps Go.WideElems Go.RowKit
set_option linter.unusedVariables false
theorem gS : Tryd.prog.globalNamed "strconv.ErrSyntax" = some 1 := by kernel_rfl
theorem gR : Tryd.prog.globalNamed "strconv.ErrRange" = some 2 := by kernel_rfl
theorem gST : (Tryd.prog.globals[1]?).map (·.type) = some 39 := by kernel_rfl
theorem gRT : (Tryd.prog.globals[2]?).map (·.type) = some 39 := by kernel_rfl
theorem cE : Tryd.prog.cellsOf 73 = 1 := by kernel_rfl
theorem cS : Tryd.prog.cellsOf 9 = 1 := by kernel_rfl
theorem star : "*" ++ "errors.errorString" = "*errors.errorString" := by decide
theorem row (u : TypeId) (h : Tryd.prog.typeName? 3 u = some "*errors.errorString") : u = 71 :=
  typeName_ptr_named (nm := "errors.errorString") (by rw [star]; kernel_rfl) (by kernel_rfl) (by decide) u (by rw [star]; exact h)
/-- An error in a variable. -/
def Var (w : World) (g : Nat) : Prop := ∃ a : Addr, w.cell? ⟨g, 0, none⟩ = some (.iface 71 (.pointer (some a)))
theorem of_laid {W : World} (h : laidMetH Tryd.prog Rows.fnJIPv4Row.laid W) : Var W 1 ∧ Var W 2 := by
  rw [MakeChecks.laidMetH_plain _ _ _ (by kernel_rfl)] at h
  have h3 := laidMet.tail (laidMet.tail (laidMet.tail h))
  obtain ⟨a0, s0, hv0, _, _, _⟩ := laid_sentinel h3 gR gRT Tryd.underlying39 row Tryd.underlying71 Tryd.underlying73 rfl rfl Tryd.underlying9 cE cS
  obtain ⟨a1, s1, hv1, _, _, _⟩ := laid_sentinel (laidMet.tail h3) gS gST Tryd.underlying39 row Tryd.underlying71 Tryd.underlying73 rfl rfl Tryd.underlying9 cE cS
  exact ⟨⟨a1, by simpa using World.var?_cell gS hv1 0⟩, ⟨a0, by simpa using World.var?_cell gR hv0 0⟩⟩
end Go.Proofs.YtfnnahopbghndaaDoor.Errs
