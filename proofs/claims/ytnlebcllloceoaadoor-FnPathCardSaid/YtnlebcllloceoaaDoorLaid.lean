/- What the rows' list gives, and a world that meets it. -/
import Derived.Test.YtnlebcllloceoaaDoorLaw
import Derived.ProofKit
import Derived.OpenShut
import Derived.ShutString
import Derived.LaidMore
import Derived.LaidOnce
import Derived.Stop.Joined
import Derived.Stop.LaidErr
namespace Go.Proofs.YtnlebcllloceoaaDoor
open Go.ChangeShapes Go.WideShapes Go.ChangeAt Go.RowKit

theorem Tryd.errVar : Tryd.prog.globalNamed "strconv.ErrSyntax" = some 1 := by kernel_rfl
theorem Tryd.errVarType : (Tryd.prog.globals[1]?).map (·.type) = some 29 := by kernel_rfl
theorem Tryd.star : "*errors.errorString" = "*" ++ "errors.errorString" := by decide
theorem Tryd.row43 (u : TypeId) (h : Tryd.prog.typeName? 3 u = some "*errors.errorString") : u = 43 :=
  typeName_ptr_named (nm := "errors.errorString") (by rw [← Tryd.star]; kernel_rfl) (by kernel_rfl) (by decide) u (by rw [← Tryd.star]; exact h)
theorem Tryd.cells45 : Tryd.prog.cellsOf 45 = 1 := by kernel_rfl
theorem Tryd.cells9 : Tryd.prog.cellsOf 9 = 1 := by kernel_rfl

/-- The list of the rows. -/
def laidAll : List (String × DataW Unit) := [("math/bits.deBruijn32tab", Rows.laid_math_bits_deBruijn32tab), ("math/bits.deBruijn64tab", Rows.laid_math_bits_deBruijn64tab), ("internal/strconv.uint64pow10", Rows.laid_internal_strconv_uint64pow10), ("strconv.ErrRange", Rows.laid_strconv_ErrRange), ("strconv.ErrSyntax", Rows.laid_strconv_ErrSyntax)]

theorem holds_of_laid {W : World} (h : laidMet Tryd.prog laidAll W) : Holds W := by
  have h5 : laidMet Tryd.prog [("strconv.ErrSyntax", Rows.laid_strconv_ErrSyntax)] W := laidMet.tail (laidMet.tail (laidMet.tail (laidMet.tail h)))
  obtain ⟨a, s, hv, _⟩ := laid_sentinel h5 Tryd.errVar Tryd.errVarType Tryd.underlying29 Tryd.row43 Tryd.underlying43 Tryd.underlying45 rfl rfl Tryd.underlying9 Tryd.cells45 Tryd.cells9
  exact ⟨43, .pointer (some a), by simpa using World.var?_cell Tryd.errVar hv 0⟩

theorem own : ownKnob Tryd.prog.godebug = none := by kernel_rfl

theorem laid_met (os : Os) (args : Array Value) : laidMet Tryd.prog laidAll ((World.doorLaid Tryd.prog 62 os).forCall (fun _ _ => 0) ⟨#[], args, []⟩).memory :=
  laidMet_of_run' 8 (by kernel_rfl) (by kernel_rfl)
end Go.Proofs.YtnlebcllloceoaaDoor
