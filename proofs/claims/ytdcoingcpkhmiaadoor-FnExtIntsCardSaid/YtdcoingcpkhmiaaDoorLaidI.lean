/- What the listed variables hold, out of the rows' premise. Conditions: the premise itself. -/
import Derived.Test.YtdcoingcpkhmiaaDoorRows
import Derived.Test.YtdcoingcpkhmiaaDoorEin
import Derived.WalkKit
import Derived.ProofKit
import Derived.LaidLaws
import Derived.LaidHandle
import Derived.RowKitTokens
import Derived.Stop.LaidTwo
namespace Go.Proofs.YtdcoingcpkhmiaaDoor.LaidI
open Go.RowKit
theorem g0 : Tryd.prog.globalNamed "strconv.ErrSyntax" = some 0 := by kernel_rfl
theorem g1 : Tryd.prog.globalNamed "strconv.ErrRange" = some 1 := by kernel_rfl
theorem t0 : (Tryd.prog.globals[0]?).map (·.type) = some 30 := by kernel_rfl
theorem t1 : (Tryd.prog.globals[1]?).map (·.type) = some 30 := by kernel_rfl
theorem cellsS : Tryd.prog.cellsOf 45 = 1 := by kernel_rfl
theorem cells9 : Tryd.prog.cellsOf 9 = 1 := by kernel_rfl
theorem star : "*" ++ "errors.errorString" = "*errors.errorString" := by decide
theorem rowT (u : TypeId) (h : Tryd.prog.typeName? 3 u = some "*errors.errorString") : u = 43 :=
  typeName_ptr_named (nm := "errors.errorString") (by rw [star]; kernel_rfl) (by kernel_rfl) (by decide) u (by rw [star]; exact h)
theorem laidI_of {W : World} (h : laidMetH Tryd.prog Rows.fnExtIntsRow.laid W) : Ein.LaidE W := by
  have h' : laidMet Tryd.prog [("math/bits.deBruijn32tab", Rows.laid_math_bits_deBruijn32tab), ("math/bits.deBruijn64tab", Rows.laid_math_bits_deBruijn64tab), ("internal/strconv.uint64pow10", Rows.laid_internal_strconv_uint64pow10), ("strconv.ErrRange", Rows.laid_strconv_ErrRange), ("strconv.ErrSyntax", Rows.laid_strconv_ErrSyntax)] W := h
  have h3 := laidMet.tail (laidMet.tail (laidMet.tail h'))
  obtain ⟨a1, s1, hv1, _⟩ := laid_sentinel h3 g1 t1 Tryd.underlying30 rowT Tryd.underlying43 Tryd.underlying45 rfl rfl Tryd.underlying9 cellsS cells9
  obtain ⟨a0, s0, hv0, _⟩ := laid_sentinel (laidMet.tail h3) g0 t0 Tryd.underlying30 rowT Tryd.underlying43 Tryd.underlying45 rfl rfl Tryd.underlying9 cellsS cells9
  exact ⟨⟨43, _, by simpa using World.var?_cell g0 hv0 0⟩, ⟨43, _, by simpa using World.var?_cell g1 hv1 0⟩⟩
end Go.Proofs.YtdcoingcpkhmiaaDoor.LaidI
