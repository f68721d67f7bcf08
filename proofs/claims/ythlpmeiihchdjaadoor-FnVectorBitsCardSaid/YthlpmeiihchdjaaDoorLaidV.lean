/- What the listed variables hold, out of the rows' premise. Conditions: the premise itself. -/
import Derived.Test.YthlpmeiihchdjaaDoorRows
import Derived.Test.YthlpmeiihchdjaaDoorVec
import Derived.WalkKit
import Derived.ProofKit
import Derived.LaidLaws
import Derived.LaidHandle
import Derived.RowKitTokens
import Derived.Stop.LaidTwo
namespace Go.Proofs.YthlpmeiihchdjaaDoor.LaidV
open Go.RowKit
theorem g0 : Tryd.prog.globalNamed "pub-gunnysack/pub/bson.errVectorPaddingTooLarge" = some 0 := by kernel_rfl
theorem g1 : Tryd.prog.globalNamed "pub-gunnysack/pub/bson.errNonZeroVectorPadding" = some 1 := by kernel_rfl
theorem g2 : Tryd.prog.globalNamed "pub-gunnysack/pub/bson.errInsufficientVectorData" = some 2 := by kernel_rfl
theorem t0 : (Tryd.prog.globals[0]?).map (·.type) = some 46 := by kernel_rfl
theorem t1 : (Tryd.prog.globals[1]?).map (·.type) = some 46 := by kernel_rfl
theorem t2 : (Tryd.prog.globals[2]?).map (·.type) = some 46 := by kernel_rfl
theorem cells98 : Tryd.prog.cellsOf 98 = 1 := by kernel_rfl
theorem cells9 : Tryd.prog.cellsOf 9 = 1 := by kernel_rfl
theorem star : "*" ++ "errors.errorString" = "*errors.errorString" := by decide
theorem row96 (u : TypeId) (h : Tryd.prog.typeName? 3 u = some "*errors.errorString") : u = 96 :=
  typeName_ptr_named (nm := "errors.errorString") (by rw [star]; kernel_rfl) (by kernel_rfl) (by decide) u (by rw [star]; exact h)
theorem laidV_of {W : World} (h : laidMetH Tryd.prog Rows.fnVectorBitsRow.laid W) : Vec.LaidV W := by
  have h' : laidMet Tryd.prog [("pub-gunnysack/pub/bson.errInsufficientVectorData", Rows.laid_pub_gunnysack_pub_bson_errInsufficientVectorData), ("pub-gunnysack/pub/bson.errNonZeroVectorPadding", Rows.laid_pub_gunnysack_pub_bson_errNonZeroVectorPadding), ("pub-gunnysack/pub/bson.errVectorPaddingTooLarge", Rows.laid_pub_gunnysack_pub_bson_errVectorPaddingTooLarge)] W := h
  obtain ⟨a2, s2, hv2, _⟩ := laid_sentinel h' g2 t2 Tryd.underlying46 row96 Tryd.underlying96 Tryd.underlying98 rfl rfl Tryd.underlying9 cells98 cells9
  obtain ⟨a1, s1, hv1, _⟩ := laid_sentinel (laidMet.tail h') g1 t1 Tryd.underlying46 row96 Tryd.underlying96 Tryd.underlying98 rfl rfl Tryd.underlying9 cells98 cells9
  obtain ⟨a0, s0, hv0, _⟩ := laid_sentinel (laidMet.tail (laidMet.tail h')) g0 t0 Tryd.underlying46 row96 Tryd.underlying96 Tryd.underlying98 rfl rfl Tryd.underlying9 cells98 cells9
  exact ⟨⟨96, _, by simpa using World.var?_cell g0 hv0 0⟩, ⟨96, _, by simpa using World.var?_cell g1 hv1 0⟩, ⟨96, _, by simpa using World.var?_cell g2 hv2 0⟩⟩
end Go.Proofs.YthlpmeiihchdjaaDoor.LaidV
