/- What the listed sentinel holds, out of the row's premise. Conditions: the premise itself. -/
import Derived.Test.YtbfhpjkahobgnaaGreatDoorRows
import Derived.Test.YtbfhpjkahobgnaaGreatDoorPIxx6
import Derived.WalkKit
import Derived.ProofKit
import Derived.LaidLaws
import Derived.LaidHandle
import Derived.RowKitTokens
import Derived.Stop.LaidErr
namespace Go.Proofs.YtbfhpjkahobgnaaGreatDoor.LaidX
open Go.RowKit
theorem g0 : Tryz.prog.globalNamed "pub-gunnysack/pub/bsoncore.ErrOutOfBounds" = some 0 := by kernel_rfl
theorem t0 : (Tryz.prog.globals[0]?).map (·.type) = some 59 := by kernel_rfl
theorem cellsE : Tryz.prog.cellsOf 262 = 1 := by kernel_rfl
theorem cellsS : Tryz.prog.cellsOf 9 = 1 := by kernel_rfl
theorem star : "*" ++ "errors.errorString" = "*errors.errorString" := by decide
theorem rowE (u : TypeId) (h : Tryz.prog.typeName? 3 u = some "*errors.errorString") : u = 260 :=
  typeName_ptr_named (nm := "errors.errorString") (by rw [star]; kernel_rfl) (by kernel_rfl) (by decide) u (by rw [star]; exact h)
theorem cell_lt {w : World} {b : Nat} {v : Value} (h : w.cell? ⟨b, 0, none⟩ = some v) : b < w.heap.size := by
  rcases Nat.lt_or_ge b w.heap.size with g | g
  · exact g
  · simp [World.cell?, Array.getElem?_eq_none g] at h
theorem sent_of {W : World} (h : laidMetH Tryz.prog Rows.fnDocAnyIndexRow.laid W) : PIx.Sent W := by
  have h' : laidMet Tryz.prog [("math/bits.deBruijn32tab", Rows.laid_math_bits_deBruijn32tab), ("math/bits.deBruijn64tab", Rows.laid_math_bits_deBruijn64tab), ("internal/strconv.uint64pow10", Rows.laid_internal_strconv_uint64pow10), ("io.EOF", Rows.laid_io_EOF), ("pub-gunnysack/pub/bsoncore.ErrEmptyKey", Rows.laid_pub_gunnysack_pub_bsoncore_ErrEmptyKey), ("pub-gunnysack/pub/bsoncore.ErrElementNotFound", Rows.laid_pub_gunnysack_pub_bsoncore_ErrElementNotFound), ("pub-gunnysack/pub/bsoncore.ErrOutOfBounds", Rows.laid_pub_gunnysack_pub_bsoncore_ErrOutOfBounds)] W := h
  obtain ⟨a, s, hv, _⟩ := laid_sentinel (laidMet.tail (laidMet.tail (laidMet.tail (laidMet.tail (laidMet.tail (laidMet.tail h')))))) g0 t0 Tryz.underlying59 rowE Tryz.underlying260 Tryz.underlying262 rfl rfl Tryz.underlying9 cellsE cellsS
  have hc : W.cell? ⟨0, 0, none⟩ = some (.iface 260 (.pointer (some a))) := by simpa using World.var?_cell g0 hv 0
  exact ⟨a, hc, cell_lt hc⟩
end Go.Proofs.YtbfhpjkahobgnaaGreatDoor.LaidX
