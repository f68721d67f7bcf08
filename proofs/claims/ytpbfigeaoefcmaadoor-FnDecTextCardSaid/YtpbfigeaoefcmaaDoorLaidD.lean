/- What the listed table holds, out of the rows' premise. Conditions: the premise itself. -/
import Derived.Test.YtpbfigeaoefcmaaDoorRows
import Derived.Test.YtpbfigeaoefcmaaDoorIto
import Derived.WalkKit
import Derived.ProofKit
import Derived.LaidLaws
import Derived.LaidHandle
import Derived.RowKitTokens
import Derived.Stop.LaidTwo
import Derived.Lib.LaidTab
namespace Go.Proofs.YtpbfigeaoefcmaaDoor.LaidD
open Go.RowKit
theorem tT : (Tryd.prog.globals[0]?).map (·.type) = some 56 := by kernel_rfl
theorem cellsE : Tryd.prog.cellsOf 22 = 1 := by kernel_rfl
theorem cellsT : Tryd.prog.cellsOf 56 = 20 := by kernel_rfl
theorem laidD_of {W : World} (h : laidMetH Tryd.prog Rows.fnDecTextRow.laid W) : Ito.LaidT W := by
  have h' : laidMet Tryd.prog [("math/bits.deBruijn32tab", Rows.laid_math_bits_deBruijn32tab), ("math/bits.deBruijn64tab", Rows.laid_math_bits_deBruijn64tab), ("internal/strconv.uint64pow10", Rows.laid_internal_strconv_uint64pow10)] W := h
  have e : (Rows.laid_internal_strconv_uint64pow10 : DataW Unit) = Lib.tabData .u64 Lib.pow10Tab := rfl
  have h3 := laidMet.tail (laidMet.tail h')
  rw [e] at h3
  exact Lib.tabIs_of_head Ito.gT tT Tryd.underlying56 Tryd.underlying22 cellsE cellsT h3
end Go.Proofs.YtpbfigeaoefcmaaDoor.LaidD
