/- Plain lemmas on bytes, texts and lists, without memory: what the pure statements of this seat use. Conditions: as each theorem states them. -/
import Derived.Test.YtndpbbgniflckaaDoorHW
import Derived.Lib.Bytes
import Derived.Lib.IndexLaws
namespace Go.Proofs.YtndpbbgniflckaaDoor.PL
open Go.RowKit Go.Proofs.YtndpbbgniflckaaDoorW.PrintWords Go.Proofs.YtndpbbgniflckaaDoorW.PrintLast

theorem strOfNums_append (a b : List Int) : strOfNums (a ++ b) = strOfNums a ++ strOfNums b := by
  apply ByteArray.ext
  simp [strOfNums, ByteArray.data_append]


/-- Has a text no byte 0? -/
theorem get_data (s : ByteArray) (j : Nat) (h : j < s.size) : s.get! j = s.data.toList[j]'(by simpa using h) := by
  simp [ByteArray.get!, getElem!_pos, h]
theorem bt_get (s : ByteArray) (i : Int) (_h0 : 0 ≤ i) (h : i < (s.size : Int)) : bt s i = ((s.get! i.toNat).toNat : Int) := by
  have hi : i.toNat < s.size := by omega
  rw [bt, dif_pos hi]
  congr 1
  rw [get_data s _ hi]
  rfl
theorem bt_zero (s : ByteArray) (i : Int) (h0 : 0 ≤ i) (h : i < (s.size : Int)) : bt s i = 0 ↔ s.get! i.toNat = 0 := by
  rw [bt_get s i h0 h]
  constructor
  · intro hz
    exact UInt8.toNat_inj.1 (by show _ = 0; omega)
  · intro hz
    rw [hz]
    rfl
end Go.Proofs.YtndpbbgniflckaaDoor.PL
