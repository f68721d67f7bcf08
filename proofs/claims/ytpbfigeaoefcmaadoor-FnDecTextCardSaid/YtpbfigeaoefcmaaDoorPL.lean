/- Plain lemmas on bytes, texts and lists, without memory: what the pure statements of this seat use. Conditions: as each theorem states them. -/
import Derived.Test.YtpbfigeaoefcmaaDoorHW
import Derived.Lib.Bytes
import Derived.Lib.IndexLaws
namespace Go.Proofs.YtpbfigeaoefcmaaDoor.PL
open Go.RowKit Go.Proofs.YtpbfigeaoefcmaaDoorW.PrintWords Go.Proofs.YtpbfigeaoefcmaaDoorW.PrintLast

theorem strOfNums_append (a b : List Int) : strOfNums (a ++ b) = strOfNums a ++ strOfNums b := by
  apply ByteArray.ext
  simp [strOfNums, ByteArray.data_append]
theorem strOfNums_bytesOf (s : ByteArray) : strOfNums (bytesOf s) = s := by
  apply ByteArray.ext
  show ((bytesOf s).map fun n => UInt8.ofNat n.toNat).toArray = s.data
  apply Array.ext'
  simp only [bytesOf, List.map_map]
  have : ((fun n : Int => UInt8.ofNat n.toNat) ∘ fun b : UInt8 => (b.toNat : Int)) = id := by
    funext b
    simp
  rw [this, List.map_id]
theorem bytesOf_append (a b : ByteArray) : bytesOf (a ++ b) = bytesOf a ++ bytesOf b := by
  simp [bytesOf, ByteArray.data_append]
theorem bytesOf_zero : bytesOf (⟨#[0]⟩ : ByteArray) = [0] := by decide +kernel
theorem toNums_bytesOf (s : ByteArray) : Lib.bytesOf (bytesOf s) = s.data.toList := by
  simp only [Lib.bytesOf, bytesOf, List.map_map]
  have : ((fun n : Int => UInt8.ofNat n.toNat) ∘ fun b : UInt8 => (b.toNat : Int)) = id := by
    funext b
    simp
  rw [this, List.map_id]
theorem toNums_append (a b : List Int) : Lib.bytesOf (a ++ b) = Lib.bytesOf a ++ Lib.bytesOf b := by simp [Lib.bytesOf]
theorem str_append_toList {a b c d : ByteArray} (h : a = c) (k : b = d) : (a ++ b).toList = (c ++ d).toList := by rw [h, k]

theorem indexByte_at (l : List UInt8) (c : UInt8) (r : List UInt8) (h : ∀ x ∈ l, x ≠ c) : Lib.indexByte (l ++ c :: r) c = (l.length : Int) := by
  induction l with
  | nil => simp [Lib.indexByte]
  | cons b l ih =>
    have hb : (b == c) = false := by simpa using h b (by simp)
    have ih := ih (fun x hx => h x (by simp [hx]))
    simp [Lib.indexByte, hb, ih]

/-- Has a text no byte 0? -/
theorem get_data (s : ByteArray) (j : Nat) (h : j < s.size) : s.get! j = s.data.toList[j]'(by simpa using h) := by
  simp [ByteArray.get!, getElem!_pos, h]
theorem plain_mem {s : ByteArray} (h : ∀ j, j < s.size → s.get! j ≠ 0) : ∀ x ∈ s.data.toList, x ≠ 0 := by
  intro x hx
  obtain ⟨j, hj, rfl⟩ := List.getElem_of_mem hx
  have hj' : j < s.size := by simpa using hj
  have := h j hj'
  rwa [get_data s j hj'] at this
theorem bt_get (s : ByteArray) (i : Int) (_h0 : 0 ≤ i) (h : i < (s.size : Int)) : bt s i = ((s.get! i.toNat).toNat : Int) := by
  have hi : i.toNat < s.size := by omega
  rw [bt, dif_pos hi]
  congr 1
  rw [get_data s _ hi]
  rfl
theorem bt_zero (s : ByteArray) (i : Int) (h0 : 0 ≤ i) (h : i < (s.size : Int)) : bt s i = 0 ↔ s.get! i.toNat = 0 := by
  rw [bt_get s i h0 h]
  constructor
  · intro hz
    exact UInt8.toNat_inj.1 (by show _ = 0; omega)
  · intro hz
    rw [hz]
    rfl
theorem wrap_id {x : Int} (h0 : -9223372036854775808 ≤ x) (h1 : x ≤ 9223372036854775807) : wrap64 x = x := by
  unfold wrap64
  omega
theorem wf_u8 {n : Int} (h : (Lit.int .u8 n).wf = true) : 0 ≤ n ∧ n ≤ 255 := by
  have h1 : IntKind.u8.min = 0 := by decide +kernel
  have h2 : IntKind.u8.max = 255 := by decide +kernel
  simp [Lit.wf, h1, h2] at h
  exact h
end Go.Proofs.YtpbfigeaoefcmaaDoor.PL
