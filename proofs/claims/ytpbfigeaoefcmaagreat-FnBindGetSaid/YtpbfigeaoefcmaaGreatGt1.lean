/- Plain laws on the told functions of this seat, without memory. Conditions: as each theorem states them. -/
import Derived.Test.YtpbfigeaoefcmaaGreatProg
import Derived.Test.YtpbfigeaoefcmaaGreatHW
import Derived.Below
import Derived.Deep.Draws
import Derived.OwnWalk
import Derived.Tactics
import Derived.WalkKit
import Derived.KernelRfl
import Derived.RowKit3
import Derived.Deep.LoopGhost
import Derived.Deep.QuietTactic
import Derived.BigQuiet
import Derived.WideLaws
import Derived.Deep.DeepCutAuto
import Derived.Deep.CutBlock
import Derived.Laws.Rows
import Derived.Outline
import Derived.StillTailTactics
import Derived.Deep.RegionHeld3
import Derived.Test.YtpbfigeaoefcmaaGreatGw
import Derived.Test.YtpbfigeaoefcmaaGreatPBgx10
namespace Go.Proofs.YtpbfigeaoefcmaaGreat.PBg.VT
open Go.RowKit Go.Proofs.YtpbfigeaoefcmaaGreatW.PrintWords Go.Proofs.YtpbfigeaoefcmaaGreatW.PrintLast Go.Proofs.YtpbfigeaoefcmaaGreatW.PrintMore
set_option linter.unusedVariables false
set_option linter.unusedSimpArgs false
theorem own_ok (x : List Int) (h : x.length ≤ 1000000) : impl_own.f x = some x := by
  unfold impl_own.f
  rw [if_pos (by simp only [List.length_nil]; omega), List.nil_append]
theorem rs_ok (m : Nat) (y : List Int) (hm : m + 1 ≤ 200000) (h : m + 1 ≤ y.length) (q : Nat) : bsoncore_readstring.f (q + 1) (le4 ((m + 1 : Nat) : Int) ++ y) = some (strOfNums (y.take m), y.drop (m + 1), true) := by
  unfold bsoncore_readstring.f
  have e1 : wrap32 (((m + 1 : Nat) : Int) - 1) = (m : Int) := by rw [w32 (by omega) (by omega)]; omega
  have e2 : (((m + 1 : Nat) : Int) == 0) = false := beq_eq_false_iff_ne.2 (by omega)
  rw [readlen (m + 1) y (by omega), Option.bind_some, if_pos rfl, if_pos (by rw [List.length_append, le4_length]; omega), if_neg (by rw [List.length_drop, List.length_append, le4_length, w64 (by omega) (by omega)]; omega), bsoncore_readstring.j0]
  simp only [e1, e2]
  rw [if_neg (by decide), if_pos (by omega), if_pos (by omega), if_pos (by omega), if_pos (by omega), Int.toNat_natCast, Int.toNat_natCast]
theorem cs_ok (a : ByteArray) (hs : a.size ≤ 1000000) (h : spec_DocPlain.f (a.size + 1) a = some true) (r : List Int) (hr : r.length ≤ 1000000) : binaryutil_ReadCString.f (bytesOf a ++ 0 :: r) = some (a, r, true) := by
  unfold binaryutil_ReadCString.f binaryutil_ReadCStringBytes.f
  have hlen : (bytesOf a ++ 0 :: r).length = a.size + 1 + r.length := by simp only [List.length_append, List.length_cons, bytesOf_length]; omega
  have e1 : wrap64 ((a.size : Int) + 1) = ((a.size + 1 : Nat) : Int) := by rw [w64 (by omega) (by omega)]; omega
  have ht : (bytesOf a ++ 0 :: r).take a.size = bytesOf a := by
    rw [← bytesOf_length a]
    exact List.take_left
  have hd : (bytesOf a ++ 0 :: r).drop (a.size + 1) = r := by
    rw [← bytesOf_length a, List.drop_append]
    simp
  rw [idx_plain a hs h r, Option.bind_some, if_neg (by omega), if_pos (by omega), if_pos (by omega), if_pos (by rw [e1]; omega), if_pos (by rw [e1]; omega), e1, Int.toNat_natCast, Int.toNat_natCast, ht, hd, Option.bind_some, if_pos rfl, PL.strOfNums_bytesOf]
theorem le8_back (n : Int) (h0 : 0 ≤ n) (h1 : n ≤ 18446744073709551615) : Lib.leZ (le8 n) = n := by
  simp only [le8, Lib.leZ]
  omega
theorem u64_le8 (n : Int) (h0 : 0 ≤ n) (h1 : n ≤ 18446744073709551615) (r : List Int) : binaryutil_ReadU64.f (le8 n ++ r) = some (n, r, true) := by
  have ht : (le8 n ++ r).take 8 = le8 n := List.take_left' (le8_length n)
  have hd : (le8 n ++ r).drop 8 = r := List.drop_left' (le8_length n)
  unfold binaryutil_ReadU64.f
  rw [if_neg (by rw [List.length_append, le8_length]; omega), if_pos (by rw [ht]; exact le8_wf n), ht, hd, le8_back n h0 h1]
theorem u32_le4 (n : Int) (h0 : 0 ≤ n) (h1 : n ≤ 4294967295) (r : List Int) : binaryutil_ReadU32.f (le4 n ++ r) = some (n, r, true) := by
  have ht : (le4 n ++ r).take 4 = le4 n := List.take_left' (le4_length n)
  have hd : (le4 n ++ r).drop 4 = r := List.drop_left' (le4_length n)
  have hw : ∀ z ∈ le4 n, (Lit.int .u8 z).wf = true := by
    intro z hz
    have : 0 ≤ z ∧ z ≤ 255 := by
      simp only [le4, List.mem_cons, List.not_mem_nil, or_false] at hz
      rcases hz with rfl | rfl | rfl | rfl <;> omega
    simp only [Lit.wf, Bool.and_eq_true, decide_eq_true_eq]
    exact ⟨by simpa [IntKind.min, IntKind.signed] using this.1, by simpa [IntKind.max, IntKind.signed, IntKind.bits] using this.2⟩
  have hb : Lib.leZ (le4 n) = n := by
    simp only [le4, Lib.leZ]
    omega
  unfold binaryutil_ReadU32.f
  rw [if_neg (by rw [List.length_append, le4_length]; omega), if_pos (by rw [ht]; exact hw), ht, hd, hb]
/-- What reading answers. -/
abbrev RO (k : Int) (x : List Int) (t m : ByteArray) (n b h : Int) (B _r : List Int) : Prop := Ev (fun q => impl_RawGet.f q k x k) (k, t, m, n, b, h, B, [], true)
theorem rb_double (n : Int) (h0 : 0 ≤ n) (h1 : n ≤ 18446744073709551615) (r : List Int) (hr : r.length ≤ 100000) : RO 1 (le8 n ++ r) ⟨#[]⟩ ⟨#[]⟩ 0 n 0 [] r := by
  refine ⟨1, fun q hq => ?_⟩
  obtain ⟨q, rfl⟩ : ∃ j, q = j + 1 := ⟨q - 1, by omega⟩
  show impl_RawGet.f (q + 1) 1 _ 1 = _
  unfold impl_RawGet.f
  rw [if_pos rfl, if_pos (by decide), u64_le8 n h0 h1, Option.bind_some, if_pos ⟨rfl, h0⟩]
theorem rb_text (k : Int) (hk : k = 2 ∨ k = 13 ∨ k = 14) (s : ByteArray) (hs : s.size ≤ 100000) (r : List Int) (hr : r.length ≤ 100000) : RO k (le4 ((s.size + 1 : Nat) : Int) ++ (bytesOf s ++ [0]) ++ r) s ⟨#[]⟩ 0 0 0 [] r := by
  have e : le4 ((s.size + 1 : Nat) : Int) ++ (bytesOf s ++ [0]) ++ r = le4 ((s.size + 1 : Nat) : Int) ++ (bytesOf s ++ (0 :: r)) := by simp only [List.append_assoc, List.cons_append, List.nil_append]
  have ht : (bytesOf s ++ (0 :: r)).take s.size = bytesOf s := List.take_left' (bytesOf_length s)
  have hd : (bytesOf s ++ (0 :: r)).drop (s.size + 1) = r := by
    rw [show bytesOf s ++ (0 :: r) = (bytesOf s ++ [0]) ++ r by simp]
    exact List.drop_left' (by rw [List.length_append, bytesOf_length]; rfl)
  have h := fun q => rs_ok s.size (bytesOf s ++ (0 :: r)) (by omega) (by simp only [List.length_append, List.length_cons, bytesOf_length]; omega) q
  rw [ht, hd, PL.strOfNums_bytesOf] at h
  refine ⟨1, fun q hq => ?_⟩
  obtain ⟨q, rfl⟩ : ∃ j, q = j + 1 := ⟨q - 1, by omega⟩
  show impl_RawGet.f (q + 1) k _ k = _
  rw [e]
  rcases hk with rfl | rfl | rfl
  · simp +decide only [impl_RawGet.f, impl_RawGetA.f, impl_RawGetA.j0, impl_some.f, bson_convertToCoreValue.f, bson_NewDecimal128.f, bson_Decimal128_GetBytes.f, bson_RawValue_StringValueOK.f, bsoncore_Value_StringValueOK.f, bson_RawValue_DocumentOK.f, bsoncore_Value_DocumentOK.f, bson_RawValue_ArrayOK.f, bsoncore_Value_ArrayOK.f, bson_RawValue_BinaryOK.f, bsoncore_Value_BinaryOK.f, bson_RawValue_BooleanOK.f, bsoncore_Value_BooleanOK.f, bson_RawValue_DateTimeOK.f, bsoncore_Value_DateTimeOK.f, bson_RawValue_RegexOK.f, bsoncore_Value_RegexOK.f, bson_RawValue_JavaScriptOK.f, bsoncore_Value_JavaScriptOK.f, bson_RawValue_SymbolOK.f, bsoncore_Value_SymbolOK.f, bson_RawValue_CodeWithScopeOK.f, bsoncore_Value_CodeWithScopeOK.f, bson_RawValue_Int32OK.f, bsoncore_Value_Int32OK.f, bson_RawValue_TimestampOK.f, bsoncore_Value_TimestampOK.f, bson_RawValue_Int64OK.f, bsoncore_Value_Int64OK.f, bson_RawValue_Decimal128OK.f, bsoncore_Value_Decimal128OK.f, bsoncore_ReadString.f, h, Option.bind_some, own_ok r (by omega : r.length ≤ 1000000), if_true]
    try rfl
  · simp +decide only [impl_RawGet.f, impl_RawGetA.f, impl_RawGetA.j0, impl_some.f, bson_convertToCoreValue.f, bson_NewDecimal128.f, bson_Decimal128_GetBytes.f, bson_RawValue_StringValueOK.f, bsoncore_Value_StringValueOK.f, bson_RawValue_DocumentOK.f, bsoncore_Value_DocumentOK.f, bson_RawValue_ArrayOK.f, bsoncore_Value_ArrayOK.f, bson_RawValue_BinaryOK.f, bsoncore_Value_BinaryOK.f, bson_RawValue_BooleanOK.f, bsoncore_Value_BooleanOK.f, bson_RawValue_DateTimeOK.f, bsoncore_Value_DateTimeOK.f, bson_RawValue_RegexOK.f, bsoncore_Value_RegexOK.f, bson_RawValue_JavaScriptOK.f, bsoncore_Value_JavaScriptOK.f, bson_RawValue_SymbolOK.f, bsoncore_Value_SymbolOK.f, bson_RawValue_CodeWithScopeOK.f, bsoncore_Value_CodeWithScopeOK.f, bson_RawValue_Int32OK.f, bsoncore_Value_Int32OK.f, bson_RawValue_TimestampOK.f, bsoncore_Value_TimestampOK.f, bson_RawValue_Int64OK.f, bsoncore_Value_Int64OK.f, bson_RawValue_Decimal128OK.f, bsoncore_Value_Decimal128OK.f, bsoncore_ReadJavaScript.f, h, Option.bind_some, own_ok r (by omega : r.length ≤ 1000000), if_true]
    try rfl
  · simp +decide only [impl_RawGet.f, impl_RawGetA.f, impl_RawGetA.j0, impl_some.f, bson_convertToCoreValue.f, bson_NewDecimal128.f, bson_Decimal128_GetBytes.f, bson_RawValue_StringValueOK.f, bsoncore_Value_StringValueOK.f, bson_RawValue_DocumentOK.f, bsoncore_Value_DocumentOK.f, bson_RawValue_ArrayOK.f, bsoncore_Value_ArrayOK.f, bson_RawValue_BinaryOK.f, bsoncore_Value_BinaryOK.f, bson_RawValue_BooleanOK.f, bsoncore_Value_BooleanOK.f, bson_RawValue_DateTimeOK.f, bsoncore_Value_DateTimeOK.f, bson_RawValue_RegexOK.f, bsoncore_Value_RegexOK.f, bson_RawValue_JavaScriptOK.f, bsoncore_Value_JavaScriptOK.f, bson_RawValue_SymbolOK.f, bsoncore_Value_SymbolOK.f, bson_RawValue_CodeWithScopeOK.f, bsoncore_Value_CodeWithScopeOK.f, bson_RawValue_Int32OK.f, bsoncore_Value_Int32OK.f, bson_RawValue_TimestampOK.f, bsoncore_Value_TimestampOK.f, bson_RawValue_Int64OK.f, bsoncore_Value_Int64OK.f, bson_RawValue_Decimal128OK.f, bsoncore_Value_Decimal128OK.f, bsoncore_ReadSymbol.f, h, Option.bind_some, own_ok r (by omega : r.length ≤ 1000000), if_true]
    try rfl
theorem rb_date (k : Int) (hk : k = 9 ∨ k = 18) (n : Int) (h0 : -9223372036854775808 ≤ n) (h1 : n < 9223372036854775808) (r : List Int) (hr : r.length ≤ 100000) (h : binaryutil_ReadI64.f (le8 (IntKind.u64.wrap n) ++ r) = some (n, r, true)) : RO k (le8 (IntKind.u64.wrap n) ++ r) ⟨#[]⟩ ⟨#[]⟩ n 0 0 [] r := by
  refine ⟨1, fun q hq => ?_⟩
  obtain ⟨q, rfl⟩ : ∃ j, q = j + 1 := ⟨q - 1, by omega⟩
  show impl_RawGet.f (q + 1) k _ k = _
  rcases hk with rfl | rfl
  · simp +decide only [impl_RawGet.f, impl_RawGetA.f, impl_RawGetA.j0, impl_some.f, bson_convertToCoreValue.f, bson_NewDecimal128.f, bson_Decimal128_GetBytes.f, bson_RawValue_StringValueOK.f, bsoncore_Value_StringValueOK.f, bson_RawValue_DocumentOK.f, bsoncore_Value_DocumentOK.f, bson_RawValue_ArrayOK.f, bsoncore_Value_ArrayOK.f, bson_RawValue_BinaryOK.f, bsoncore_Value_BinaryOK.f, bson_RawValue_BooleanOK.f, bsoncore_Value_BooleanOK.f, bson_RawValue_DateTimeOK.f, bsoncore_Value_DateTimeOK.f, bson_RawValue_RegexOK.f, bsoncore_Value_RegexOK.f, bson_RawValue_JavaScriptOK.f, bsoncore_Value_JavaScriptOK.f, bson_RawValue_SymbolOK.f, bsoncore_Value_SymbolOK.f, bson_RawValue_CodeWithScopeOK.f, bsoncore_Value_CodeWithScopeOK.f, bson_RawValue_Int32OK.f, bsoncore_Value_Int32OK.f, bson_RawValue_TimestampOK.f, bsoncore_Value_TimestampOK.f, bson_RawValue_Int64OK.f, bsoncore_Value_Int64OK.f, bson_RawValue_Decimal128OK.f, bsoncore_Value_Decimal128OK.f, bsoncore_ReadDateTime.f, h, Option.bind_some, own_ok r (by omega : r.length ≤ 1000000), if_true]
    try rfl
  · simp +decide only [impl_RawGet.f, impl_RawGetA.f, impl_RawGetA.j0, impl_some.f, bson_convertToCoreValue.f, bson_NewDecimal128.f, bson_Decimal128_GetBytes.f, bson_RawValue_StringValueOK.f, bsoncore_Value_StringValueOK.f, bson_RawValue_DocumentOK.f, bsoncore_Value_DocumentOK.f, bson_RawValue_ArrayOK.f, bsoncore_Value_ArrayOK.f, bson_RawValue_BinaryOK.f, bsoncore_Value_BinaryOK.f, bson_RawValue_BooleanOK.f, bsoncore_Value_BooleanOK.f, bson_RawValue_DateTimeOK.f, bsoncore_Value_DateTimeOK.f, bson_RawValue_RegexOK.f, bsoncore_Value_RegexOK.f, bson_RawValue_JavaScriptOK.f, bsoncore_Value_JavaScriptOK.f, bson_RawValue_SymbolOK.f, bsoncore_Value_SymbolOK.f, bson_RawValue_CodeWithScopeOK.f, bsoncore_Value_CodeWithScopeOK.f, bson_RawValue_Int32OK.f, bsoncore_Value_Int32OK.f, bson_RawValue_TimestampOK.f, bsoncore_Value_TimestampOK.f, bson_RawValue_Int64OK.f, bsoncore_Value_Int64OK.f, bson_RawValue_Decimal128OK.f, bsoncore_Value_Decimal128OK.f, bsoncore_ReadInt64.f, h, Option.bind_some, own_ok r (by omega : r.length ≤ 1000000), if_true]
    try rfl
theorem lb_ok (m : Nat) (y : List Int) (hm : m ≤ 200000) (h4 : 4 ≤ m) (h : m ≤ y.length + 4) : bsoncore_readLengthBytes.f (le4 (m : Int) ++ y) = some ((le4 (m : Int) ++ y).take m, (le4 (m : Int) ++ y).drop m, true) := by
  unfold bsoncore_readLengthBytes.f
  rw [readlen m y (by omega), Option.bind_some, if_pos rfl, if_neg (by omega), if_neg (by rw [List.length_append, le4_length, w64 (by omega) (by omega)]; omega), if_pos (by omega), if_pos (by rw [List.length_append, le4_length]; omega)]
  simp only [Int.toNat_natCast]
  try rfl
theorem rb_doc (k : Int) (hk : k = 3 ∨ k = 4) (b : List Int) (hb : b.length ≤ 100000) (r : List Int) (hr : r.length ≤ 100000) : RO k (le4 ((b.length + 5 : Nat) : Int) ++ (b ++ [0]) ++ r) ⟨#[]⟩ ⟨#[]⟩ 0 0 0 (le4 ((b.length + 5 : Nat) : Int) ++ (b ++ [0])) r := by
  have e : le4 ((b.length + 5 : Nat) : Int) ++ (b ++ [0]) ++ r = le4 ((b.length + 5 : Nat) : Int) ++ ((b ++ [0]) ++ r) := by simp only [List.append_assoc]
  have hl : (le4 ((b.length + 5 : Nat) : Int) ++ (b ++ [0])).length = b.length + 5 := by simp only [List.length_append, le4_length, List.length_cons, List.length_nil]; omega
  have h := lb_ok (b.length + 5) ((b ++ [0]) ++ r) (by omega) (by omega) (by simp only [List.length_append, List.length_cons, List.length_nil]; omega)
  rw [← e] at h
  rw [List.take_left' hl, List.drop_left' hl] at h
  have o := own_ok (le4 ((b.length + 5 : Nat) : Int) ++ (b ++ [0])) (by omega)
  refine ⟨1, fun q hq => ?_⟩
  obtain ⟨q, rfl⟩ : ∃ j, q = j + 1 := ⟨q - 1, by omega⟩
  show impl_RawGet.f (q + 1) k _ k = _
  rcases hk with rfl | rfl
  · simp +decide only [impl_RawGet.f, impl_RawGetA.f, impl_RawGetA.j0, impl_some.f, bson_convertToCoreValue.f, bson_NewDecimal128.f, bson_Decimal128_GetBytes.f, bson_RawValue_StringValueOK.f, bsoncore_Value_StringValueOK.f, bson_RawValue_DocumentOK.f, bsoncore_Value_DocumentOK.f, bson_RawValue_ArrayOK.f, bsoncore_Value_ArrayOK.f, bson_RawValue_BinaryOK.f, bsoncore_Value_BinaryOK.f, bson_RawValue_BooleanOK.f, bsoncore_Value_BooleanOK.f, bson_RawValue_DateTimeOK.f, bsoncore_Value_DateTimeOK.f, bson_RawValue_RegexOK.f, bsoncore_Value_RegexOK.f, bson_RawValue_JavaScriptOK.f, bsoncore_Value_JavaScriptOK.f, bson_RawValue_SymbolOK.f, bsoncore_Value_SymbolOK.f, bson_RawValue_CodeWithScopeOK.f, bsoncore_Value_CodeWithScopeOK.f, bson_RawValue_Int32OK.f, bsoncore_Value_Int32OK.f, bson_RawValue_TimestampOK.f, bsoncore_Value_TimestampOK.f, bson_RawValue_Int64OK.f, bsoncore_Value_Int64OK.f, bson_RawValue_Decimal128OK.f, bsoncore_Value_Decimal128OK.f, bsoncore_ReadDocument.f, h, Option.bind_some, own_ok r (by omega : r.length ≤ 1000000), o, if_true]
    try rfl
  · simp +decide only [impl_RawGet.f, impl_RawGetA.f, impl_RawGetA.j0, impl_some.f, bson_convertToCoreValue.f, bson_NewDecimal128.f, bson_Decimal128_GetBytes.f, bson_RawValue_StringValueOK.f, bsoncore_Value_StringValueOK.f, bson_RawValue_DocumentOK.f, bsoncore_Value_DocumentOK.f, bson_RawValue_ArrayOK.f, bsoncore_Value_ArrayOK.f, bson_RawValue_BinaryOK.f, bsoncore_Value_BinaryOK.f, bson_RawValue_BooleanOK.f, bsoncore_Value_BooleanOK.f, bson_RawValue_DateTimeOK.f, bsoncore_Value_DateTimeOK.f, bson_RawValue_RegexOK.f, bsoncore_Value_RegexOK.f, bson_RawValue_JavaScriptOK.f, bsoncore_Value_JavaScriptOK.f, bson_RawValue_SymbolOK.f, bsoncore_Value_SymbolOK.f, bson_RawValue_CodeWithScopeOK.f, bsoncore_Value_CodeWithScopeOK.f, bson_RawValue_Int32OK.f, bsoncore_Value_Int32OK.f, bson_RawValue_TimestampOK.f, bsoncore_Value_TimestampOK.f, bson_RawValue_Int64OK.f, bsoncore_Value_Int64OK.f, bson_RawValue_Decimal128OK.f, bsoncore_Value_Decimal128OK.f, bsoncore_ReadArray.f, h, Option.bind_some, own_ok r (by omega : r.length ≤ 1000000), o, if_true]
    try rfl
theorem oid_row (b : List Int) (hb : b.length = 12) (r : List Int) : oidRow (b ++ r) = b := by
  match b, hb with
  | [_, _, _, _, _, _, _, _, _, _, _, _], _ => rfl
theorem rb_oid (b : List Int) (hb : b.length = 12) (r : List Int) (hr : r.length ≤ 100000) : RO 7 (b ++ r) ⟨#[]⟩ ⟨#[]⟩ 0 0 0 b r := by
  refine ⟨1, fun q hq => ?_⟩
  obtain ⟨q, rfl⟩ : ∃ j, q = j + 1 := ⟨q - 1, by omega⟩
  show impl_RawGet.f (q + 1) 7 _ 7 = _
  have hl : ¬ (b ++ r).length < 12 := by rw [List.length_append]; omega
  have hd : (b ++ r).drop 12 = r := List.drop_left' hb
  have ho : (impl_own.f (oidRow (b ++ r))) = some b := by rw [oid_row b hb]; exact own_ok b (by omega)
  simp +decide only [impl_RawGet.f, impl_RawGetA.f, impl_RawGetA.j0, impl_some.f, bson_convertToCoreValue.f, bson_NewDecimal128.f, bson_Decimal128_GetBytes.f, bson_RawValue_StringValueOK.f, bsoncore_Value_StringValueOK.f, bson_RawValue_DocumentOK.f, bsoncore_Value_DocumentOK.f, bson_RawValue_ArrayOK.f, bsoncore_Value_ArrayOK.f, bson_RawValue_BinaryOK.f, bsoncore_Value_BinaryOK.f, bson_RawValue_BooleanOK.f, bsoncore_Value_BooleanOK.f, bson_RawValue_DateTimeOK.f, bsoncore_Value_DateTimeOK.f, bson_RawValue_RegexOK.f, bsoncore_Value_RegexOK.f, bson_RawValue_JavaScriptOK.f, bsoncore_Value_JavaScriptOK.f, bson_RawValue_SymbolOK.f, bsoncore_Value_SymbolOK.f, bson_RawValue_CodeWithScopeOK.f, bsoncore_Value_CodeWithScopeOK.f, bson_RawValue_Int32OK.f, bsoncore_Value_Int32OK.f, bson_RawValue_TimestampOK.f, bsoncore_Value_TimestampOK.f, bson_RawValue_Int64OK.f, bsoncore_Value_Int64OK.f, bson_RawValue_Decimal128OK.f, bsoncore_Value_Decimal128OK.f, hl, hd, ho, Option.bind_some, own_ok r (by omega : r.length ≤ 1000000), if_false, if_true]
  try rfl
theorem rb_ptr (s : ByteArray) (hs : s.size ≤ 100000) (b : List Int) (hb : b.length = 12) (r : List Int) (hr : r.length ≤ 100000) : RO 12 (le4 ((s.size + 1 : Nat) : Int) ++ (bytesOf s ++ ([0] ++ b)) ++ r) s ⟨#[]⟩ 0 0 0 b r := by
  have e : le4 ((s.size + 1 : Nat) : Int) ++ (bytesOf s ++ ([0] ++ b)) ++ r = le4 ((s.size + 1 : Nat) : Int) ++ (bytesOf s ++ (0 :: (b ++ r))) := by simp only [List.append_assoc, List.cons_append, List.nil_append]
  have ht : (bytesOf s ++ (0 :: (b ++ r))).take s.size = bytesOf s := List.take_left' (bytesOf_length s)
  have hd : (bytesOf s ++ (0 :: (b ++ r))).drop (s.size + 1) = b ++ r := by
    rw [show bytesOf s ++ (0 :: (b ++ r)) = (bytesOf s ++ [0]) ++ (b ++ r) by simp]
    exact List.drop_left' (by rw [List.length_append, bytesOf_length]; rfl)
  have h := fun q => rs_ok s.size (bytesOf s ++ (0 :: (b ++ r))) (by omega) (by simp only [List.length_append, List.length_cons, bytesOf_length]; omega) q
  rw [ht, hd, PL.strOfNums_bytesOf] at h
  have hl : ¬ (b ++ r).length < 12 := by rw [List.length_append]; omega
  have hd' : (b ++ r).drop 12 = r := List.drop_left' hb
  have ho : (impl_own.f (oidRow (b ++ r))) = some b := by rw [oid_row b hb]; exact own_ok b (by omega)
  refine ⟨1, fun q hq => ?_⟩
  obtain ⟨q, rfl⟩ : ∃ j, q = j + 1 := ⟨q - 1, by omega⟩
  show impl_RawGet.f (q + 1) 12 _ 12 = _
  rw [e]
  unfold impl_RawGet.f
  rw [if_neg (by decide), if_neg (by decide), if_pos rfl, if_pos (by decide), h, Option.bind_some, if_pos ⟨rfl, by show 12 ≤ (b ++ r).length; omega⟩, ho]
  try rfl

end Go.Proofs.YtpbfigeaoefcmaaGreat.PBg.VT
