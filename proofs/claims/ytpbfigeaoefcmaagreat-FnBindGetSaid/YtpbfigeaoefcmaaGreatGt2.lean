/- Plain laws on the told functions of this seat, without memory. Conditions: as each theorem states them. -/
import Derived.Test.YtpbfigeaoefcmaaGreatProg
import Derived.Test.YtpbfigeaoefcmaaGreatHW
import Derived.Below
import Derived.Deep.Draws
import Derived.OwnWalk
import Derived.Tactics
import Derived.WalkKit
import Derived.KernelRfl
import Derived.RowKit3
import Derived.Deep.LoopGhost
import Derived.Deep.QuietTactic
import Derived.BigQuiet
import Derived.WideLaws
import Derived.Deep.DeepCutAuto
import Derived.Deep.CutBlock
import Derived.Laws.Rows
import Derived.Outline
import Derived.StillTailTactics
import Derived.Deep.RegionHeld3
import Derived.Test.YtpbfigeaoefcmaaGreatGt1
namespace Go.Proofs.YtpbfigeaoefcmaaGreat.PBg.VT
open Go.RowKit Go.Proofs.YtpbfigeaoefcmaaGreatW.PrintWords Go.Proofs.YtpbfigeaoefcmaaGreatW.PrintLast Go.Proofs.YtpbfigeaoefcmaaGreatW.PrintMore
set_option linter.unusedVariables false
set_option linter.unusedSimpArgs false
theorem readI64x (n : Int) (h0 : -9223372036854775808 ≤ n) (h1 : n < 9223372036854775808) (x : List Int) : binaryutil_ReadI64.f (le8 n ++ x) = some (n, x, true) := by
  have w0 : wrap64 (rd (le8 n ++ x) 0) = n % 256 := by show wrap64 (n % 256) = _; unfold wrap64; omega
  have w1 : wrap64 (wrap64 (rd (le8 n ++ x) 1) * 256) = n / 256 % 256 * 256 := by show wrap64 (wrap64 (n / 256 % 256) * 256) = _; unfold wrap64; omega
  have w2 : wrap64 (wrap64 (rd (le8 n ++ x) 2) * 65536) = n / 65536 % 256 * 65536 := by show wrap64 (wrap64 (n / 65536 % 256) * 65536) = _; unfold wrap64; omega
  have w3 : wrap64 (wrap64 (rd (le8 n ++ x) 3) * 16777216) = n / 16777216 % 256 * 16777216 := by show wrap64 (wrap64 (n / 16777216 % 256) * 16777216) = _; unfold wrap64; omega
  have w4 : wrap64 (wrap64 (rd (le8 n ++ x) 4) * 4294967296) = n / 4294967296 % 256 * 4294967296 := by show wrap64 (wrap64 (n / 4294967296 % 256) * 4294967296) = _; unfold wrap64; omega
  have w5 : wrap64 (wrap64 (rd (le8 n ++ x) 5) * 1099511627776) = n / 1099511627776 % 256 * 1099511627776 := by show wrap64 (wrap64 (n / 1099511627776 % 256) * 1099511627776) = _; unfold wrap64; omega
  have w6 : wrap64 (wrap64 (rd (le8 n ++ x) 6) * 281474976710656) = n / 281474976710656 % 256 * 281474976710656 := by show wrap64 (wrap64 (n / 281474976710656 % 256) * 281474976710656) = _; unfold wrap64; omega
  have w7 : wrap64 (wrap64 (rd (le8 n ++ x) 7) * 72057594037927936) = wrap64 (n / 72057594037927936 % 256 * 72057594037927936) := by show wrap64 (wrap64 (n / 72057594037927936 % 256) * 72057594037927936) = _; unfold wrap64; omega
  have hl : (le8 n ++ x).length = x.length + 8 := by rw [List.length_append, le8_length]; omega
  unfold binaryutil_ReadI64.f
  rw [w0, w1, w2, w3, w4, w5, w6, w7, hl, if_neg (by omega), if_pos (by omega), if_pos (by omega), if_pos (by omega), if_pos (by omega), if_pos (by omega), if_pos (by omega), if_pos (by omega), if_pos (by omega), if_pos (by omega)]
  rw [or_high .i64 8 (by decide) (n % 256) _ (by omega) (by omega) (by omega)]
  rw [wrap_i64', show wrap64 (n % 256 + n / 256 % 256 * 256) = n % 65536 by unfold wrap64; omega]
  rw [or_high .i64 16 (by decide) (n % 65536) _ (by omega) (by omega) (by omega)]
  rw [wrap_i64', show wrap64 (n % 65536 + n / 65536 % 256 * 65536) = n % 16777216 by unfold wrap64; omega]
  rw [or_high .i64 24 (by decide) (n % 16777216) _ (by omega) (by omega) (by omega)]
  rw [wrap_i64', show wrap64 (n % 16777216 + n / 16777216 % 256 * 16777216) = n % 4294967296 by unfold wrap64; omega]
  rw [or_high .i64 32 (by decide) (n % 4294967296) _ (by omega) (by omega) (by omega)]
  rw [wrap_i64', show wrap64 (n % 4294967296 + n / 4294967296 % 256 * 4294967296) = n % 1099511627776 by unfold wrap64; omega]
  rw [or_high .i64 40 (by decide) (n % 1099511627776) _ (by omega) (by omega) (by omega)]
  rw [wrap_i64', show wrap64 (n % 1099511627776 + n / 1099511627776 % 256 * 1099511627776) = n % 281474976710656 by unfold wrap64; omega]
  rw [or_high .i64 48 (by decide) (n % 281474976710656) _ (by omega) (by omega) (by omega)]
  rw [wrap_i64', show wrap64 (n % 281474976710656 + n / 281474976710656 % 256 * 281474976710656) = n % 72057594037927936 by unfold wrap64; omega]
  rw [or_high .i64 56 (by decide) (n % 72057594037927936) _ (by omega) (by omega) (by unfold wrap64; omega)]
  rw [wrap_i64', show wrap64 (n % 72057594037927936 + wrap64 (n / 72057594037927936 % 256 * 72057594037927936)) = n by unfold wrap64; omega]
  rfl
theorem rb_bool (n : Int) (hn : n = 0 ∨ n = 1) (r : List Int) (hr : r.length ≤ 100000) : RO 8 ([n % 256] ++ r) ⟨#[]⟩ ⟨#[]⟩ n 0 0 [] r := by
  have h : bsoncore_ReadBoolean.f ([n % 256] ++ r) = some ((n % 256 == 1), r, true) := by
    unfold bsoncore_ReadBoolean.f
    have hl : ([n % 256] ++ r).length = r.length + 1 := rfl
    rw [hl, if_neg (by omega), if_pos (by omega), if_pos (by omega)]
    rfl
  refine ⟨1, fun q hq => ?_⟩
  obtain ⟨q, rfl⟩ : ∃ j, q = j + 1 := ⟨q - 1, by omega⟩
  show impl_RawGet.f (q + 1) 8 _ 8 = _
  rcases hn with rfl | rfl
  · simp +decide only [impl_RawGet.f, impl_RawGetA.f, impl_RawGetA.j0, impl_some.f, bson_convertToCoreValue.f, bson_NewDecimal128.f, bson_Decimal128_GetBytes.f, bson_RawValue_StringValueOK.f, bsoncore_Value_StringValueOK.f, bson_RawValue_DocumentOK.f, bsoncore_Value_DocumentOK.f, bson_RawValue_ArrayOK.f, bsoncore_Value_ArrayOK.f, bson_RawValue_BinaryOK.f, bsoncore_Value_BinaryOK.f, bson_RawValue_BooleanOK.f, bsoncore_Value_BooleanOK.f, bson_RawValue_DateTimeOK.f, bsoncore_Value_DateTimeOK.f, bson_RawValue_RegexOK.f, bsoncore_Value_RegexOK.f, bson_RawValue_JavaScriptOK.f, bsoncore_Value_JavaScriptOK.f, bson_RawValue_SymbolOK.f, bsoncore_Value_SymbolOK.f, bson_RawValue_CodeWithScopeOK.f, bsoncore_Value_CodeWithScopeOK.f, bson_RawValue_Int32OK.f, bsoncore_Value_Int32OK.f, bson_RawValue_TimestampOK.f, bsoncore_Value_TimestampOK.f, bson_RawValue_Int64OK.f, bsoncore_Value_Int64OK.f, bson_RawValue_Decimal128OK.f, bsoncore_Value_Decimal128OK.f, h, Option.bind_some, own_ok r (by omega : r.length ≤ 1000000), if_true]
    try rfl
  · simp +decide only [impl_RawGet.f, impl_RawGetA.f, impl_RawGetA.j0, impl_some.f, bson_convertToCoreValue.f, bson_NewDecimal128.f, bson_Decimal128_GetBytes.f, bson_RawValue_StringValueOK.f, bsoncore_Value_StringValueOK.f, bson_RawValue_DocumentOK.f, bsoncore_Value_DocumentOK.f, bson_RawValue_ArrayOK.f, bsoncore_Value_ArrayOK.f, bson_RawValue_BinaryOK.f, bsoncore_Value_BinaryOK.f, bson_RawValue_BooleanOK.f, bsoncore_Value_BooleanOK.f, bson_RawValue_DateTimeOK.f, bsoncore_Value_DateTimeOK.f, bson_RawValue_RegexOK.f, bsoncore_Value_RegexOK.f, bson_RawValue_JavaScriptOK.f, bsoncore_Value_JavaScriptOK.f, bson_RawValue_SymbolOK.f, bsoncore_Value_SymbolOK.f, bson_RawValue_CodeWithScopeOK.f, bsoncore_Value_CodeWithScopeOK.f, bson_RawValue_Int32OK.f, bsoncore_Value_Int32OK.f, bson_RawValue_TimestampOK.f, bsoncore_Value_TimestampOK.f, bson_RawValue_Int64OK.f, bsoncore_Value_Int64OK.f, bson_RawValue_Decimal128OK.f, bsoncore_Value_Decimal128OK.f, h, Option.bind_some, own_ok r (by omega : r.length ≤ 1000000), if_true]
    try rfl
theorem rb_i32 (n : Int) (h0 : -2147483648 ≤ n) (h1 : n < 2147483648) (r : List Int) (hr : r.length ≤ 100000) : RO 16 (le4 n ++ r) ⟨#[]⟩ ⟨#[]⟩ n 0 0 [] r := by
  have h : binaryutil_ReadI32.f (le4 n ++ r) = some (n, r, true) := readI32x n h0 h1 r
  have e : wrap64 n = n := w64 (by omega) (by omega)
  refine ⟨1, fun q hq => ?_⟩
  obtain ⟨q, rfl⟩ : ∃ j, q = j + 1 := ⟨q - 1, by omega⟩
  show impl_RawGet.f (q + 1) 16 _ 16 = _
  simp +decide only [impl_RawGet.f, impl_RawGetA.f, impl_RawGetA.j0, impl_some.f, bson_convertToCoreValue.f, bson_NewDecimal128.f, bson_Decimal128_GetBytes.f, bson_RawValue_StringValueOK.f, bsoncore_Value_StringValueOK.f, bson_RawValue_DocumentOK.f, bsoncore_Value_DocumentOK.f, bson_RawValue_ArrayOK.f, bsoncore_Value_ArrayOK.f, bson_RawValue_BinaryOK.f, bsoncore_Value_BinaryOK.f, bson_RawValue_BooleanOK.f, bsoncore_Value_BooleanOK.f, bson_RawValue_DateTimeOK.f, bsoncore_Value_DateTimeOK.f, bson_RawValue_RegexOK.f, bsoncore_Value_RegexOK.f, bson_RawValue_JavaScriptOK.f, bsoncore_Value_JavaScriptOK.f, bson_RawValue_SymbolOK.f, bsoncore_Value_SymbolOK.f, bson_RawValue_CodeWithScopeOK.f, bsoncore_Value_CodeWithScopeOK.f, bson_RawValue_Int32OK.f, bsoncore_Value_Int32OK.f, bson_RawValue_TimestampOK.f, bsoncore_Value_TimestampOK.f, bson_RawValue_Int64OK.f, bsoncore_Value_Int64OK.f, bson_RawValue_Decimal128OK.f, bsoncore_Value_Decimal128OK.f, bsoncore_ReadInt32.f, h, e, Option.bind_some, own_ok r (by omega : r.length ≤ 1000000), if_true]
  try rfl
theorem rb_rx (a b : ByteArray) (ha : a.size ≤ 100000) (hb : b.size ≤ 100000) (pa : spec_DocPlain.f (a.size + 1) a = some true) (pb : spec_DocPlain.f (b.size + 1) b = some true) (r : List Int) (hr : r.length ≤ 100000) : RO 11 (bytesOf a ++ ([0] ++ (bytesOf b ++ [0])) ++ r) a b 0 0 0 [] r := by
  have e : bytesOf a ++ ([0] ++ (bytesOf b ++ [0])) ++ r = bytesOf a ++ 0 :: (bytesOf b ++ 0 :: r) := by simp only [List.append_assoc, List.cons_append, List.nil_append]
  have h1 := cs_ok a (by omega) pa (bytesOf b ++ 0 :: r) (by simp only [List.length_append, List.length_cons, bytesOf_length]; omega)
  have h2 := cs_ok b (by omega) pb r (by omega)
  refine ⟨1, fun q hq => ?_⟩
  obtain ⟨q, rfl⟩ : ∃ j, q = j + 1 := ⟨q - 1, by omega⟩
  show impl_RawGet.f (q + 1) 11 _ 11 = _
  rw [e]
  simp +decide only [impl_RawGet.f, impl_RawGetA.f, impl_RawGetA.j0, impl_some.f, bson_convertToCoreValue.f, bson_NewDecimal128.f, bson_Decimal128_GetBytes.f, bson_RawValue_StringValueOK.f, bsoncore_Value_StringValueOK.f, bson_RawValue_DocumentOK.f, bsoncore_Value_DocumentOK.f, bson_RawValue_ArrayOK.f, bsoncore_Value_ArrayOK.f, bson_RawValue_BinaryOK.f, bsoncore_Value_BinaryOK.f, bson_RawValue_BooleanOK.f, bsoncore_Value_BooleanOK.f, bson_RawValue_DateTimeOK.f, bsoncore_Value_DateTimeOK.f, bson_RawValue_RegexOK.f, bsoncore_Value_RegexOK.f, bson_RawValue_JavaScriptOK.f, bsoncore_Value_JavaScriptOK.f, bson_RawValue_SymbolOK.f, bsoncore_Value_SymbolOK.f, bson_RawValue_CodeWithScopeOK.f, bsoncore_Value_CodeWithScopeOK.f, bson_RawValue_Int32OK.f, bsoncore_Value_Int32OK.f, bson_RawValue_TimestampOK.f, bsoncore_Value_TimestampOK.f, bson_RawValue_Int64OK.f, bsoncore_Value_Int64OK.f, bson_RawValue_Decimal128OK.f, bsoncore_Value_Decimal128OK.f, bsoncore_ReadRegex.f, h1, h2, Option.bind_some, own_ok r (by omega : r.length ≤ 1000000), if_true]
  try rfl
theorem rb_dec (n h : Int) (n0 : 0 ≤ n) (n1 : n ≤ 18446744073709551615) (h0 : 0 ≤ h) (h1 : h ≤ 18446744073709551615) (r : List Int) (hr : r.length ≤ 100000) : RO 19 (le8 n ++ le8 h ++ r) ⟨#[]⟩ ⟨#[]⟩ 0 n h [] r := by
  have e1 := u64_le8 n n0 n1 (le8 h ++ r)
  have e2 := u64_le8 h h0 h1 r
  refine ⟨1, fun q hq => ?_⟩
  obtain ⟨q, rfl⟩ : ∃ j, q = j + 1 := ⟨q - 1, by omega⟩
  show impl_RawGet.f (q + 1) 19 _ 19 = _
  rw [List.append_assoc]
  simp +decide only [impl_RawGet.f, impl_RawGetA.f, impl_RawGetA.j0, impl_some.f, bson_convertToCoreValue.f, bson_NewDecimal128.f, bson_Decimal128_GetBytes.f, bson_RawValue_StringValueOK.f, bsoncore_Value_StringValueOK.f, bson_RawValue_DocumentOK.f, bsoncore_Value_DocumentOK.f, bson_RawValue_ArrayOK.f, bsoncore_Value_ArrayOK.f, bson_RawValue_BinaryOK.f, bsoncore_Value_BinaryOK.f, bson_RawValue_BooleanOK.f, bsoncore_Value_BooleanOK.f, bson_RawValue_DateTimeOK.f, bsoncore_Value_DateTimeOK.f, bson_RawValue_RegexOK.f, bsoncore_Value_RegexOK.f, bson_RawValue_JavaScriptOK.f, bsoncore_Value_JavaScriptOK.f, bson_RawValue_SymbolOK.f, bsoncore_Value_SymbolOK.f, bson_RawValue_CodeWithScopeOK.f, bsoncore_Value_CodeWithScopeOK.f, bson_RawValue_Int32OK.f, bsoncore_Value_Int32OK.f, bson_RawValue_TimestampOK.f, bsoncore_Value_TimestampOK.f, bson_RawValue_Int64OK.f, bsoncore_Value_Int64OK.f, bson_RawValue_Decimal128OK.f, bsoncore_Value_Decimal128OK.f, bsoncore_ReadDecimal128.f, e1, e2, Option.bind_some, own_ok r (by omega : r.length ≤ 1000000), if_true]
  try rfl
theorem rb_bin (n : Int) (h0 : 0 ≤ n) (h1 : n < 256) (h2 : n ≠ 2) (b : List Int) (hb : b.length ≤ 100000) (r : List Int) (hr : r.length ≤ 100000) : RO 5 (le4 (b.length : Int) ++ ([n % 256] ++ b) ++ r) ⟨#[]⟩ ⟨#[]⟩ n 0 0 b r := by
  have e : le4 (b.length : Int) ++ ([n % 256] ++ b) ++ r = le4 (b.length : Int) ++ (n :: (b ++ r)) := by rw [show n % 256 = n by omega]; simp only [List.append_assoc, List.cons_append, List.nil_append]
  have h : ∀ q, bsoncore_ReadBinary.f q (le4 (b.length : Int) ++ (n :: (b ++ r))) = some (n, b, r, true) := by
    intro q
    unfold bsoncore_ReadBinary.f
    rw [readlen b.length (n :: (b ++ r)) (by omega), Option.bind_some, if_pos rfl, if_neg (by simp only [List.length_cons]; omega), if_pos (by simp only [List.length_cons]; omega), if_pos (by simp only [List.length_cons]; omega), Option.bind_some]
    show (if ((b ++ r).length : Int) < wrap64 (b.length : Int) then _ else if n = 2 then _ else if 0 ≤ (b.length : Int) then if (b.length : Int) ≤ ((b ++ r).length : Int) then some (n, (b ++ r).take (b.length : Int).toNat, (b ++ r).drop (b.length : Int).toNat, true) else none else none) = _
    rw [if_neg (by rw [w64 (by omega) (by omega), List.length_append]; omega), if_neg h2, if_pos (by omega), if_pos (by rw [List.length_append]; omega), Int.toNat_natCast, List.take_left, List.drop_left]
  have e2 : wrap64 n = n := w64 (by omega) (by omega)
  refine ⟨1, fun q hq => ?_⟩
  obtain ⟨q, rfl⟩ : ∃ j, q = j + 1 := ⟨q - 1, by omega⟩
  show impl_RawGet.f (q + 1) 5 _ 5 = _
  rw [e]
  simp +decide only [impl_RawGet.f, impl_RawGetA.f, impl_RawGetA.j0, impl_some.f, bson_convertToCoreValue.f, bson_NewDecimal128.f, bson_Decimal128_GetBytes.f, bson_RawValue_StringValueOK.f, bsoncore_Value_StringValueOK.f, bson_RawValue_DocumentOK.f, bsoncore_Value_DocumentOK.f, bson_RawValue_ArrayOK.f, bsoncore_Value_ArrayOK.f, bson_RawValue_BinaryOK.f, bsoncore_Value_BinaryOK.f, bson_RawValue_BooleanOK.f, bsoncore_Value_BooleanOK.f, bson_RawValue_DateTimeOK.f, bsoncore_Value_DateTimeOK.f, bson_RawValue_RegexOK.f, bsoncore_Value_RegexOK.f, bson_RawValue_JavaScriptOK.f, bsoncore_Value_JavaScriptOK.f, bson_RawValue_SymbolOK.f, bsoncore_Value_SymbolOK.f, bson_RawValue_CodeWithScopeOK.f, bsoncore_Value_CodeWithScopeOK.f, bson_RawValue_Int32OK.f, bsoncore_Value_Int32OK.f, bson_RawValue_TimestampOK.f, bsoncore_Value_TimestampOK.f, bson_RawValue_Int64OK.f, bsoncore_Value_Int64OK.f, bson_RawValue_Decimal128OK.f, bsoncore_Value_Decimal128OK.f, h, e2, Option.bind_some, own_ok r (by omega : r.length ≤ 1000000), own_ok b (by omega : b.length ≤ 1000000), if_true]
  try rfl
theorem rb_bin2 (b : List Int) (hb : b.length ≤ 100000) (r : List Int) (hr : r.length ≤ 100000) : RO 5 (le4 ((b.length + 4 : Nat) : Int) ++ ([2] ++ le4 (b.length : Int) ++ b) ++ r) ⟨#[]⟩ ⟨#[]⟩ 2 0 0 b r := by
  have e : le4 ((b.length + 4 : Nat) : Int) ++ ([2] ++ le4 (b.length : Int) ++ b) ++ r = le4 ((b.length + 4 : Nat) : Int) ++ (2 :: (le4 (b.length : Int) ++ (b ++ r))) := by simp only [List.append_assoc, List.cons_append, List.nil_append]
  have h : ∀ q, bsoncore_ReadBinary.f (q + 1) (le4 ((b.length + 4 : Nat) : Int) ++ (2 :: (le4 (b.length : Int) ++ (b ++ r)))) = some (2, b, r, true) := by
    intro q
    have hl : (le4 (b.length : Int) ++ (b ++ r)).length = b.length + r.length + 4 := by simp only [List.length_append, le4_length]; omega
    unfold bsoncore_ReadBinary.f
    rw [readlen (b.length + 4) (2 :: (le4 (b.length : Int) ++ (b ++ r))) (by omega), Option.bind_some, if_pos rfl, if_neg (by simp only [List.length_cons]; omega), if_pos (by simp only [List.length_cons]; omega), if_pos (by simp only [List.length_cons]; omega), Option.bind_some]
    rw [show (2 :: (le4 (b.length : Int) ++ (b ++ r)) : List Int).drop 1 = le4 (b.length : Int) ++ (b ++ r) from rfl, if_neg (by rw [hl, w64 (by omega) (by omega)]; omega), if_pos (by rfl), readlen b.length (b ++ r) (by omega), Option.bind_some, if_pos rfl]
    show bsoncore_ReadBinary.j0 (q + 1) _ 2 (b ++ r) (b.length : Int) (decide (((b ++ r).length : Int) < wrap64 (b.length : Int))) = _
    rw [decide_eq_false (by rw [w64 (by omega) (by omega), List.length_append]; omega), bsoncore_ReadBinary.j0, if_neg (by decide), if_pos (by omega), if_pos (by rw [List.length_append]; omega), Int.toNat_natCast, List.take_left, List.drop_left]
  have e2 : wrap64 2 = 2 := w64 (by omega) (by omega)
  refine ⟨1, fun q hq => ?_⟩
  obtain ⟨q, rfl⟩ : ∃ j, q = j + 1 := ⟨q - 1, by omega⟩
  show impl_RawGet.f (q + 1) 5 _ 5 = _
  rw [e]
  simp +decide only [impl_RawGet.f, impl_RawGetA.f, impl_RawGetA.j0, impl_some.f, bson_convertToCoreValue.f, bson_NewDecimal128.f, bson_Decimal128_GetBytes.f, bson_RawValue_StringValueOK.f, bsoncore_Value_StringValueOK.f, bson_RawValue_DocumentOK.f, bsoncore_Value_DocumentOK.f, bson_RawValue_ArrayOK.f, bsoncore_Value_ArrayOK.f, bson_RawValue_BinaryOK.f, bsoncore_Value_BinaryOK.f, bson_RawValue_BooleanOK.f, bsoncore_Value_BooleanOK.f, bson_RawValue_DateTimeOK.f, bsoncore_Value_DateTimeOK.f, bson_RawValue_RegexOK.f, bsoncore_Value_RegexOK.f, bson_RawValue_JavaScriptOK.f, bsoncore_Value_JavaScriptOK.f, bson_RawValue_SymbolOK.f, bsoncore_Value_SymbolOK.f, bson_RawValue_CodeWithScopeOK.f, bsoncore_Value_CodeWithScopeOK.f, bson_RawValue_Int32OK.f, bsoncore_Value_Int32OK.f, bson_RawValue_TimestampOK.f, bsoncore_Value_TimestampOK.f, bson_RawValue_Int64OK.f, bsoncore_Value_Int64OK.f, bson_RawValue_Decimal128OK.f, bsoncore_Value_Decimal128OK.f, h, e2, Option.bind_some, own_ok r (by omega : r.length ≤ 1000000), own_ok b (by omega : b.length ≤ 1000000), if_true]
  try rfl

end Go.Proofs.YtpbfigeaoefcmaaGreat.PBg.VT
