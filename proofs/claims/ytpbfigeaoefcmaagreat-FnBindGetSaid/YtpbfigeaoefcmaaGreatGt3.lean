/- Plain laws on the told functions of this seat, without memory. Conditions: as each theorem states them. -/
import Derived.Test.YtpbfigeaoefcmaaGreatProg
import Derived.Test.YtpbfigeaoefcmaaGreatHW
import Derived.Below
import Derived.Deep.Draws
import Derived.OwnWalk
import Derived.Tactics
import Derived.WalkKit
import Derived.KernelRfl
import Derived.RowKit3
import Derived.Deep.LoopGhost
import Derived.Deep.QuietTactic
import Derived.BigQuiet
import Derived.WideLaws
import Derived.Deep.DeepCutAuto
import Derived.Deep.CutBlock
import Derived.Laws.Rows
import Derived.Outline
import Derived.StillTailTactics
import Derived.Deep.RegionHeld3
import Derived.Test.YtpbfigeaoefcmaaGreatGt2
namespace Go.Proofs.YtpbfigeaoefcmaaGreat.PBg.VT
open Go.RowKit Go.Proofs.YtpbfigeaoefcmaaGreatW.PrintWords Go.Proofs.YtpbfigeaoefcmaaGreatW.PrintLast Go.Proofs.YtpbfigeaoefcmaaGreatW.PrintMore
set_option linter.unusedVariables false
set_option linter.unusedSimpArgs false
theorem or_comm_ (k : IntKind) (x y : Int) : bits .or k x y = bits .or k y x := by
  unfold bits
  simp only [BitVec.or_comm]
theorem rb_ts (n : Int) (h0 : 0 ≤ n) (h1 : n ≤ 18446744073709551615) (r : List Int) (hr : r.length ≤ 100000) : RO 17 (le8 n ++ r) ⟨#[]⟩ ⟨#[]⟩ 0 n 0 [] r := by
  have e : le8 n ++ r = le4 (n % 4294967296) ++ (le4 (n / 4294967296) ++ r) := by
    have a : le8 n = le4 (n % 4294967296) ++ le4 (n / 4294967296) := by
      simp only [le8, le4, List.cons_append, List.nil_append, List.cons.injEq, and_true]
      repeat' apply And.intro
      all_goals (first | trivial | omega)
    rw [a, List.append_assoc]
  have e1 := u32_le4 (n % 4294967296) (by omega) (by omega) (le4 (n / 4294967296) ++ r)
  have e2 := u32_le4 (n / 4294967296) (by omega) (by omega) r
  have e3 : Go.bits .or .u64 (IntKind.u64.wrap ((IntKind.u64.wrap (n / 4294967296)) * 4294967296)) (IntKind.u64.wrap (n % 4294967296)) = n := by
    rw [u64_wrap, u64_wrap, u64_wrap, or_comm_, or_high .u64 32 (by decide) (n % 4294967296 % 18446744073709551616) _ (by omega) (by omega) (by omega), u64_wrap]
    omega
  refine ⟨1, fun q hq => ?_⟩
  obtain ⟨q, rfl⟩ : ∃ j, q = j + 1 := ⟨q - 1, by omega⟩
  show impl_RawGet.f (q + 1) 17 _ 17 = _
  rw [e]
  simp +decide only [impl_RawGet.f, impl_RawGetA.f, impl_RawGetA.j0, impl_some.f, bson_convertToCoreValue.f, bson_NewDecimal128.f, bson_Decimal128_GetBytes.f, bson_RawValue_StringValueOK.f, bsoncore_Value_StringValueOK.f, bson_RawValue_DocumentOK.f, bsoncore_Value_DocumentOK.f, bson_RawValue_ArrayOK.f, bsoncore_Value_ArrayOK.f, bson_RawValue_BinaryOK.f, bsoncore_Value_BinaryOK.f, bson_RawValue_BooleanOK.f, bsoncore_Value_BooleanOK.f, bson_RawValue_DateTimeOK.f, bsoncore_Value_DateTimeOK.f, bson_RawValue_RegexOK.f, bsoncore_Value_RegexOK.f, bson_RawValue_JavaScriptOK.f, bsoncore_Value_JavaScriptOK.f, bson_RawValue_SymbolOK.f, bsoncore_Value_SymbolOK.f, bson_RawValue_CodeWithScopeOK.f, bsoncore_Value_CodeWithScopeOK.f, bson_RawValue_Int32OK.f, bsoncore_Value_Int32OK.f, bson_RawValue_TimestampOK.f, bsoncore_Value_TimestampOK.f, bson_RawValue_Int64OK.f, bsoncore_Value_Int64OK.f, bson_RawValue_Decimal128OK.f, bsoncore_Value_Decimal128OK.f, bsoncore_ReadTimestamp.f, e1, e2, e3, Option.bind_some, own_ok r (by omega : r.length ≤ 1000000), if_true]
  try rfl
theorem rb_scope (s : ByteArray) (hs : s.size ≤ 90000) (b : List Int) (hb : b.length ≤ 90000) (r : List Int) (hr : r.length ≤ 100000) :
    RO 15 (le4 ((4 + (s.size + 5) + (b.length + 5) : Nat) : Int) ++ ((le4 ((s.size + 1 : Nat) : Int) ++ (bytesOf s ++ [0])) ++ (le4 ((b.length + 5 : Nat) : Int) ++ (b ++ [0]))) ++ r) s ⟨#[]⟩ 0 0 0 (le4 ((b.length + 5 : Nat) : Int) ++ (b ++ [0])) r := by
  generalize hD : le4 ((b.length + 5 : Nat) : Int) ++ (b ++ [0]) = D
  have hDl : D.length = b.length + 5 := by rw [← hD]; simp only [List.length_append, le4_length, List.length_cons, List.length_nil]; omega
  have e : le4 ((4 + (s.size + 5) + (b.length + 5) : Nat) : Int) ++ ((le4 ((s.size + 1 : Nat) : Int) ++ (bytesOf s ++ [0])) ++ D) ++ r = le4 ((4 + (s.size + 5) + (b.length + 5) : Nat) : Int) ++ (le4 ((s.size + 1 : Nat) : Int) ++ (bytesOf s ++ (0 :: (D ++ r)))) := by simp only [List.append_assoc, List.cons_append, List.nil_append]
  have ht : (bytesOf s ++ (0 :: (D ++ r))).take s.size = bytesOf s := List.take_left' (bytesOf_length s)
  have hd : (bytesOf s ++ (0 :: (D ++ r))).drop (s.size + 1) = D ++ r := by
    rw [show bytesOf s ++ (0 :: (D ++ r)) = (bytesOf s ++ [0]) ++ (D ++ r) by simp]
    exact List.drop_left' (by rw [List.length_append, bytesOf_length]; rfl)
  have h := fun q => rs_ok s.size (bytesOf s ++ (0 :: (D ++ r))) (by omega) (by simp only [List.length_append, List.length_cons, bytesOf_length]; omega) q
  rw [ht, hd, PL.strOfNums_bytesOf] at h
  have hdoc : bsoncore_readLengthBytes.f (D ++ r) = some (D, r, true) := by
    have h := lb_ok (b.length + 5) ((b ++ [0]) ++ r) (by omega) (by omega) (by simp only [List.length_append, List.length_cons, List.length_nil]; omega)
    rw [← List.append_assoc, hD, List.take_left' hDl, List.drop_left' hDl] at h
    exact h
  have hc : ∀ q, bsoncore_ReadCodeWithScope.f (q + 2) (le4 ((4 + (s.size + 5) + (b.length + 5) : Nat) : Int) ++ (le4 ((s.size + 1 : Nat) : Int) ++ (bytesOf s ++ (0 :: (D ++ r))))) = some (s, D, r, true) := by
    intro q
    have hl : (le4 ((4 + (s.size + 5) + (b.length + 5) : Nat) : Int) ++ (le4 ((s.size + 1 : Nat) : Int) ++ (bytesOf s ++ (0 :: (D ++ r))))).length = 4 + (s.size + 5) + (b.length + 5) + r.length := by simp only [List.length_append, le4_length, List.length_cons, bytesOf_length, hDl]; omega
    unfold bsoncore_ReadCodeWithScope.f
    rw [readlen _ _ (by omega), Option.bind_some, if_pos rfl, decide_eq_false (by rw [hl, w64 (by omega) (by omega)]; omega), bsoncore_ReadCodeWithScope.j0, if_neg (by decide), h, Option.bind_some, if_pos rfl]
    simp only [bsoncore_ReadDocument.f, hdoc, Option.bind_some, if_true]
  refine ⟨2, fun q hq => ?_⟩
  obtain ⟨q, rfl⟩ : ∃ j, q = j + 2 := ⟨q - 2, by omega⟩
  show impl_RawGet.f (q + 2) 15 _ 15 = _
  rw [e]
  simp +decide only [impl_RawGet.f, impl_RawGetA.f, impl_RawGetA.j0, impl_some.f, bson_convertToCoreValue.f, bson_NewDecimal128.f, bson_Decimal128_GetBytes.f, bson_RawValue_StringValueOK.f, bsoncore_Value_StringValueOK.f, bson_RawValue_DocumentOK.f, bsoncore_Value_DocumentOK.f, bson_RawValue_ArrayOK.f, bsoncore_Value_ArrayOK.f, bson_RawValue_BinaryOK.f, bsoncore_Value_BinaryOK.f, bson_RawValue_BooleanOK.f, bsoncore_Value_BooleanOK.f, bson_RawValue_DateTimeOK.f, bsoncore_Value_DateTimeOK.f, bson_RawValue_RegexOK.f, bsoncore_Value_RegexOK.f, bson_RawValue_JavaScriptOK.f, bsoncore_Value_JavaScriptOK.f, bson_RawValue_SymbolOK.f, bsoncore_Value_SymbolOK.f, bson_RawValue_CodeWithScopeOK.f, bsoncore_Value_CodeWithScopeOK.f, bson_RawValue_Int32OK.f, bsoncore_Value_Int32OK.f, bson_RawValue_TimestampOK.f, bsoncore_Value_TimestampOK.f, bson_RawValue_Int64OK.f, bsoncore_Value_Int64OK.f, bson_RawValue_Decimal128OK.f, bsoncore_Value_Decimal128OK.f, hc, Option.bind_some, own_ok r (by omega : r.length ≤ 1000000), own_ok D (by omega : D.length ≤ 1000000), if_true]
  try rfl

end Go.Proofs.YtpbfigeaoefcmaaGreat.PBg.VT
