/- FnDocHeader: a kind and a name are appended as a byte and a text with a byte 0 behind it, and both are read back, together and apart. Conditions: none; longer inputs and names with a byte 0 are let by, as the statement says. -/
import Derived.Test.YthlpmeiihchdjaaPDHx3
import Derived.Test.YthlpmeiihchdjaaPL
namespace Go.Proofs.Ythlpmeiihchdjaa.Pure
open Go.RowKit Go.Proofs.Ythlpmeiihchdjaa.PDH Go.Proofs.YthlpmeiihchdjaaW.PrintWords Go.Proofs.YthlpmeiihchdjaaW.PrintLast
open PL

theorem docPlain_tells (s : ByteArray) (hn : s.size ≤ 140737488351232) (d : Nat) : ∀ (k : Nat) (i : Int), 0 ≤ i → i ≤ s.size → (s.size : Int) - i = d → d < k →
    ∃ r, spec_DocPlain.l0 k s i = some r ∧ (r = true → ∀ j, i.toNat ≤ j → j < s.size → s.get! j ≠ 0) := by
  induction d with
  | zero =>
    intro k i h0 h1 hd hk
    obtain ⟨k, rfl⟩ : ∃ m, k = m + 1 := ⟨k - 1, by omega⟩
    refine ⟨true, ?_, fun _ j hj hs => by omega⟩
    simp only [spec_DocPlain.l0]; rw [if_neg (by omega)]
  | succ d ih =>
    intro k i h0 h1 hd hk
    obtain ⟨k, rfl⟩ : ∃ m, k = m + 1 := ⟨k - 1, by omega⟩
    have hlt : i < (s.size : Int) := by omega
    have hz := bt_zero s i h0 hlt
    by_cases hb : bt s i = 0
    · refine ⟨false, ?_, fun h => by cases h⟩
      simp only [spec_DocPlain.l0]; rw [if_pos hlt, if_pos h0, if_pos hb]
    · obtain ⟨r, hr, h⟩ := ih k (i + 1) (by omega) (by omega) (by omega) (by omega)
      refine ⟨r, ?_, fun ht j hj hs => ?_⟩
      · simp only [spec_DocPlain.l0]; rw [if_pos hlt, if_pos h0, if_neg hb, wrap_id (by omega) (by omega)]; exact hr
      · by_cases e : j = i.toNat
        · subst e
          intro hh
          exact hb (hz.2 hh)
        · exact h ht j (by omega) hs

theorem indexByte_head (s : ByteArray) (hp : ∀ j, j < s.size → s.get! j ≠ 0) (r : List Int) : bytes_IndexByte.f (bytesOf s ++ 0 :: r) 0 = some (s.size : Int) := by
  unfold bytes_IndexByte.f
  rw [toNums_append, toNums_bytesOf]
  have h0 : Lib.bytesOf (0 :: r) = (0 : UInt8) :: Lib.bytesOf r := rfl
  have h1 : (0 : Int).toNat.toUInt8 = 0 := rfl
  rw [h0, h1, indexByte_at _ _ _ (plain_mem hp)]
  simp

theorem own_f (l : List Int) (h : l.length < 140737488355328) : impl_own.f l = some l := by
  unfold impl_own.f
  rw [if_pos (by simpa using h)]
  rfl

theorem cstr_f (s : ByteArray) (hp : ∀ j, j < s.size → s.get! j ≠ 0) (r : List Int) (hs : s.size ≤ 1000) : binaryutil_ReadCStringBytes.f (bytesOf s ++ 0 :: r) = some (bytesOf s, r, true) := by
  unfold binaryutil_ReadCStringBytes.f
  have hl : (bytesOf s ++ 0 :: r).length = s.size + 1 + r.length := by rw [List.length_append, bytesOf_length, List.length_cons]; omega
  rw [indexByte_head s hp r, Option.bind_some, if_neg (by omega), if_pos (by omega), if_pos (by omega), wrap_id (by omega) (by omega), if_pos (by omega), if_pos (by omega)]
  have h1 : ((s.size : Int)).toNat = (bytesOf s).length := by rw [bytesOf_length]; omega
  have h2 : ((s.size : Int) + 1).toNat = (bytesOf s).length + 1 := by rw [bytesOf_length]; omega
  rw [h1, h2, List.take_left]
  have h3 : (bytesOf s ++ 0 :: r).drop ((bytesOf s).length + 1) = r := by
    rw [← List.drop_drop, List.drop_left]
    rfl
  rw [h3]

theorem cstring_f (s : ByteArray) (hp : ∀ j, j < s.size → s.get! j ≠ 0) (r : List Int) (hs : s.size ≤ 1000) : binaryutil_ReadCString.f (bytesOf s ++ 0 :: r) = some (s, r, true) := by
  unfold binaryutil_ReadCString.f
  rw [cstr_f s hp r hs]
  simp [strOfNums_bytesOf]

theorem key_f (s : ByteArray) (hp : ∀ j, j < s.size → s.get! j ≠ 0) (r : List Int) (hs : s.size ≤ 1000) : bsoncore_ReadKey.f (bytesOf s ++ 0 :: r) = some (s, r, true) := by
  unfold bsoncore_ReadKey.f
  rw [cstring_f s hp r hs]
  rfl

theorem type_f (a : Int) (l : List Int) : bsoncore_ReadType.f (a :: l) = some (a, l, true) := by
  unfold bsoncore_ReadType.f
  have hl : (a :: l).length = l.length + 1 := rfl
  rw [if_neg (by omega), if_pos (by omega), if_pos (by omega)]
  rfl

theorem FnDocHeader : laws_FnDocHeader.Pure := by
  intro l0 a1 a2 l3 _ h0 _ ha ha2 _ h3 _
  obtain ⟨ha0, ha1⟩ := wf_u8 ha
  have hw : wrap64 a1 = a1 := wrap_id (by omega) (by omega)
  have hm : a1 % 256 = a1 := by omega
  have t1 : ∀ k x, laws_FnDocHeader.j1 (k + 1) l0 a1 a2 l3 x = if x = true then some true else laws_FnDocHeader.j1 (k + 1) l0 a1 a2 l3 false := by
    intro k x
    cases x <;> simp [laws_FnDocHeader.j1]
  have u0 : ∀ k, laws_FnDocHeader.j0 (k + 1) l0 a1 a2 l3 true = some true := by intro k; simp [laws_FnDocHeader.j0]
  have u1 : ∀ k, laws_FnDocHeader.j1 (k + 1) l0 a1 a2 l3 true = some true := by intro k; simp [laws_FnDocHeader.j1]
  refine ⟨a2.size + 5, ?_⟩
  unfold laws_FnDocHeader.f
  by_cases c1 : (l0.length : Int) > 2147483647
  · rw [if_pos c1]; exact u0 _
  rw [if_neg c1]
  by_cases c2 : (a2.size : Int) > 2147483647
  · rw [if_pos c2]; exact u0 _
  rw [if_neg c2]
  by_cases c3 : (l3.length : Int) > 2147483647
  · rw [decide_eq_true c3]; exact u0 _
  rw [decide_eq_false c3]
  simp only [laws_FnDocHeader.j0]
  rw [if_neg (by simp)]
  by_cases c4 : (l0.length : Int) > 1000
  · rw [if_pos c4]; exact u1 _
  rw [if_neg c4]
  by_cases c5 : (a2.size : Int) > 1000
  · rw [if_pos c5]; exact u1 _
  rw [if_neg c5]
  by_cases c6 : (l3.length : Int) > 1000
  · rw [if_pos c6]; exact u1 _
  rw [if_neg c6]
  obtain ⟨r, hr, hp⟩ := docPlain_tells a2 ha2 a2.size (a2.size + 4) 0 (by omega) (by omega) (by omega) (by omega)
  unfold spec_DocPlain.f
  rw [hr, Option.bind_some]
  cases r with
  | false => exact u1 _
  | true =>
    have hp := hp rfl
    have hp : ∀ j, j < a2.size → a2.get! j ≠ 0 := fun j hj => hp j (by omega) hj
    have hpt : plainText a2 = true := plainText_true.2 hp
    have hb := bytesOf_length a2
    have eh : spec_DocHead.f (wrap64 a1) a2 = some (a1 :: (bytesOf a2 ++ [0])) := by
      unfold spec_DocHead.f
      rw [hw, hm]
      simp only [Option.bind_some]
      rw [if_pos (by simp; omega), if_pos (by simp; omega)]
      simp
    have ec : laws_docCopy.f l0 = some l0 := by
      unfold laws_docCopy.f
      simp only [Option.bind_some]
      rw [if_pos (by simp; omega)]
      rfl
    have eA : impl_AppendHeader.f l0 (wrap64 a1) a2 = some (l0 ++ a1 :: (bytesOf a2 ++ [0])) := by
      unfold impl_AppendHeader.f bsoncore_AppendHeader.f bsoncore_isValidCString.f bsoncore_AppendType.f
      rw [own_f l0 (by omega), hw, hm, hpt]
      simp only [Option.bind_some, if_true]
      rw [if_pos (by omega)]
      simp only [Option.bind_some]
      rw [if_pos (by simp; omega), if_pos (by simp; omega)]
      simp
    have eT : impl_AppendType.f l0 (wrap64 a1) = some (l0 ++ [a1]) := by
      unfold impl_AppendType.f bsoncore_AppendType.f
      rw [own_f l0 (by omega), hw, hm]
      simp only [Option.bind_some]
      rw [if_pos (by omega)]
      rfl
    have eK : impl_AppendKey.f (l0 ++ [a1]) a2 = some (l0 ++ a1 :: (bytesOf a2 ++ [0])) := by
      unfold impl_AppendKey.f bsoncore_AppendKey.f
      rw [own_f _ (by simp; omega)]
      simp only [Option.bind_some]
      have hz : (a2 ++ (⟨#[0]⟩ : ByteArray)).size = a2.size + 1 := by simp [ByteArray.size_append]; rfl
      rw [if_pos (by omega), if_pos (by rw [hz]; simp; omega), bytesOf_append, bytesOf_zero]
      simp
    simp only [laws_FnDocHeader.j1]
    rw [if_neg (by simp), eh, Option.bind_some, ec, Option.bind_some, eA, Option.bind_some, Option.bind_some, eT, Option.bind_some, eK, Option.bind_some]
    rw [if_pos (by rw [strOfNums_size, strOfNums_size]; simp; omega)]
    have es : (strOfNums (l0 ++ a1 :: (bytesOf a2 ++ [0]))).toList = (strOfNums l0 ++ strOfNums (a1 :: (bytesOf a2 ++ [0]))).toList := by rw [strOfNums_append]
    rw [if_pos es]
    simp only [bne_self_eq_false]
    simp only [laws_FnDocHeader.j2]
    rw [if_neg (by simp)]
    have ec2 : laws_docCopy.f (a1 :: (bytesOf a2 ++ [0])) = some (a1 :: (bytesOf a2 ++ [0])) := by
      unfold laws_docCopy.f
      simp only [Option.bind_some]
      rw [if_pos (by simp; omega)]
      rfl
    rw [ec2, Option.bind_some, if_pos (by simp; omega), Option.bind_some]
    have ey : (a1 :: (bytesOf a2 ++ [0])) ++ l3 = a1 :: (bytesOf a2 ++ 0 :: l3) := by simp
    rw [ey]
    have hl3 : l3.length < 140737488355328 := by omega
    have hlb : (bytesOf a2).length < 140737488355328 := by omega
    have hlr : (bytesOf a2 ++ 0 :: l3).length < 140737488355328 := by simp; omega
    have hs1 : a2.size ≤ 1000 := by omega
    have eR : impl_ReadHeader.f (a1 :: (bytesOf a2 ++ 0 :: l3)) = some (wrap64 a1, a2, l3, true) := by
      unfold impl_ReadHeader.f bsoncore_ReadHeader.f
      rw [type_f]
      simp only [Option.bind_some, if_true]
      rw [key_f a2 hp l3 hs1]
      simp only [Option.bind_some, if_true]
      rw [own_f l3 hl3]
      rfl
    have eRT : impl_ReadType.f (a1 :: (bytesOf a2 ++ 0 :: l3)) = some (wrap64 a1, bytesOf a2 ++ 0 :: l3, true) := by
      unfold impl_ReadType.f
      rw [type_f]
      simp only [Option.bind_some]
      rw [own_f _ hlr]
      rfl
    have eRK : impl_ReadKey.f (bytesOf a2 ++ 0 :: l3) = some (a2, l3, true) := by
      unfold impl_ReadKey.f
      rw [key_f a2 hp l3 hs1]
      simp only [Option.bind_some]
      rw [own_f l3 hl3]
      rfl
    have eRB : impl_ReadKeyBytes.f (bytesOf a2 ++ 0 :: l3) = some (bytesOf a2, l3, true) := by
      unfold impl_ReadKeyBytes.f bsoncore_ReadKeyBytes.f
      rw [cstr_f a2 hp l3 hs1]
      simp only [Option.bind_some]
      rw [own_f _ hlb, Option.bind_some, own_f l3 hl3]
      rfl
    have eRC : impl_ReadCString.f (bytesOf a2 ++ 0 :: l3) = some (a2, l3, true) := by
      unfold impl_ReadCString.f
      rw [cstring_f a2 hp l3 hs1]
      simp only [Option.bind_some]
      rw [own_f l3 hl3]
      rfl
    rw [eR, Option.bind_some, eRT, Option.bind_some]
    simp only
    rw [eRK, Option.bind_some, eRB, Option.bind_some, eRC, Option.bind_some]
    simp only [if_true, Bool.not_true]
    simp only [laws_FnDocHeader.j3]
    rw [if_neg (by simp), strOfNums_bytesOf]
    simp
end Go.Proofs.Ythlpmeiihchdjaa.Pure
