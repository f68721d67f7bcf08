/- Plain laws on the told functions of this seat, without memory. Conditions: as each theorem states them. -/
import Derived.Test.YtpbfigeaoefcmaaGreatProg
import Derived.Test.YtpbfigeaoefcmaaGreatHW
import Derived.Below
import Derived.Deep.Draws
import Derived.OwnWalk
import Derived.Tactics
import Derived.WalkKit
import Derived.KernelRfl
import Derived.RowKit3
import Derived.Deep.LoopGhost
import Derived.Deep.QuietTactic
import Derived.BigQuiet
import Derived.WideLaws
import Derived.Deep.DeepCutAuto
import Derived.Deep.CutBlock
import Derived.Laws.Rows
import Derived.Outline
import Derived.StillTailTactics
import Derived.Deep.RegionHeld3
import Derived.Test.YtpbfigeaoefcmaaGreatGvt
import Derived.Test.YtpbfigeaoefcmaaGreatPBgx5
import Derived.Test.YtpbfigeaoefcmaaGreatPBgx7
namespace Go.Proofs.YtpbfigeaoefcmaaGreat.PBg.VT
open Go.RowKit Go.Proofs.YtpbfigeaoefcmaaGreatW.PrintWords Go.Proofs.YtpbfigeaoefcmaaGreatW.PrintLast Go.Proofs.YtpbfigeaoefcmaaGreatW.PrintMore
set_option linter.unusedVariables false
set_option linter.unusedSimpArgs false
open Go.Proofs.YtpbfigeaoefcmaaGreat.PL (bt_zero)
theorem text_form (s : ByteArray) (hs : s.size ≤ 1000000) : spec_docText.f [] s = some (le4 ((s.size + 1 : Nat) : Int) ++ (bytesOf s ++ [0])) := by
  unfold spec_docText.f
  rw [int32_some [] _ (by simp), w64 (by omega) (by omega)]
  have h1 : ([] ++ le4 ((s.size : Int) + 1)).length + s.size < 140737488355328 := by rw [List.length_append, le4_length, List.length_nil]; omega
  have h2 : ([] ++ le4 ((s.size : Int) + 1) ++ bytesOf s).length < 140737488355328 := by rw [List.length_append, bytesOf_length, List.length_append, le4_length, List.length_nil]; omega
  simp only [Option.bind_some, h1, h2, if_true]
  rw [List.nil_append, List.append_assoc]
  rfl
theorem doc_form (l : List Int) (hl : l.length ≤ 1000000) : ((spec_DocInt32.f ([] : List Int) (wrap64 ((l.length : Int) + 5))).bind fun t => (if t.length + l.length < 140737488355328 then ((some (t ++ l : List Int)).bind fun y => (if y.length < 140737488355328 then (some (y ++ [0])) else (none))) else (none))) = some (le4 ((l.length + 5 : Nat) : Int) ++ (l ++ [0])) := by
  rw [int32_some _ _ (by simp), w64 (by omega) (by omega)]
  have h1 : (([] : List Int) ++ le4 ((l.length : Int) + 5)).length + l.length < 140737488355328 := by rw [List.length_append, le4_length, List.length_nil]; omega
  have h2 : (([] : List Int) ++ le4 ((l.length : Int) + 5) ++ l).length < 140737488355328 := by rw [List.length_append, List.length_append, le4_length, List.length_nil]; omega
  simp only [Option.bind_some, h1, h2, if_true]
  rw [List.nil_append, List.append_assoc]
  rfl
/-- More of what a right value is. -/
theorem right_more (d : Nat) (v : S26) (h : docR d v.f0 v.f1 v.f2 v.f3 v.f4 v.f5 v.f6 v.f7 = some true) : (v.f0 = 7 → v.f6.length = 12) ∧ (v.f0 = 12 → v.f6.length = 12) ∧ (v.f0 = 11 → spec_DocPlain.f (v.f1.size + 1) v.f1 = some true ∧ spec_DocPlain.f (v.f2.size + 1) v.f2 = some true) := by
  cases d with
  | zero => cases h
  | succ d =>
    unfold docR at h
    obtain ⟨kn, hkn⟩ := known_ex v.f0
    rw [hkn] at h
    simp only [Option.bind_some] at h
    cases kn with
    | false => simp at h
    | true =>
      rw [if_neg (by decide)] at h
      split at h
      next => cases h
      next =>
        refine ⟨fun hk => ?_, fun hk => ?_, fun hk => ?_⟩
        · rw [hk] at h; simpa using h
        · rw [hk] at h; simpa using h
        · rw [hk] at h
          simp only [show ¬ ((11 : Int) = 5) by decide, show ¬ ((11 : Int) = 7) by decide, show ¬ ((11 : Int) = 12) by decide, show ¬ ((11 : Int) = 8) by decide, show ¬ ((11 : Int) = 16) by decide, if_false, if_true] at h
          obtain ⟨p, hp, h⟩ := Option.bind_eq_some_iff.mp h
          cases p with
          | false => simp at h
          | true => exact ⟨hp, by simpa using h⟩
theorem readI32x (n : Int) (h0 : -2147483648 ≤ n) (h1 : n < 2147483648) (x : List Int) : binaryutil_ReadI32.f (n % 256 :: n / 256 % 256 :: n / 65536 % 256 :: n / 16777216 % 256 :: x) = some (n, x, true) := by
  have w0 : wrap32 (rd (n % 256 :: n / 256 % 256 :: n / 65536 % 256 :: n / 16777216 % 256 :: x) 0) = n % 256 := by show wrap32 (n % 256) = _; unfold wrap32; omega
  have w1 : wrap32 (wrap32 (rd (n % 256 :: n / 256 % 256 :: n / 65536 % 256 :: n / 16777216 % 256 :: x) 1) * 256) = n / 256 % 256 * 256 := by show wrap32 (wrap32 (n / 256 % 256) * 256) = _; unfold wrap32; omega
  have w2 : wrap32 (wrap32 (rd (n % 256 :: n / 256 % 256 :: n / 65536 % 256 :: n / 16777216 % 256 :: x) 2) * 65536) = n / 65536 % 256 * 65536 := by show wrap32 (wrap32 (n / 65536 % 256) * 65536) = _; unfold wrap32; omega
  have w3 : wrap32 (wrap32 (rd (n % 256 :: n / 256 % 256 :: n / 65536 % 256 :: n / 16777216 % 256 :: x) 3) * 16777216) = wrap32 (n / 16777216 % 256 * 16777216) := by show wrap32 (wrap32 (n / 16777216 % 256) * 16777216) = _; unfold wrap32; omega
  have hl : (n % 256 :: n / 256 % 256 :: n / 65536 % 256 :: n / 16777216 % 256 :: x).length = x.length + 4 := rfl
  unfold binaryutil_ReadI32.f
  rw [w0, w1, w2, w3, hl, if_neg (by omega), if_pos (by omega), if_pos (by omega), if_pos (by omega), if_pos (by omega), if_pos (by omega)]
  rw [or_high .i32 8 (by decide) (n % 256) _ (by omega) (by omega) (by omega)]
  rw [wrap_i32', show wrap32 (n % 256 + n / 256 % 256 * 256) = n % 65536 by unfold wrap32; omega]
  rw [or_high .i32 16 (by decide) (n % 65536) _ (by omega) (by omega) (by omega)]
  rw [wrap_i32', show wrap32 (n % 65536 + n / 65536 % 256 * 65536) = n % 16777216 by unfold wrap32; omega]
  rw [or_high .i32 24 (by decide) (n % 16777216) _ (by omega) (by omega) (by unfold wrap32; omega)]
  rw [wrap_i32', show wrap32 (n % 16777216 + wrap32 (n / 16777216 % 256 * 16777216)) = n by unfold wrap32; omega]
  rfl
theorem w32 {x : Int} (h0 : -2147483648 ≤ x) (h1 : x ≤ 2147483647) : wrap32 x = x := by unfold wrap32; omega
theorem readlen (m : Nat) (x : List Int) (hm : m ≤ 1000000) : bsoncore_ReadLength.f (le4 (m : Int) ++ x) = some ((m : Int), x, true) := by
  unfold bsoncore_ReadLength.f
  rw [show binaryutil_ReadI32.f (le4 (m : Int) ++ x) = some ((m : Int), x, true) from readI32x (m : Int) (by omega) (by omega) x]
  simp only [Option.bind_some]
  rw [if_neg (by omega)]
theorem plain_nz (s : ByteArray) (hs : s.size ≤ 1000000) (h : spec_DocPlain.f (s.size + 1) s = some true) : ∀ j, j < s.size → s.get! j ≠ 0 := by
  have key : ∀ (k i : Nat), spec_DocPlain.l0 k s (i : Int) = some true → ∀ j, i ≤ j → j < s.size → s.get! j ≠ 0 := by
    intro k
    induction k with
    | zero => intro i h; simp [spec_DocPlain.l0] at h
    | succ k ih =>
      intro i h j hj hjs
      unfold spec_DocPlain.l0 at h
      rw [if_pos (by omega), if_pos (by omega)] at h
      by_cases hz : bt s i = 0
      · rw [if_pos hz] at h; cases h
      · rw [if_neg hz, show wrap64 ((i : Int) + 1) = ((i + 1 : Nat) : Int) by rw [w64 (by omega) (by omega)]; omega] at h
        by_cases hij : i = j
        · subst hij
          intro hc
          exact hz ((bt_zero s (i : Int) (by omega) (by omega)).2 (by rw [Int.toNat_natCast]; exact hc))
        · exact ih (i + 1) h j (by omega) hjs
  intro j hj
  exact key (s.size + 1) 0 h j (by omega) hj
open PL in
theorem idx_plain (a : ByteArray) (hs : a.size ≤ 1000000) (h : spec_DocPlain.f (a.size + 1) a = some true) (r : List Int) : bytes_IndexByte.f (bytesOf a ++ 0 :: r) 0 = some (a.size : Int) := by
  have e : Lib.bytesOf (bytesOf a ++ 0 :: r) = a.data.toList ++ (0 : UInt8) :: Lib.bytesOf r := by
    rw [toNums_append, toNums_bytesOf]
    rfl
  show some (Lib.indexByte (Lib.bytesOf (bytesOf a ++ 0 :: r)) 0) = _
  rw [e, indexByte_at _ _ _ (plain_mem (plain_nz a hs h))]
  simp [data_length]
/-- What a right value is written as, by its kind; body: the bytes of its elements. -/
inductive Cont (v : S26) (body l : List Int) : Prop
  | bits (h : v.f0 = 1 ∨ v.f0 = 17) (hl : l = le8 v.f4)
  | text (h : v.f0 = 2 ∨ v.f0 = 13 ∨ v.f0 = 14) (hl : l = le4 ((v.f1.size + 1 : Nat) : Int) ++ (bytesOf v.f1 ++ [0]))
  | doc (h : v.f0 = 3 ∨ v.f0 = 4) (hl : l = le4 ((body.length + 5 : Nat) : Int) ++ (body ++ [0]))
  | bin2 (h : v.f0 = 5 ∧ v.f3 = 2) (hl : l = le4 ((v.f6.length + 4 : Nat) : Int) ++ ([2] ++ le4 (v.f6.length : Int) ++ v.f6))
  | bin (h : v.f0 = 5 ∧ v.f3 ≠ 2) (hl : l = le4 (v.f6.length : Int) ++ ([v.f3 % 256] ++ v.f6))
  | oid (h : v.f0 = 7) (hl : l = v.f6)
  | bool (h : v.f0 = 8) (hl : l = [v.f3 % 256])
  | num (h : v.f0 = 9 ∨ v.f0 = 18) (hl : l = le8 (IntKind.u64.wrap v.f3))
  | i32 (h : v.f0 = 16) (hl : l = le4 v.f3)
  | rx (h : v.f0 = 11) (hl : l = bytesOf v.f1 ++ ([0] ++ (bytesOf v.f2 ++ [0])))
  | dbp (h : v.f0 = 12) (hl : l = le4 ((v.f1.size + 1 : Nat) : Int) ++ (bytesOf v.f1 ++ ([0] ++ v.f6)))
  | scope (h : v.f0 = 15) (hl : l = le4 ((4 + (v.f1.size + 5) + (body.length + 5) : Nat) : Int) ++ ((le4 ((v.f1.size + 1 : Nat) : Int) ++ (bytesOf v.f1 ++ [0])) ++ (le4 ((body.length + 5 : Nat) : Int) ++ (body ++ [0]))))
  | dec (h : v.f0 = 19) (hl : l = le8 v.f4 ++ le8 v.f5)
  | none (h : v.f0 = 6 ∨ v.f0 = 10 ∨ v.f0 = 127 ∨ v.f0 = 255) (hl : l = [])
theorem dv_cont (v : S26) (hs1 : v.f1.size ≤ 65536) (hs2 : v.f2.size ≤ 65536) (hs6 : v.f6.length ≤ 65536) (hsum : v.f1.size + v.f2.size + v.f6.length ≤ 65536) (body : List Int) (hbl : body.length ≤ 200000) (hk : Ev (fun k => spec_DocBytes.f k v.f7) (le4 ((body.length + 5 : Nat) : Int) ++ (body ++ [0]))) (hkn : spec_DocKnown.f v.f0 = some true) (hm : (v.f0 = 7 → v.f6.length = 12) ∧ (v.f0 = 12 → v.f6.length = 12) ∧ (v.f0 = 11 → spec_DocPlain.f (v.f1.size + 1) v.f1 = some true ∧ spec_DocPlain.f (v.f2.size + 1) v.f2 = some true)) :
    ∃ l, Ev (fun k => spec_DocValue.f k v.f0 v.f1 v.f2 v.f3 v.f4 v.f5 v.f6 v.f7) l ∧ Cont v body l := by
  obtain ⟨K0, hK0'⟩ := hk
  have hK0 : ∀ k, K0 ≤ k → spec_DocBytes.f k v.f7 = some (le4 ((body.length + 5 : Nat) : Int) ++ (body ++ [0])) := hK0'
  obtain ⟨K1, hK1⟩ := int64_from [] v.f4 (by simp)
  obtain ⟨K2, hK2⟩ := int64_from [] (IntKind.u64.wrap v.f3) (by simp)
  obtain ⟨K3, hK3⟩ := int64_from ([] ++ le8 v.f4) v.f5 (by rw [List.length_append, le8_length]; simp)
  have htx := text_form v.f1 (by omega)
  have i32 := fun n => int32_some [] n (by simp)
  have go : ∀ l, Cont v body l → (∀ k, K0 ≤ k → K1 ≤ k → K2 ≤ k → K3 ≤ k → spec_DocValue.f (k + 5) v.f0 v.f1 v.f2 v.f3 v.f4 v.f5 v.f6 v.f7 = some l) → ∃ l, Ev (fun k => spec_DocValue.f k v.f0 v.f1 v.f2 v.f3 v.f4 v.f5 v.f6 v.f7) l ∧ Cont v body l := by
    intro l hl h
    refine ⟨l, ⟨K0 + K1 + K2 + K3 + 5, fun k hk => ?_⟩, hl⟩
    obtain ⟨q, rfl⟩ : ∃ q, k = q + 5 := ⟨k - 5, by omega⟩
    exact h q (by omega) (by omega) (by omega) (by omega)
  by_cases c1 : v.f0 = 1
  · refine go ([] ++ le8 v.f4) (.bits (by omega) (by simp only [List.nil_append, List.append_assoc])) (fun k h0 h1 h2 h3 => ?_)
    rw [spec_DocValue.f, if_pos c1, c1, spec_DocValue.j0, if_pos (by decide), hK1 _ (by omega)]; rfl
  by_cases c17 : v.f0 = 17
  · refine go ([] ++ le8 v.f4) (.bits (by omega) (by simp only [List.nil_append, List.append_assoc])) (fun k h0 h1 h2 h3 => ?_)
    rw [spec_DocValue.f, if_neg c1, c17, spec_DocValue.j0, if_pos (by decide), hK1 _ (by omega)]; rfl
  by_cases c2 : v.f0 = 2
  · refine go (le4 ((v.f1.size + 1 : Nat) : Int) ++ (bytesOf v.f1 ++ [0])) (.text (by omega) rfl) (fun k h0 h1 h2 h3 => ?_)
    rw [spec_DocValue.f, if_neg c1, c2, spec_DocValue.j0, if_neg (by decide), if_pos (by decide), spec_DocValue.j1, if_pos (by decide), htx]; rfl
  by_cases c13 : v.f0 = 13
  · refine go (le4 ((v.f1.size + 1 : Nat) : Int) ++ (bytesOf v.f1 ++ [0])) (.text (by omega) rfl) (fun k h0 h1 h2 h3 => ?_)
    rw [spec_DocValue.f, if_neg c1, c13, spec_DocValue.j0, if_neg (by decide), if_neg (by decide), if_pos (by decide), spec_DocValue.j1, if_pos (by decide), htx]; rfl
  by_cases c14 : v.f0 = 14
  · refine go (le4 ((v.f1.size + 1 : Nat) : Int) ++ (bytesOf v.f1 ++ [0])) (.text (by omega) rfl) (fun k h0 h1 h2 h3 => ?_)
    rw [spec_DocValue.f, if_neg c1, c14, spec_DocValue.j0, if_neg (by decide), if_neg (by decide), if_neg (by decide), spec_DocValue.j1, if_pos (by decide), htx]; rfl
  by_cases c3 : v.f0 = 3
  · refine go (le4 ((body.length + 5 : Nat) : Int) ++ (body ++ [0])) (.doc (by omega) rfl) (fun k h0 h1 h2 h3 => ?_)
    rw [spec_DocValue.f, if_neg c1, c3, spec_DocValue.j0, if_neg (by decide), if_neg (by decide), if_neg (by decide), spec_DocValue.j1, if_neg (by decide), if_pos (by decide), spec_DocValue.j2, if_pos (by decide), hK0 _ (by omega)]; rfl
  by_cases c4 : v.f0 = 4
  · refine go (le4 ((body.length + 5 : Nat) : Int) ++ (body ++ [0])) (.doc (by omega) rfl) (fun k h0 h1 h2 h3 => ?_)
    rw [spec_DocValue.f, if_neg c1, c4, spec_DocValue.j0, if_neg (by decide), if_neg (by decide), if_neg (by decide), spec_DocValue.j1, if_neg (by decide), if_neg (by decide), spec_DocValue.j2, if_pos (by decide), hK0 _ (by omega)]; rfl
  by_cases c5 : v.f0 = 5
  · by_cases c2n : v.f3 = 2
    · refine go (([] ++ le4 (wrap64 ((v.f6.length : Int) + 4))) ++ [2] ++ le4 (v.f6.length : Int) ++ v.f6) (.bin2 ⟨c5, c2n⟩ (by rw [w64 (by omega) (by omega)]; simp only [List.nil_append, List.append_assoc]; rfl)) (fun k h0 h1 h2 h3 => ?_)
      rw [spec_DocValue.f, if_neg c1, c5, spec_DocValue.j0, if_neg (by decide), if_neg (by decide), if_neg (by decide), spec_DocValue.j1, if_neg (by decide), if_neg (by decide), spec_DocValue.j2, if_neg (by decide), if_pos (by decide), if_pos c2n, i32]
      have j1 : (([] : List Int) ++ le4 (wrap64 ((v.f6.length : Int) + 4))).length < 140737488355328 := (by simp only [List.length_append, le8_length, le4_length, List.length_nil, List.length_cons, bytesOf_length]; omega)
      have j2 : (([] : List Int) ++ le4 (wrap64 ((v.f6.length : Int) + 4)) ++ [2]).length ≤ 1000000 := (by simp only [List.length_append, le8_length, le4_length, List.length_nil, List.length_cons, bytesOf_length]; omega)
      have j3 : (([] : List Int) ++ le4 (wrap64 ((v.f6.length : Int) + 4)) ++ [2] ++ le4 (v.f6.length : Int)).length + v.f6.length < 140737488355328 := (by simp only [List.length_append, le8_length, le4_length, List.length_nil, List.length_cons, bytesOf_length]; omega)
      simp only [Option.bind_some, j1, if_true, int32_some _ _ j2, j3]
    · refine go (([] ++ le4 (v.f6.length : Int)) ++ [v.f3 % 256] ++ v.f6) (.bin ⟨c5, c2n⟩ (by simp only [List.nil_append, List.append_assoc])) (fun k h0 h1 h2 h3 => ?_)
      rw [spec_DocValue.f, if_neg c1, c5, spec_DocValue.j0, if_neg (by decide), if_neg (by decide), if_neg (by decide), spec_DocValue.j1, if_neg (by decide), if_neg (by decide), spec_DocValue.j2, if_neg (by decide), if_pos (by decide), if_neg c2n, i32]
      have j1 : (([] : List Int) ++ le4 (v.f6.length : Int)).length < 140737488355328 := (by simp only [List.length_append, le8_length, le4_length, List.length_nil, List.length_cons, bytesOf_length]; omega)
      have j2 : (([] : List Int) ++ le4 (v.f6.length : Int) ++ [v.f3 % 256]).length + v.f6.length < 140737488355328 := (by simp only [List.length_append, le8_length, le4_length, List.length_nil, List.length_cons, bytesOf_length]; omega)
      simp only [Option.bind_some, j1, if_true, j2]
  by_cases c7 : v.f0 = 7
  · refine go ([] ++ v.f6) (.oid c7 (by simp only [List.nil_append, List.append_assoc])) (fun k h0 h1 h2 h3 => ?_)
    rw [spec_DocValue.f, if_neg c1, c7, spec_DocValue.j0, if_neg (by decide), if_neg (by decide), if_neg (by decide), spec_DocValue.j1, if_neg (by decide), if_neg (by decide), spec_DocValue.j2, if_neg (by decide), if_neg (by decide), if_pos (by decide), if_pos (by simp only [List.length_append, le8_length, le4_length, List.length_nil, List.length_cons, bytesOf_length]; omega)]
  by_cases c8 : v.f0 = 8
  · refine go ([] ++ [v.f3 % 256]) (.bool c8 (by simp only [List.nil_append, List.append_assoc])) (fun k h0 h1 h2 h3 => ?_)
    rw [spec_DocValue.f, if_neg c1, c8, spec_DocValue.j0, if_neg (by decide), if_neg (by decide), if_neg (by decide), spec_DocValue.j1, if_neg (by decide), if_neg (by decide), spec_DocValue.j2, if_neg (by decide), if_neg (by decide), if_neg (by decide), if_pos (by decide), if_pos (by decide)]
  by_cases c9 : v.f0 = 9
  · refine go ([] ++ le8 (IntKind.u64.wrap v.f3)) (.num (by omega) (by simp only [List.nil_append, List.append_assoc])) (fun k h0 h1 h2 h3 => ?_)
    rw [spec_DocValue.f, if_neg c1, c9, spec_DocValue.j0, if_neg (by decide), if_neg (by decide), if_neg (by decide), spec_DocValue.j1, if_neg (by decide), if_neg (by decide), spec_DocValue.j2, if_neg (by decide), if_neg (by decide), if_neg (by decide), if_neg (by decide), if_pos (by decide), spec_DocValue.j3, if_pos (by decide), hK2 _ (by omega)]; rfl
  by_cases c18 : v.f0 = 18
  · refine go ([] ++ le8 (IntKind.u64.wrap v.f3)) (.num (by omega) (by simp only [List.nil_append, List.append_assoc])) (fun k h0 h1 h2 h3 => ?_)
    rw [spec_DocValue.f, if_neg c1, c18, spec_DocValue.j0, if_neg (by decide), if_neg (by decide), if_neg (by decide), spec_DocValue.j1, if_neg (by decide), if_neg (by decide), spec_DocValue.j2, if_neg (by decide), if_neg (by decide), if_neg (by decide), if_neg (by decide), if_neg (by decide), spec_DocValue.j3, if_pos (by decide), hK2 _ (by omega)]; rfl
  by_cases c16 : v.f0 = 16
  · refine go ([] ++ le4 v.f3) (.i32 c16 (by simp only [List.nil_append, List.append_assoc])) (fun k h0 h1 h2 h3 => ?_)
    rw [spec_DocValue.f, if_neg c1, c16, spec_DocValue.j0, if_neg (by decide), if_neg (by decide), if_neg (by decide), spec_DocValue.j1, if_neg (by decide), if_neg (by decide), spec_DocValue.j2, if_neg (by decide), if_neg (by decide), if_neg (by decide), if_neg (by decide), if_neg (by decide), spec_DocValue.j3, if_neg (by decide), if_pos (by decide), i32]; rfl
  by_cases c11 : v.f0 = 11
  · refine go ([] ++ bytesOf v.f1 ++ [0] ++ bytesOf v.f2 ++ [0]) (.rx c11 (by simp only [List.nil_append, List.append_assoc])) (fun k h0 h1 h2 h3 => ?_)
    have j1 : ([] : List Int).length + v.f1.size < 140737488355328 := (by simp only [List.length_append, le8_length, le4_length, List.length_nil, List.length_cons, bytesOf_length]; omega)
    have j2 : (([] : List Int) ++ bytesOf v.f1).length < 140737488355328 := (by simp only [List.length_append, le8_length, le4_length, List.length_nil, List.length_cons, bytesOf_length]; omega)
    have j3 : (([] : List Int) ++ bytesOf v.f1 ++ [0]).length + v.f2.size < 140737488355328 := (by simp only [List.length_append, le8_length, le4_length, List.length_nil, List.length_cons, bytesOf_length]; omega)
    have j4 : (([] : List Int) ++ bytesOf v.f1 ++ [0] ++ bytesOf v.f2).length < 140737488355328 := (by simp only [List.length_append, le8_length, le4_length, List.length_nil, List.length_cons, bytesOf_length]; omega)
    rw [spec_DocValue.f, if_neg c1, c11, spec_DocValue.j0, if_neg (by decide), if_neg (by decide), if_neg (by decide), spec_DocValue.j1, if_neg (by decide), if_neg (by decide), spec_DocValue.j2, if_neg (by decide), if_neg (by decide), if_neg (by decide), if_neg (by decide), if_neg (by decide), spec_DocValue.j3, if_neg (by decide), if_neg (by decide), if_pos (by decide)]
    simp only [Option.bind_some, j1, j2, j3, j4, if_true]
  by_cases c12 : v.f0 = 12
  · have hb := hm.2.1 c12
    refine go (le4 ((v.f1.size + 1 : Nat) : Int) ++ (bytesOf v.f1 ++ [0]) ++ v.f6) (.dbp c12 (by simp only [List.nil_append, List.append_assoc])) (fun k h0 h1 h2 h3 => ?_)
    have j1 : (le4 ((v.f1.size + 1 : Nat) : Int) ++ (bytesOf v.f1 ++ [0])).length + v.f6.length < 140737488355328 := (by simp only [List.length_append, le8_length, le4_length, List.length_nil, List.length_cons, bytesOf_length]; omega)
    rw [spec_DocValue.f, if_neg c1, c12, spec_DocValue.j0, if_neg (by decide), if_neg (by decide), if_neg (by decide), spec_DocValue.j1, if_neg (by decide), if_neg (by decide), spec_DocValue.j2, if_neg (by decide), if_neg (by decide), if_neg (by decide), if_neg (by decide), if_neg (by decide), spec_DocValue.j3, if_neg (by decide), if_neg (by decide), if_neg (by decide), if_pos (by decide), htx]
    simp only [Option.bind_some, j1, if_true]
  by_cases c15 : v.f0 = 15
  · have et : (le4 ((v.f1.size + 1 : Nat) : Int) ++ (bytesOf v.f1 ++ [0])).length = v.f1.size + 5 := (by simp only [List.length_append, le8_length, le4_length, List.length_nil, List.length_cons, bytesOf_length]; omega)
    have el : (le4 ((body.length + 5 : Nat) : Int) ++ (body ++ [0])).length = body.length + 5 := (by simp only [List.length_append, le8_length, le4_length, List.length_nil, List.length_cons, bytesOf_length]; omega)
    have e1 : wrap64 ((wrap64 (4 + ((le4 ((v.f1.size + 1 : Nat) : Int) ++ (bytesOf v.f1 ++ [0])).length : Int))) + ((le4 ((body.length + 5 : Nat) : Int) ++ (body ++ [0])).length : Int)) = ((4 + (v.f1.size + 5) + (body.length + 5) : Nat) : Int) := by rw [et, el, w64 (x := 4 + _) (by omega) (by omega), w64 (by omega) (by omega)]; omega
    refine go ([] ++ le4 ((4 + (v.f1.size + 5) + (body.length + 5) : Nat) : Int) ++ (le4 ((v.f1.size + 1 : Nat) : Int) ++ (bytesOf v.f1 ++ [0])) ++ (le4 ((body.length + 5 : Nat) : Int) ++ (body ++ [0]))) (.scope c15 (by simp only [List.nil_append, List.append_assoc])) (fun k h0 h1 h2 h3 => ?_)
    have j1 : (([] : List Int) ++ le4 ((4 + (v.f1.size + 5) + (body.length + 5) : Nat) : Int)).length + (le4 ((v.f1.size + 1 : Nat) : Int) ++ (bytesOf v.f1 ++ [0])).length < 140737488355328 := by rw [et, List.length_append, le4_length, List.length_nil]; omega
    have j2 : (([] : List Int) ++ le4 ((4 + (v.f1.size + 5) + (body.length + 5) : Nat) : Int) ++ (le4 ((v.f1.size + 1 : Nat) : Int) ++ (bytesOf v.f1 ++ [0]))).length + (le4 ((body.length + 5 : Nat) : Int) ++ (body ++ [0])).length < 140737488355328 := by rw [el, List.length_append, et, List.length_append, le4_length, List.length_nil]; omega
    rw [spec_DocValue.f, if_neg c1, c15, spec_DocValue.j0, if_neg (by decide), if_neg (by decide), if_neg (by decide), spec_DocValue.j1, if_neg (by decide), if_neg (by decide), spec_DocValue.j2, if_neg (by decide), if_neg (by decide), if_neg (by decide), if_neg (by decide), if_neg (by decide), spec_DocValue.j3, if_neg (by decide), if_neg (by decide), if_neg (by decide), if_neg (by decide), if_pos (by decide), htx, hK0 _ (by omega)]
    simp only [Option.bind_some, e1, i32, j1, j2, if_true]
  by_cases c19 : v.f0 = 19
  · refine go ([] ++ le8 v.f4 ++ le8 v.f5) (.dec c19 (by simp only [List.nil_append, List.append_assoc])) (fun k h0 h1 h2 h3 => ?_)
    rw [spec_DocValue.f, if_neg c1, c19, spec_DocValue.j0, if_neg (by decide), if_neg (by decide), if_neg (by decide), spec_DocValue.j1, if_neg (by decide), if_neg (by decide), spec_DocValue.j2, if_neg (by decide), if_neg (by decide), if_neg (by decide), if_neg (by decide), if_neg (by decide), spec_DocValue.j3, if_neg (by decide), if_neg (by decide), if_neg (by decide), if_neg (by decide), if_neg (by decide), if_pos (by decide), hK1 _ (by omega)]
    simp only [Option.bind_some, hK3 _ h3]
  have hko : v.f0 = 6 ∨ v.f0 = 10 ∨ v.f0 = 127 ∨ v.f0 = 255 := by
    unfold spec_DocKnown.f at hkn
    (repeat' split at hkn) <;> simp at hkn <;> omega
  refine go [] (.none hko rfl) (fun k h0 h1 h2 h3 => ?_)
  rw [spec_DocValue.f, if_neg c1, spec_DocValue.j0, if_neg (fun h => c17 (by simpa using h)), if_neg c2, if_neg c13, spec_DocValue.j1, if_neg (fun h => c14 (by simpa using h)), if_neg c3, spec_DocValue.j2, if_neg (fun h => c4 (by simpa using h)), if_neg c5, if_neg c7, if_neg c8, if_neg c9, spec_DocValue.j3, if_neg (fun h => c18 (by simpa using h)), if_neg c16, if_neg c11, if_neg c12, if_neg c15, if_neg c19]
theorem Ev.uniq_ {α : Type} {g : Nat → Option α} {r s : α} (h : Ev g r) (k : Ev g s) : r = s := by
  obtain ⟨K, h⟩ := h
  obtain ⟨K', k⟩ := k
  have a := h (max K K') (by omega)
  have b := k (max K K') (by omega)
  exact Option.some.inj (a.symm.trans b)
theorem kids_form : ∀ (r : List S89) (n b : Nat), SzL r n b → n ≤ 1000 → b ≤ 65536 → (∀ e, e ∈ r → FitV e.f1) → ∀ (K pre : List S89) (acc : List Int), K = pre ++ r → K.length ≤ M → acc.length + b + 24 * n ≤ 100000 →
    ∃ body, Ev (fun k => spec_DocBytes.l0 k K acc (pre.length : Int)) (le4 ((body.length + 5 : Nat) : Int) ++ (body ++ [0])) ∧ body.length ≤ acc.length + b + 24 * n := by
  intro r
  induction r with
  | nil =>
    intro n b hs hn hb hk K pre acc he hM ha
    refine ⟨acc, ⟨1, fun k hk => ?_⟩, by omega⟩
    obtain ⟨k, rfl⟩ : ∃ q, k = q + 1 := ⟨k - 1, by omega⟩
    show spec_DocBytes.l0 (k + 1) _ _ _ = _
    rw [spec_DocBytes.l0, if_neg (by rw [he]; simp)]
    exact doc_form acc (by omega)
  | cons e r ihr =>
    intro n b hs hn hb hk K pre acc he hM ha
    cases hs with
    | cons _ _ n1 b1 n' b' h1 hr =>
    have hM' : K.length ≤ 140737488351232 := hM
    have hlen : K.length = pre.length + (r.length + 1) := by rw [he]; simp
    have he' : rd_T89 K (pre.length : Int) = e := by rw [he]; exact rd_at pre r e
    obtain ⟨lv, ev1, hl1⟩ := value h1 (hk e (by simp)) (by omega) (by omega)
    obtain ⟨hd, hhd, hhl⟩ := head_some e.f1.f0 e.f0 (by omega)
    obtain ⟨l, ev2, hl2⟩ := ihr n' b' hr (by omega) (by omega) (fun x hx => hk x (by simp [hx])) K (pre ++ [e]) (acc ++ (hd ++ lv)) (by rw [he]; simp) hM (by simp only [List.length_append]; omega)
    refine ⟨l, ?_, by simp only [List.length_append] at hl2; omega⟩
    have hsum : hd.length + lv.length < 140737488355328 := by omega
    have evE : Ev (fun k => spec_DocElem.f k e.f0 e.f1.f0 e.f1.f1 e.f1.f2 e.f1.f3 e.f1.f4 e.f1.f5 e.f1.f6 e.f1.f7) (hd ++ lv) := by
      refine Ev.step (f := fun k => (spec_DocValue.f k e.f1.f0 e.f1.f1 e.f1.f2 e.f1.f3 e.f1.f4 e.f1.f5 e.f1.f6 e.f1.f7).bind fun t300 => (if hd.length + t300.length < 140737488355328 then (some (hd ++ t300)) else (none))) (fun k => by rw [spec_DocElem.f, hhd]; rfl) ?_
      refine Ev.bind ev1 ?_
      exact Ev.congr (fun k => by rw [if_pos hsum]) (Ev.now _)
    refine Ev.step (f := fun k => (spec_DocElem.f k e.f0 e.f1.f0 e.f1.f1 e.f1.f2 e.f1.f3 e.f1.f4 e.f1.f5 e.f1.f6 e.f1.f7).bind fun t => (if acc.length + t.length < 140737488355328 then (spec_DocBytes.l0 k K (acc ++ t) (wrap64 ((pre.length : Int) + 1))) else (none))) (fun k => ?_) ?_
    · rw [spec_DocBytes.l0, if_pos (by omega), if_pos (by omega), he']
    · refine Ev.bind evE ?_
      have e2 : wrap64 ((pre.length : Int) + 1) = (((pre ++ [e]).length : Nat) : Int) := by rw [w64 (by omega) (by omega)]; simp
      exact Ev.congr (fun k => by rw [if_pos (by simp only [List.length_append]; omega), e2]) ev2

end Go.Proofs.YtpbfigeaoefcmaaGreat.PBg.VT
