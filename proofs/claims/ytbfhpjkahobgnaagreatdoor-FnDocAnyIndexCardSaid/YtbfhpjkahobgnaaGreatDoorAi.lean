/- Plain laws on the told functions of this seat, without memory. Conditions: as each theorem states them. -/
import Derived.Test.YtbfhpjkahobgnaaGreatDoorProg
import Derived.Test.YtbfhpjkahobgnaaGreatDoorHW
import Derived.Below
import Derived.Deep.Draws
import Derived.OwnWalk
import Derived.Tactics
import Derived.WalkKit
import Derived.KernelRfl
import Derived.RowKit3
import Derived.Deep.LoopGhost
import Derived.Deep.QuietTactic
import Derived.BigQuiet
import Derived.WideLaws
import Derived.Deep.DeepCutAuto
import Derived.Deep.CutBlock
import Derived.Laws.Rows
import Derived.Outline
import Derived.StillTailTactics
import Derived.Deep.RegionHeld3
import Derived.Test.YtbfhpjkahobgnaaGreatDoorPIxx11
import Derived.Test.YtbfhpjkahobgnaaGreatDoorPL
namespace Go.Proofs.YtbfhpjkahobgnaaGreatDoor.PIx.VT
open Go.RowKit Go.Proofs.YtbfhpjkahobgnaaGreatDoorW.PrintWords Go.Proofs.YtbfhpjkahobgnaaGreatDoorW.PrintLast Go.Proofs.YtbfhpjkahobgnaaGreatDoorW.PrintMore
set_option linter.unusedVariables false
set_option linter.unusedSimpArgs false
theorem wrap_same (k : IntKind) {a b : Int} (h : a % 2 ^ k.bits = b % 2 ^ k.bits) : k.wrap a = k.wrap b := by
  unfold IntKind.wrap
  rw [h]
theorem or_high (k : IntKind) (i : Nat) (hi : i ≤ k.bits) (x y : Int) (h0 : 0 ≤ x) (h1 : x < 2 ^ i) (hy : y % 2 ^ i = 0) : bits .or k x y = k.wrap (x + y) := by
  have hp : (2 : Int) ^ k.bits = 2 ^ i * 2 ^ (k.bits - i) := by rw [← Int.pow_add]; congr 1; omega
  have hpos : (0 : Int) < 2 ^ k.bits := Int.pow_pos (by decide)
  obtain ⟨a, rfl⟩ := Int.eq_ofNat_of_zero_le h0
  have ha : a < 2 ^ i := by exact_mod_cast h1
  have hab : a < 2 ^ k.bits := Nat.lt_of_lt_of_le ha (Nat.pow_le_pow_right (by decide) hi)
  obtain ⟨b, hb⟩ := Int.eq_ofNat_of_zero_le (Int.emod_nonneg y (Int.ne_of_gt hpos))
  have hbm : (b : Int) % 2 ^ i = 0 := by
    rw [← hb, hp, Int.emod_emod_of_dvd _ (Int.dvd_mul_right _ _)]; exact hy
  have hbn : b % 2 ^ i = 0 := by exact_mod_cast hbm
  have hblt : b < 2 ^ k.bits := by
    have := Int.emod_lt_of_pos y hpos
    rw [hb] at this
    exact_mod_cast this
  have e1 : (BitVec.ofInt k.bits y).toNat = b := by
    rw [BitVec.toNat_ofInt]
    have : (y % ((2 ^ k.bits : Nat) : Int)) = b := by rw [← hb]; simp
    rw [this]
    rfl
  have e2 : (BitVec.ofInt k.bits (a : Int)).toNat = a := by
    rw [BitVec.ofInt_natCast, BitVec.toNat_ofNat]
    exact Nat.mod_eq_of_lt hab
  unfold bits
  simp only [BitVec.toNat_or, e1, e2]
  have hq : b = 2 ^ i * (b / 2 ^ i) := by
    have := Nat.div_add_mod b (2 ^ i)
    omega
  have e3 : a ||| b = a + b := by
    rw [Nat.or_comm, hq, ← Nat.two_pow_add_eq_or_of_lt ha (b / 2 ^ i)]
    omega
  rw [e3]
  apply wrap_same
  rw [Int.natCast_add, ← hb, Int.add_emod, Int.emod_emod_of_dvd _ (Int.dvd_refl _), ← Int.add_emod]
theorem wrap_i32' (n : Int) : IntKind.i32.wrap n = wrap32 n := by rw [IntKind.wrap_i32]; unfold wrap32; rfl
theorem wrap_i64' (n : Int) : IntKind.i64.wrap n = wrap64 n := by rw [IntKind.wrap_i64]; unfold wrap64; rfl
theorem readI32x (n : Int) (h0 : -2147483648 ≤ n) (h1 : n < 2147483648) (x : List Int) : binaryutil_ReadI32.f (n % 256 :: n / 256 % 256 :: n / 65536 % 256 :: n / 16777216 % 256 :: x) = some (n, x, true) := by
  have w0 : wrap32 (rd (n % 256 :: n / 256 % 256 :: n / 65536 % 256 :: n / 16777216 % 256 :: x) 0) = n % 256 := by show wrap32 (n % 256) = _; unfold wrap32; omega
  have w1 : wrap32 (wrap32 (rd (n % 256 :: n / 256 % 256 :: n / 65536 % 256 :: n / 16777216 % 256 :: x) 1) * 256) = n / 256 % 256 * 256 := by show wrap32 (wrap32 (n / 256 % 256) * 256) = _; unfold wrap32; omega
  have w2 : wrap32 (wrap32 (rd (n % 256 :: n / 256 % 256 :: n / 65536 % 256 :: n / 16777216 % 256 :: x) 2) * 65536) = n / 65536 % 256 * 65536 := by show wrap32 (wrap32 (n / 65536 % 256) * 65536) = _; unfold wrap32; omega
  have w3 : wrap32 (wrap32 (rd (n % 256 :: n / 256 % 256 :: n / 65536 % 256 :: n / 16777216 % 256 :: x) 3) * 16777216) = wrap32 (n / 16777216 % 256 * 16777216) := by show wrap32 (wrap32 (n / 16777216 % 256) * 16777216) = _; unfold wrap32; omega
  have hl : (n % 256 :: n / 256 % 256 :: n / 65536 % 256 :: n / 16777216 % 256 :: x).length = x.length + 4 := rfl
  unfold binaryutil_ReadI32.f
  rw [w0, w1, w2, w3, hl, if_neg (by omega), if_pos (by omega), if_pos (by omega), if_pos (by omega), if_pos (by omega), if_pos (by omega)]
  rw [or_high .i32 8 (by decide) (n % 256) _ (by omega) (by omega) (by omega)]
  rw [wrap_i32', show wrap32 (n % 256 + n / 256 % 256 * 256) = n % 65536 by unfold wrap32; omega]
  rw [or_high .i32 16 (by decide) (n % 65536) _ (by omega) (by omega) (by omega)]
  rw [wrap_i32', show wrap32 (n % 65536 + n / 65536 % 256 * 65536) = n % 16777216 by unfold wrap32; omega]
  rw [or_high .i32 24 (by decide) (n % 16777216) _ (by omega) (by omega) (by unfold wrap32; omega)]
  rw [wrap_i32', show wrap32 (n % 16777216 + wrap32 (n / 16777216 % 256 * 16777216)) = n by unfold wrap32; omega]
  rfl
theorem w32 {x : Int} (h0 : -2147483648 ≤ x) (h1 : x ≤ 2147483647) : wrap32 x = x := by unfold wrap32; omega
theorem w64 {x : Int} (h0 : -9223372036854775808 ≤ x) (h1 : x ≤ 9223372036854775807) : wrap64 x = x := by unfold wrap64; omega
theorem rd_mid (pre r : List Int) (x : Int) : rd (pre ++ x :: r) (pre.length : Int) = x := by
  unfold rd
  rw [Int.toNat_natCast]
  simp
theorem byte_zero {x : Int} (h : (Lit.int .u8 x).wf = true) : ((UInt8.ofNat x.toNat) == (0 : UInt8)) = decide (x = 0) := by
  obtain ⟨h0, h1⟩ := PL.wf_u8 h
  by_cases hx : x = 0
  · subst hx; rfl
  · rw [decide_eq_false hx]
    apply beq_false_of_ne
    intro hc
    have := congrArg UInt8.toNat hc
    simp at this
    omega
/-- A text up to the first byte 0: what the search finds. -/
theorem name_ev (l : List Int) (hl : l.length ≤ 6000) (hw : ∀ x, x ∈ l → (Lit.int .u8 x).wf = true) : ∀ (r pre : List Int), l = pre ++ r → (Lib.indexByte (Lib.bytesOf r) 0 = -1 ∧ Ev (fun k => spec_DocName.l0 k l (pre.length : Int)) ((⟨#[]⟩ : ByteArray), 0, false)) ∨ ∃ i : Nat, i < r.length ∧ Lib.indexByte (Lib.bytesOf r) 0 = (i : Int) ∧ Ev (fun k => spec_DocName.l0 k l (pre.length : Int)) (strOfNums (l.take (pre.length + i)), ((pre.length + i + 1 : Nat) : Int), true) := by
  intro r
  induction r with
  | nil => intro pre he; exact Or.inl ⟨rfl, Ev.step (fun k => by rw [spec_DocName.l0, if_neg (by rw [he]; simp)]) (Ev.now _)⟩
  | cons x r ih =>
    intro pre he
    have hlen : l.length = pre.length + (r.length + 1) := by rw [he]; simp
    have hx : rd l (pre.length : Int) = x := by rw [he]; exact rd_mid pre r x
    have hz := byte_zero (hw x (by rw [he]; simp))
    have e1 : wrap64 ((pre.length : Int) + 1) = ((pre.length + 1 : Nat) : Int) := by rw [w64 (by omega) (by omega)]; omega
    have hb : Lib.bytesOf (x :: r) = UInt8.ofNat x.toNat :: Lib.bytesOf r := rfl
    by_cases h0 : x = 0
    · refine Or.inr ⟨0, by simp, by rw [hb, Lib.indexByte, hz, decide_eq_true h0]; rfl, ?_⟩
      refine Ev.step (fun k => by rw [spec_DocName.l0, if_pos (by omega), if_pos (by omega), hx, if_pos h0, if_pos (by omega), e1, Int.toNat_natCast]) ?_
      rw [Nat.add_zero]
      exact Ev.now _
    · have hg : ∀ k, spec_DocName.l0 (k + 1) l (pre.length : Int) = spec_DocName.l0 k l (((pre ++ [x]).length : Nat) : Int) := fun k => by rw [spec_DocName.l0, if_pos (by omega), if_pos (by omega), hx, if_neg h0, e1]; simp
      rcases ih (pre ++ [x]) (by rw [he]; simp) with ⟨h1, ev⟩ | ⟨i, hi, h1, ev⟩
      · exact Or.inl ⟨by rw [hb, Lib.indexByte, hz, decide_eq_false h0, h1]; rfl, Ev.step hg ev⟩
      · refine Or.inr ⟨i + 1, by simp only [List.length_cons]; omega, ?_, ?_⟩
        · rw [hb, Lib.indexByte, hz, decide_eq_false h0, h1, if_neg (by decide), if_neg (by rw [beq_iff_eq]; omega)]
          omega
        · have e2 : (pre ++ [x]).length + i = pre.length + (i + 1) := by simp only [List.length_append, List.length_cons, List.length_nil]; omega
          rw [e2] at ev
          exact Ev.step hg ev
theorem copy_ok (l : List Int) (hl : l.length ≤ 6000) : laws_docCopy.f l = some l := by
  unfold laws_docCopy.f
  rw [Option.bind_some, if_pos (by simp only [List.length_nil]; omega), List.nil_append]
theorem awake : Ev (fun k => laws_docAwake.f k) true := Ev.of (fun k => laws_docAwake.mono k) (k := 60) (by decide +kernel)
theorem u32_wrap (n : Int) : IntKind.u32.wrap n = n % 4294967296 := by simp [IntKind.wrap, IntKind.bits, IntKind.signed]
/-- The number in four bytes, as both read it. -/
theorem docnum (n : Int) (h0 : -2147483648 ≤ n) (h1 : n < 2147483648) (x : List Int) : spec_DocNumber.f (n % 256 :: n / 256 % 256 :: n / 65536 % 256 :: n / 16777216 % 256 :: x) = some (n, true) := by
  have w0 : (rd (n % 256 :: n / 256 % 256 :: n / 65536 % 256 :: n / 16777216 % 256 :: x) 0) % 4294967296 = n % 256 := by show (n % 256) % 4294967296 = _; omega
  have w1 : (((rd (n % 256 :: n / 256 % 256 :: n / 65536 % 256 :: n / 16777216 % 256 :: x) 1) % 4294967296) * 256) % 4294967296 = n / 256 % 256 * 256 := by show (((n / 256 % 256) % 4294967296) * 256) % 4294967296 = _; omega
  have w2 : (((rd (n % 256 :: n / 256 % 256 :: n / 65536 % 256 :: n / 16777216 % 256 :: x) 2) % 4294967296) * 65536) % 4294967296 = n / 65536 % 256 * 65536 := by show (((n / 65536 % 256) % 4294967296) * 65536) % 4294967296 = _; omega
  have w3 : (((rd (n % 256 :: n / 256 % 256 :: n / 65536 % 256 :: n / 16777216 % 256 :: x) 3) % 4294967296) * 16777216) % 4294967296 = n / 16777216 % 256 * 16777216 := by show (((n / 16777216 % 256) % 4294967296) * 16777216) % 4294967296 = _; omega
  have hl : (n % 256 :: n / 256 % 256 :: n / 65536 % 256 :: n / 16777216 % 256 :: x).length = x.length + 4 := rfl
  unfold spec_DocNumber.f
  rw [w0, w1, w2, w3, hl, if_neg (by omega), if_pos (by omega), if_pos (by omega), if_pos (by omega), if_pos (by omega)]
  rw [or_high .u32 8 (by decide) (n % 256) _ (by omega) (by omega) (by omega)]
  rw [u32_wrap, show (n % 256 + n / 256 % 256 * 256) % 4294967296 = n % 65536 by omega]
  rw [or_high .u32 16 (by decide) (n % 65536) _ (by omega) (by omega) (by omega)]
  rw [u32_wrap, show (n % 65536 + n / 65536 % 256 * 65536) % 4294967296 = n % 16777216 by omega]
  rw [or_high .u32 24 (by decide) (n % 16777216) _ (by omega) (by omega) (by omega)]
  rw [u32_wrap, show wrap64 (wrap32 ((n % 16777216 + n / 16777216 % 256 * 16777216) % 4294967296)) = n by unfold wrap64 wrap32; omega]
theorem four (l : List Int) (hw : ∀ x, x ∈ l → (Lit.int .u8 x).wf = true) (h4 : 4 ≤ l.length) : ∃ (n : Int) (x : List Int), -2147483648 ≤ n ∧ n < 2147483648 ∧ binaryutil_ReadI32.f l = some (n, x, true) ∧ spec_DocNumber.f l = some (n, true) := by
  match l, h4 with
  | a :: b :: c :: d :: x, _ =>
    have ha := PL.wf_u8 (hw a (by simp))
    have hb := PL.wf_u8 (hw b (by simp))
    have hc := PL.wf_u8 (hw c (by simp))
    have hd := PL.wf_u8 (hw d (by simp))
    obtain ⟨n, hn⟩ : ∃ n, n = wrap32 (a + b * 256 + c * 65536 + d * 16777216) := ⟨_, rfl⟩
    unfold wrap32 at hn
    have e0 : a = n % 256 := by omega
    have e1 : b = n / 256 % 256 := by omega
    have e2 : c = n / 65536 % 256 := by omega
    have e3 : d = n / 16777216 % 256 := by omega
    rw [e0, e1, e2, e3]
    exact ⟨n, x, by omega, by omega, readI32x n (by omega) (by omega) x, docnum n (by omega) (by omega) x⟩
/-- What stands in the first four bytes, if they are there. -/
theorem first4 (l : List Int) (hw : ∀ x, x ∈ l → (Lit.int .u8 x).wf = true) : ∃ (n : Int) (ok : Bool) (x : List Int), -2147483648 ≤ n ∧ n < 2147483648 ∧ (ok = false → n = 0) ∧ bsoncore_ReadLength.f l = some (n, x, ok && decide (0 ≤ n)) ∧ spec_DocNumber.f l = some (n, ok) := by
  by_cases h4 : 4 ≤ l.length
  · obtain ⟨n, x, h0, h1, hr, hd⟩ := four l hw h4
    refine ⟨n, true, x, h0, h1, (fun h => by cases h), ?_, hd⟩
    unfold bsoncore_ReadLength.f
    rw [hr, Option.bind_some]
    by_cases hn : n < 0
    · rw [if_pos hn, decide_eq_false (by omega)]; rfl
    · rw [if_neg hn, decide_eq_true (by omega)]; rfl
  · refine ⟨0, false, l, by omega, by omega, fun _ => rfl, ?_, ?_⟩
    · unfold bsoncore_ReadLength.f binaryutil_ReadI32.f
      rw [if_pos (by omega)]; rfl
    · unfold spec_DocNumber.f
      rw [if_pos (by omega)]
theorem key_ev (l : List Int) (hl : l.length ≤ 6000) (hw : ∀ x, x ∈ l → (Lit.int .u8 x).wf = true) : ∃ (nm : ByteArray) (n : Nat) (has : Bool), n ≤ l.length ∧ (has = false → n = 0) ∧ (has = true → 1 ≤ n) ∧ bytes_IndexByte.f l 0 = some ((n : Int) - 1) ∧ Ev (fun k => spec_DocName.f k l) (nm, (n : Int), has) := by
  rcases name_ev l hl hw l [] rfl with ⟨h1, ev⟩ | ⟨i, hi, h1, ev⟩
  · exact ⟨⟨#[]⟩, 0, false, by omega, fun _ => rfl, (fun h => by cases h), congrArg some h1, ev⟩
  · refine ⟨strOfNums (l.take i), i + 1, true, by omega, (fun h => by cases h), (fun _ => by omega), ?_, ?_⟩
    · have : bytes_IndexByte.f l 0 = some (i : Int) := congrArg some h1
      rw [this]; congr 1; omega
    · rw [List.length_nil, Nat.zero_add] at ev
      exact ev

/-- The length of a kind of fixed length. -/
def fixedLen (k : Int) : Option Int := if k = 6 ∨ k = 10 ∨ k = 127 ∨ k = 255 then some 0 else if k = 8 then some 1 else if k = 16 then some 4 else if k = 1 ∨ k = 9 ∨ k = 17 ∨ k = 18 then some 8 else if k = 7 then some 12 else if k = 19 then some 16 else none
theorem fixed_cases {k c : Int} (h : fixedLen k = some c) : ((k = 6 ∨ k = 10 ∨ k = 127 ∨ k = 255) ∧ c = 0) ∨ (k = 8 ∧ c = 1) ∨ (k = 16 ∧ c = 4) ∨ ((k = 1 ∨ k = 9 ∨ k = 17 ∨ k = 18) ∧ c = 8) ∨ (k = 7 ∧ c = 12) ∨ (k = 19 ∧ c = 16) := by
  unfold fixedLen at h
  (repeat' split at h) <;> simp at h <;> subst h <;> simp [*]
theorem vl_fixed (l : List Int) {k c : Int} (h : fixedLen k = some c) (q : Nat) : bsoncore_valueLength.f (q + 9) l k = some (c, true) := by
  rcases fixed_cases h with ⟨g | g | g | g, rfl⟩ | ⟨g, rfl⟩ | ⟨g, rfl⟩ | ⟨g | g | g | g, rfl⟩ | ⟨g, rfl⟩ | ⟨g, rfl⟩ <;> clear h <;> subst g <;> simp [bsoncore_valueLength.f, bsoncore_valueLength.j0, bsoncore_valueLength.j1, bsoncore_valueLength.j2, bsoncore_valueLength.j3, bsoncore_valueLength.j4]
/-- A kind that is none. -/
structure NoKind (k : Int) : Prop where
  h1 : k ≠ 1
  h2 : k ≠ 2
  h3 : k ≠ 3
  h4 : k ≠ 4
  h5 : k ≠ 5
  h6 : k ≠ 6
  h7 : k ≠ 7
  h8 : k ≠ 8
  h9 : k ≠ 9
  h10 : k ≠ 10
  h11 : k ≠ 11
  h12 : k ≠ 12
  h13 : k ≠ 13
  h14 : k ≠ 14
  h15 : k ≠ 15
  h16 : k ≠ 16
  h17 : k ≠ 17
  h18 : k ≠ 18
  h19 : k ≠ 19
  h127 : k ≠ 127
  h255 : k ≠ 255
theorem vl_none (l : List Int) {k : Int} (h : NoKind k) (q : Nat) : bsoncore_valueLength.f (q + 9) l k = some (0, false) := by
  obtain ⟨h1, h2, h3, h4, h5, h6, h7, h8, h9, h10, h11, h12, h13, h14, h15, h16, h17, h18, h19, h127, h255⟩ := h
  simp [bsoncore_valueLength.f, bsoncore_valueLength.j0, bsoncore_valueLength.j1, bsoncore_valueLength.j2, bsoncore_valueLength.j3, bsoncore_valueLength.j4, *]
theorem at9 {α : Type} {f : Nat → Option α} {r : α} (h : ∀ q, f (q + 9) = some r) : Ev f r := ⟨9, fun k hk => by obtain ⟨q, rfl⟩ : ∃ q, k = q + 9 := ⟨k - 9, by omega⟩; exact h q⟩
theorem num_ok {l : List Int} {n : Int} {ok : Bool} (h : spec_DocNumber.f l = some (n, ok)) : ok = decide (4 ≤ l.length) := by
  unfold spec_DocNumber.f at h
  by_cases h4 : (l.length : Int) < 4
  · rw [if_pos h4] at h
    obtain ⟨-, rfl⟩ := Prod.mk.inj (Option.some.inj h)
    rw [decide_eq_false (by omega)]
  · rw [if_neg h4, if_pos (by omega), if_pos (by omega), if_pos (by omega), if_pos (by omega)] at h
    obtain ⟨-, rfl⟩ := Prod.mk.inj (Option.some.inj h)
    rw [decide_eq_true (by omega)]
theorem rd_take (l : List Int) (m : Nat) (i : Int) (h : i.toNat < m) : rd (l.take m) i = rd l i := by
  unfold rd
  simp [List.getD_eq_getElem?_getD, List.getElem?_take, h]
theorem num_take (l : List Int) (m : Nat) (h4 : 4 ≤ m) (hm : m ≤ l.length) : spec_DocNumber.f (l.take m) = spec_DocNumber.f l := by
  have hl : (l.take m).length = m := by rw [List.length_take]; omega
  have h0 := rd_take l m 0 (by show 0 < m; omega)
  have h1 := rd_take l m 1 (by show 1 < m; omega)
  have h2 := rd_take l m 2 (by show 2 < m; omega)
  have h3 := rd_take l m 3 (by show 3 < m; omega)
  unfold spec_DocNumber.f
  rw [hl, h0, h1, h2, h3, if_neg (show ¬ (m : Int) < 4 by omega), if_neg (show ¬ (l.length : Int) < 4 by omega), if_pos (show (0 : Int) < (m : Int) by omega), if_pos (show (0 : Int) < (l.length : Int) by omega), if_pos (show (1 : Int) < (m : Int) by omega), if_pos (show (1 : Int) < (l.length : Int) by omega), if_pos (show (2 : Int) < (m : Int) by omega), if_pos (show (2 : Int) < (l.length : Int) by omega), if_pos (show (3 : Int) < (m : Int) by omega), if_pos (show (3 : Int) < (l.length : Int) by omega)]
theorem read_rest {l x : List Int} {n : Int} (h : bsoncore_ReadLength.f l = some (n, x, true)) : x = l.drop 4 ∧ 4 ≤ l.length := by
  unfold bsoncore_ReadLength.f at h
  obtain ⟨⟨m, y, b⟩, hr, h⟩ := Option.bind_eq_some_iff.mp h
  unfold binaryutil_ReadI32.f at hr
  by_cases h4 : (l.length : Int) < 4
  · rw [if_pos h4] at hr
    obtain ⟨rfl, hr2⟩ := Prod.mk.inj (Option.some.inj hr)
    obtain ⟨rfl, rfl⟩ := Prod.mk.inj hr2
    simp at h
  · rw [if_neg h4, if_pos (by omega), if_pos (by omega), if_pos (by omega), if_pos (by omega), if_pos (by omega)] at hr
    obtain ⟨-, hr2⟩ := Prod.mk.inj (Option.some.inj hr)
    obtain ⟨rfl, rfl⟩ := Prod.mk.inj hr2
    refine ⟨?_, by omega⟩
    dsimp only at h
    by_cases hm : m < 0
    · rw [if_pos hm] at h
      obtain ⟨-, h⟩ := Prod.mk.inj (Option.some.inj h)
      obtain ⟨-, h⟩ := Prod.mk.inj h
      cases h
    · rw [if_neg hm] at h
      obtain ⟨-, h⟩ := Prod.mk.inj (Option.some.inj h)
      obtain ⟨h, -⟩ := Prod.mk.inj h
      exact h.symm
theorem j4_gen (q : Nat) (m : Int) (b : Bool) : bsoncore_valueLength.j4 (q + 1) m b = some (m, b && decide (0 ≤ m)) := by
  rw [bsoncore_valueLength.j4]
  by_cases h : m < 0
  · rw [if_pos h, decide_eq_false (by omega), Bool.and_false]
  · rw [if_neg h, decide_eq_true (by omega), Bool.and_true]
/-- A kind whose value bears its length in its first four bytes, with c bytes more. -/
def NumKind (k c : Int) : Prop := 0 ≤ c ∧ c ≤ 16 ∧ ∀ (l x : List Int) (n : Int) (ok : Bool), l.length ≤ 6000 → -2147483648 ≤ n → n < 2147483648 → bsoncore_ReadLength.f l = some (n, x, ok && decide (0 ≤ n)) → spec_DocNumber.f l = some (n, ok) → Ev (fun q => bsoncore_valueLength.f q l k) (wrap32 (n + c), (ok && decide (0 ≤ n)) && decide (0 ≤ wrap32 (n + c))) ∧ Ev (fun q => spec_DocSpan.f q k l) (c + n, (ok && decide (0 ≤ n)) && decide (c + n ≤ (l.length : Int)))
theorem ite3 (ok : Bool) (n W : Int) (L : Int) : (if ok = true then (if n ≥ 0 then (some (W, decide (L ≥ W))) else (some (W, false))) else (some (W, false))) = some (W, (ok && decide (0 ≤ n)) && decide (W ≤ L)) := by
  cases ok
  · simp
  · by_cases h : 0 ≤ n
    · simp [h]
    · simp [h]
theorem num_str (k : Int) (h : k = 2 ∨ k = 13 ∨ k = 14) : NumKind k 4 := by
  refine ⟨by omega, by omega, fun l x n ok hl h0 h1 hR hD => ⟨at9 (fun q => ?_), at9 (fun q => ?_)⟩⟩
  · rcases h with rfl | rfl | rfl <;> simp [bsoncore_valueLength.f, bsoncore_valueLength.j0, bsoncore_valueLength.j1, bsoncore_valueLength.j2, hR, j4_gen]
  · have e : wrap64 (4 + n) = 4 + n := w64 (by omega) (by omega)
    rcases h with rfl | rfl | rfl <;> simp only [spec_DocSpan.f, spec_DocSpan.j0, hD, Option.bind_some, Int.reduceEq, Int.reduceBEq, if_true, if_false, Bool.false_eq_true, e] <;> exact ite3 ok n (4 + n) _
theorem num_doc (k : Int) (h : k = 3 ∨ k = 4 ∨ k = 15) : NumKind k 0 := by
  refine ⟨by omega, by omega, fun l x n ok hl h0 h1 hR hD => ?_⟩
  have e0 : wrap32 (n + 0) = n := by rw [Int.add_zero]; exact w32 (by omega) (by omega)
  rw [e0, Int.zero_add]
  refine ⟨at9 (fun q => ?_), at9 (fun q => ?_)⟩
  · rcases h with rfl | rfl | rfl <;> simp [bsoncore_valueLength.f, bsoncore_valueLength.j0, hR, j4_gen]
  · rcases h with rfl | rfl | rfl <;> simp only [spec_DocSpan.f, spec_DocSpan.j0, spec_DocSpan.j1, hD, Option.bind_some, Int.reduceEq, Int.reduceBEq, if_true, if_false, Bool.false_eq_true] <;> exact ite3 ok n n _
theorem num_ptr : NumKind 12 16 := by
  refine ⟨by omega, by omega, fun l x n ok hl h0 h1 hR hD => ⟨at9 (fun q => ?_), at9 (fun q => ?_)⟩⟩
  · simp [bsoncore_valueLength.f, bsoncore_valueLength.j0, hR, j4_gen]
  · have e : wrap64 (16 + n) = 16 + n := w64 (by omega) (by omega)
    simp only [spec_DocSpan.f, spec_DocSpan.j0, spec_DocSpan.j1, hD, Option.bind_some, Int.reduceEq, Int.reduceBEq, if_true, if_false, Bool.false_eq_true, e]
    exact ite3 ok n (16 + n) _
theorem bind_self (o : Option (Int × Bool)) : (o.bind fun bt => some (bt.1, bt.2)) = o := by cases o <;> rfl
theorem num_bin : NumKind 5 5 := by
  refine ⟨by omega, by omega, fun l x n ok hl h0 h1 hR hD => ⟨at9 (fun q => ?_), at9 (fun q => ?_)⟩⟩
  · simp [bsoncore_valueLength.f, bsoncore_valueLength.j0, hR, j4_gen]
  · have e : wrap64 (5 + n) = 5 + n := w64 (by omega) (by omega)
    simp only [spec_DocSpan.f, spec_DocSpan.j0, spec_DocSpan.j1, spec_DocLen.f, spec_DocLen.j0, spec_DocLen.j1, spec_DocLen.j2, spec_DocLen.j3, bind_self, hD, Option.bind_some, Int.reduceEq, Int.reduceBEq, if_true, if_false, Bool.false_eq_true, e]
    exact ite3 ok n (5 + n) _
theorem fixed_span (l : List Int) (hl : l.length ≤ 6000) (n : Int) (ok : Bool) (hn : spec_DocNumber.f l = some (n, ok)) {k c : Int} (h : fixedLen k = some c) (q : Nat) : spec_DocSpan.f (q + 9) k l = some (c, decide (c ≤ (l.length : Int))) := by
  have e4 := num_ok hn
  rcases fixed_cases h with ⟨g | g | g | g, rfl⟩ | ⟨g, rfl⟩ | ⟨g, rfl⟩ | ⟨g | g | g | g, rfl⟩ | ⟨g, rfl⟩ | ⟨g, rfl⟩ <;> clear h <;> subst g <;> simp only [spec_DocSpan.f, spec_DocSpan.j0, spec_DocSpan.j1, spec_DocLen.f, spec_DocLen.j0, spec_DocLen.j1, bind_self, hn, Option.bind_some, Int.reduceEq, Int.reduceBEq, if_true, if_false, Bool.false_eq_true, ge_iff_le]
  all_goals first | rfl | (rw [decide_eq_true (by omega)]) | (rw [e4]; congr 2; exact decide_eq_decide.mpr (by omega))
theorem fixed_bound {k c : Int} (h : fixedLen k = some c) : 0 ≤ c ∧ c ≤ 16 := by rcases fixed_cases h with ⟨_, h⟩ | ⟨_, h⟩ | ⟨_, h⟩ | ⟨_, h⟩ | ⟨_, h⟩ | ⟨_, h⟩ <;> omega
theorem none_span (L : List Int) (nL : Int) (ok : Bool) (hn : spec_DocNumber.f L = some (nL, ok)) {k : Int} (h : NoKind k) (q : Nat) : spec_DocSpan.f (q + 9) k L = some (0, false) := by
  obtain ⟨h1, h2, h3, h4, h5, h6, h7, h8, h9, h10, h11, h12, h13, h14, h15, h16, h17, h18, h19, h127, h255⟩ := h
  simp [spec_DocSpan.f, spec_DocSpan.j0, spec_DocSpan.j1, spec_DocLen.f, spec_DocLen.j0, spec_DocLen.j1, spec_DocLen.j2, spec_DocLen.j3, *]
theorem kinds (k : Int) : (∃ c, NumKind k c) ∨ (∃ c, fixedLen k = some c) ∨ k = 11 ∨ NoKind k := by
  by_cases g1 : k = 2 ∨ k = 13 ∨ k = 14
  · exact Or.inl ⟨4, num_str k g1⟩
  by_cases g3 : k = 3 ∨ k = 4 ∨ k = 15
  · exact Or.inl ⟨0, num_doc k g3⟩
  by_cases g12 : k = 12
  · subst g12; exact Or.inl ⟨16, num_ptr⟩
  by_cases g5 : k = 5
  · subst g5; exact Or.inl ⟨5, num_bin⟩
  by_cases g11 : k = 11
  · exact Or.inr (Or.inr (Or.inl g11))
  cases hf : fixedLen k with
  | some c => exact Or.inr (Or.inl ⟨c, rfl⟩)
  | none =>
    refine Or.inr (Or.inr (Or.inr ?_))
    simp only [not_or] at g1 g3
    unfold fixedLen at hf
    constructor <;> (rintro rfl; first | (simp at hf; done) | (simp at g1; done) | (simp at g3; done) | exact absurd rfl g5 | exact absurd rfl g12 | exact absurd rfl g11)

/-- Bytes without the byte 0, or up to the first one. -/
theorem split0 : ∀ l : List Int, (∀ x ∈ l, x ≠ 0) ∨ ∃ a t, l = a ++ 0 :: t ∧ ∀ x ∈ a, x ≠ 0
  | [] => Or.inl (fun x hx => by cases hx)
  | y :: l => by
    by_cases h0 : y = 0
    · exact Or.inr ⟨[], l, by rw [h0]; rfl, fun x hx => by cases hx⟩
    · rcases split0 l with h | ⟨a, t, rfl, h⟩
      · exact Or.inl (fun x hx => by rcases List.mem_cons.1 hx with rfl | hx; exact h0; exact h x hx)
      · exact Or.inr ⟨y :: a, t, rfl, fun x hx => by rcases List.mem_cons.1 hx with rfl | hx; exact h0; exact h x hx⟩
theorem index_none : ∀ (l : List Int), (∀ x, x ∈ l → (Lit.int .u8 x).wf = true) → (∀ x ∈ l, x ≠ 0) → Lib.indexByte (Lib.bytesOf l) 0 = -1
  | [], _, _ => rfl
  | y :: l, hw, h => by
    have ih := index_none l (fun x hx => hw x (List.mem_cons_of_mem _ hx)) (fun x hx => h x (List.mem_cons_of_mem _ hx))
    have hb : Lib.bytesOf (y :: l) = UInt8.ofNat y.toNat :: Lib.bytesOf l := rfl
    rw [hb, Lib.indexByte, byte_zero (hw y (by simp)), decide_eq_false (h y (by simp)), ih]
    rfl
theorem index_at : ∀ (a t : List Int), (∀ x, x ∈ a → (Lit.int .u8 x).wf = true) → (∀ x ∈ a, x ≠ 0) → Lib.indexByte (Lib.bytesOf (a ++ 0 :: t)) 0 = (a.length : Int)
  | [], t, _, _ => rfl
  | y :: a, t, hw, h => by
    have ih := index_at a t (fun x hx => hw x (List.mem_cons_of_mem _ hx)) (fun x hx => h x (List.mem_cons_of_mem _ hx))
    have hb : Lib.bytesOf ((y :: a) ++ 0 :: t) = UInt8.ofNat y.toNat :: Lib.bytesOf (a ++ 0 :: t) := rfl
    rw [hb, Lib.indexByte, byte_zero (hw y (by simp)), decide_eq_false (h y (by simp)), ih, if_neg (by decide), if_neg (by rw [beq_iff_eq]; omega)]
    simp only [List.length_cons]
    omega
theorem name_none (l : List Int) (hl : l.length ≤ 6000) (hw : ∀ x, x ∈ l → (Lit.int .u8 x).wf = true) (h : ∀ x ∈ l, x ≠ 0) : Ev (fun k => spec_DocName.f k l) ((⟨#[]⟩ : ByteArray), 0, false) := by
  rcases name_ev l hl hw l [] rfl with ⟨-, ev⟩ | ⟨i, hi, h1, -⟩
  · exact ev
  · rw [index_none l hw h] at h1; omega
theorem name_at (l a t : List Int) (hl : l.length ≤ 6000) (hw : ∀ x, x ∈ l → (Lit.int .u8 x).wf = true) (he : l = a ++ 0 :: t) (h : ∀ x ∈ a, x ≠ 0) : Ev (fun k => spec_DocName.f k l) (strOfNums a, ((a.length + 1 : Nat) : Int), true) := by
  have hi := index_at a t (fun x hx => hw x (by rw [he]; simp [hx])) h
  rcases name_ev l hl hw l [] rfl with ⟨h1, -⟩ | ⟨i, hi', h1, ev⟩
  · rw [he, hi] at h1; omega
  · rw [he, hi] at h1
    have e : i = a.length := by omega
    subst e
    rw [List.length_nil, Nat.zero_add, show l.take a.length = a by rw [he]; simp] at ev
    exact ev
theorem ev_uniq {α : Type} {g : Nat → Option α} {r s : α} (h : Ev g r) (k : Ev g s) : r = s := by
  obtain ⟨a, ha⟩ := h
  obtain ⟨b, hb⟩ := k
  exact Option.some.inj ((ha (a + b) (by omega)).symm.trans (hb (a + b) (by omega)))
/-- A regular expression: what the span of two names is. -/
theorem rx_lift (l : List Int) (n : Int) (ok : Bool) (hn : spec_DocNumber.f l = some (n, ok)) (w : Int) (b : Bool) (h : Ev (fun q => (spec_DocName.f q l).bind fun bt734 => (if 0 ≤ bt734.2.1 then (if bt734.2.1 ≤ (l.length : Int) then ((spec_DocName.f q (l.drop (bt734.2.1 : Int).toNat)).bind fun bt738 => (if bt734.2.2 = true then (some (wrap64 (bt734.2.1 + bt738.2.1), bt738.2.2)) else (some (wrap64 (bt734.2.1 + bt738.2.1), false)))) else (none)) else (none))) (w, b)) : Ev (fun q => spec_DocSpan.f q 11 l) (w, b) := by
  obtain ⟨K, hK⟩ := h
  refine ⟨K + 9, fun q hq => ?_⟩
  obtain ⟨q, rfl⟩ : ∃ r, q = r + 9 := ⟨q - 9, by omega⟩
  have hK := hK (q + 3) (by omega)
  simp only [spec_DocSpan.f, spec_DocSpan.j0, spec_DocSpan.j1, spec_DocLen.f, spec_DocLen.j0, spec_DocLen.j1, spec_DocLen.j2, spec_DocLen.j3, bind_self, hn, Option.bind_some, Int.reduceEq, Int.reduceBEq, if_true, if_false, Bool.false_eq_true]
  exact hK
theorem rx_none (l : List Int) (hl : l.length ≤ 6000) (hw : ∀ x, x ∈ l → (Lit.int .u8 x).wf = true) (n : Int) (ok : Bool) (hn : spec_DocNumber.f l = some (n, ok)) (h : ∀ x ∈ l, x ≠ 0) : Ev (fun q => bsoncore_valueLength.f q l 11) (0, false) ∧ ∃ w, Ev (fun q => spec_DocSpan.f q 11 l) (w, false) := by
  have i1 : bytes_IndexByte.f l 0 = some (-1) := congrArg some (index_none l hw h)
  have e0 : wrap64 ((0 : Int) + 0) = 0 := by rw [w64 (by omega) (by omega)]; omega
  refine ⟨at9 (fun q => ?_), 0, rx_lift l n ok hn 0 false (Ev.bind (name_none l hl hw h) ?_)⟩
  · simp [bsoncore_valueLength.f, bsoncore_valueLength.j0, bsoncore_valueLength.j1, bsoncore_valueLength.j2, bsoncore_valueLength.j3, bsoncore_valueLength.j4, i1]
  · refine Ev.congr (fun q => ?_) (Ev.bind (name_none l hl hw h) (f := fun _ bt738 => some (wrap64 ((0 : Int) + bt738.2.1), false)) (Ev.congr (fun q => by dsimp only; rw [e0]) (Ev.now _)))
    dsimp only
    rw [if_pos (by omega), if_pos (by omega), show ((0 : Int)).toNat = 0 from rfl, List.drop_zero]
    simp only [Bool.false_eq_true, if_false]
theorem vl_rx1 (l t : List Int) (I : Int) (P : Nat) (i1 : bytes_IndexByte.f l 0 = some I) (t1 : ¬ I < 0) (t2 : wrap64 (I + 1) = (P : Int)) (t3 : (P : Int) ≤ (l.length : Int)) (hd : l.drop P = t) (i2 : bytes_IndexByte.f t 0 = some (-1)) (q : Nat) : bsoncore_valueLength.f (q + 9) l 11 = some (0, false) := by
  simp only [bsoncore_valueLength.f, bsoncore_valueLength.j0, bsoncore_valueLength.j1, bsoncore_valueLength.j2, bsoncore_valueLength.j3, bsoncore_valueLength.j4, i1, t1, t2, t3, hd, i2, Option.bind_some, Int.reduceEq, Int.reduceBEq, if_true, if_false, Bool.false_eq_true, Int.toNat_natCast, Int.natCast_nonneg]
  rfl
theorem vl_rx2 (l t : List Int) (I J M : Int) (P : Nat) (i1 : bytes_IndexByte.f l 0 = some I) (t1 : ¬ I < 0) (t2 : wrap64 (I + 1) = (P : Int)) (t3 : (P : Int) ≤ (l.length : Int)) (hd : l.drop P = t) (i2 : bytes_IndexByte.f t 0 = some J) (t4 : ¬ J < 0) (t5 : wrap32 (wrap64 (wrap64 ((P : Int) + J) + 1)) = M) (t6 : ¬ M < 0) (q : Nat) : bsoncore_valueLength.f (q + 9) l 11 = some (M, true) := by
  simp only [bsoncore_valueLength.f, bsoncore_valueLength.j0, bsoncore_valueLength.j1, bsoncore_valueLength.j2, bsoncore_valueLength.j3, bsoncore_valueLength.j4, i1, t1, t2, t3, hd, i2, t4, t5, t6, Option.bind_some, Int.reduceEq, Int.reduceBEq, if_true, if_false, Bool.false_eq_true, Int.toNat_natCast, Int.natCast_nonneg]
theorem rx_one (l a t : List Int) (hl : l.length ≤ 6000) (hw : ∀ x, x ∈ l → (Lit.int .u8 x).wf = true) (n : Int) (ok : Bool) (hn : spec_DocNumber.f l = some (n, ok)) (he : l = a ++ 0 :: t) (h : ∀ x ∈ a, x ≠ 0) (h2 : ∀ x ∈ t, x ≠ 0) : Ev (fun q => bsoncore_valueLength.f q l 11) (0, false) ∧ ∃ w, Ev (fun q => spec_DocSpan.f q 11 l) (w, false) := by
  have hwa : ∀ x, x ∈ a → (Lit.int .u8 x).wf = true := fun x hx => hw x (by rw [he]; simp [hx])
  have hwt : ∀ x, x ∈ t → (Lit.int .u8 x).wf = true := fun x hx => hw x (by rw [he]; simp [hx])
  have hlen : l.length = a.length + 1 + t.length := by rw [he]; simp; omega
  have hd : l.drop (a.length + 1) = t := by rw [he]; simp
  have i1 : bytes_IndexByte.f l 0 = some (a.length : Int) := by rw [he]; exact congrArg some (index_at a t hwa h)
  have i2 : bytes_IndexByte.f t 0 = some (-1) := congrArg some (index_none t hwt h2)
  have t1 : ¬ ((a.length : Int) < 0) := by omega
  have t2 : wrap64 ((a.length : Int) + 1) = ((a.length + 1 : Nat) : Int) := by rw [w64 (by omega) (by omega)]; omega
  have t3 : ((a.length + 1 : Nat) : Int) ≤ (l.length : Int) := by omega
  have e0 : wrap64 (((a.length + 1 : Nat) : Int) + 0) = ((a.length + 1 : Nat) : Int) := by rw [w64 (by omega) (by omega)]; omega
  refine ⟨at9 (fun q => ?_), _, rx_lift l n ok hn ((a.length + 1 : Nat) : Int) false (Ev.bind (name_at l a t hl hw he h) ?_)⟩
  · exact vl_rx1 l t _ (a.length + 1) i1 t1 t2 t3 hd i2 q
  · refine Ev.congr (fun q => ?_) (Ev.bind (name_none t (by omega) hwt h2) (f := fun _ bt738 => some (wrap64 (((a.length + 1 : Nat) : Int) + bt738.2.1), bt738.2.2)) (Ev.congr (fun q => by dsimp only; rw [e0]) (Ev.now _)))
    dsimp only
    rw [if_pos (by omega), if_pos (by omega), Int.toNat_natCast, hd]
    simp only [if_true]
theorem rx_two (l a c t : List Int) (hl : l.length ≤ 6000) (hw : ∀ x, x ∈ l → (Lit.int .u8 x).wf = true) (n : Int) (ok : Bool) (hn : spec_DocNumber.f l = some (n, ok)) (he : l = a ++ 0 :: (c ++ 0 :: t)) (h : ∀ x ∈ a, x ≠ 0) (h2 : ∀ x ∈ c, x ≠ 0) : Ev (fun q => bsoncore_valueLength.f q l 11) (((a.length + 1 + (c.length + 1) : Nat) : Int), true) ∧ Ev (fun q => spec_DocSpan.f q 11 l) (((a.length + 1 + (c.length + 1) : Nat) : Int), true) := by
  have hwa : ∀ x, x ∈ a → (Lit.int .u8 x).wf = true := fun x hx => hw x (by rw [he]; simp [hx])
  have hwc : ∀ x, x ∈ c → (Lit.int .u8 x).wf = true := fun x hx => hw x (by rw [he]; simp [hx])
  have hwt : ∀ x, x ∈ c ++ 0 :: t → (Lit.int .u8 x).wf = true := fun x hx => hw x (by rw [he]; exact List.mem_append_right _ (List.mem_cons_of_mem _ hx))
  have hlen : l.length = a.length + 1 + (c.length + 1) + t.length := by rw [he]; simp; omega
  have hd : l.drop (a.length + 1) = c ++ 0 :: t := by rw [he]; simp
  have i1 : bytes_IndexByte.f l 0 = some (a.length : Int) := by rw [he]; exact congrArg some (index_at a _ hwa h)
  have i2 : bytes_IndexByte.f (c ++ 0 :: t) 0 = some (c.length : Int) := congrArg some (index_at c t hwc h2)
  have t1 : ¬ ((a.length : Int) < 0) := by omega
  have t2 : wrap64 ((a.length : Int) + 1) = ((a.length + 1 : Nat) : Int) := by rw [w64 (by omega) (by omega)]; omega
  have t3 : ((a.length + 1 : Nat) : Int) ≤ (l.length : Int) := by omega
  have t4 : ¬ ((c.length : Int) < 0) := by omega
  have t5 : wrap32 (wrap64 (wrap64 (((a.length + 1 : Nat) : Int) + (c.length : Int)) + 1)) = ((a.length + 1 + (c.length + 1) : Nat) : Int) := by rw [w64 (x := ((a.length + 1 : Nat) : Int) + (c.length : Int)) (by omega) (by omega), w64 (by omega) (by omega), w32 (by omega) (by omega)]; omega
  have t6 : ¬ (((a.length + 1 + (c.length + 1) : Nat) : Int) < 0) := by omega
  have e6 : wrap64 (((a.length + 1 : Nat) : Int) + ((c.length + 1 : Nat) : Int)) = ((a.length + 1 + (c.length + 1) : Nat) : Int) := by rw [w64 (by omega) (by omega)]; omega
  refine ⟨at9 (fun q => ?_), rx_lift l n ok hn _ true (Ev.bind (name_at l a _ hl hw he h) ?_)⟩
  · exact vl_rx2 l (c ++ 0 :: t) _ _ _ (a.length + 1) i1 t1 t2 t3 hd i2 t4 t5 t6 q
  · refine Ev.congr (fun q => ?_) (Ev.bind (name_at (c ++ 0 :: t) c t (by rw [← hd, List.length_drop]; omega) hwt rfl h2) (f := fun _ bt738 => some (wrap64 (((a.length + 1 : Nat) : Int) + bt738.2.1), bt738.2.2)) (Ev.congr (fun q => by dsimp only; rw [e6]) (Ev.now _)))
    dsimp only
    rw [if_pos (by omega), if_pos (by omega), Int.toNat_natCast, hd]
    simp only [if_true]
theorem split00 (l : List Int) : (∀ x ∈ l, x ≠ 0) ∨ (∃ a t, l = a ++ 0 :: t ∧ (∀ x ∈ a, x ≠ 0) ∧ ∀ x ∈ t, x ≠ 0) ∨ ∃ a c t, l = a ++ 0 :: (c ++ 0 :: t) ∧ (∀ x ∈ a, x ≠ 0) ∧ ∀ x ∈ c, x ≠ 0 := by
  rcases split0 l with h | ⟨a, t, he, h⟩
  · exact Or.inl h
  · rcases split0 t with h2 | ⟨c, t', rfl, h2⟩
    · exact Or.inr (Or.inl ⟨a, t, he, h, h2⟩)
    · exact Or.inr (Or.inr ⟨a, c, t', he, h, h2⟩)
/-- How long a value is, by both. -/
theorem span_val (k : Int) (l : List Int) (hl : l.length ≤ 6000) (hw : ∀ x, x ∈ l → (Lit.int .u8 x).wf = true) : ∃ (m : Int) (b : Bool) (w : Int) (s : Bool), Ev (fun q => bsoncore_valueLength.f q l k) (m, b) ∧ Ev (fun q => spec_DocSpan.f q k l) (w, s) ∧ (b = true → 0 ≤ m ∧ m ≤ 2147483647) ∧ s = (b && decide (m ≤ (l.length : Int))) ∧ (s = true → w = m) := by
  obtain ⟨n, ok, x, n0, n1, hok, hRL, hDN⟩ := first4 l hw
  rcases kinds k with ⟨c, hc0, hc1, hk⟩ | ⟨c, hc⟩ | rfl | hno
  · obtain ⟨e1, e2⟩ := hk l x n ok hl n0 n1 hRL hDN
    refine ⟨_, _, _, _, e1, e2, fun h => ?_, ?_, fun h => ?_⟩
    · simp only [Bool.and_eq_true, decide_eq_true_eq] at h
      refine ⟨h.2, ?_⟩
      unfold wrap32; omega
    · by_cases hB : (ok && decide (0 ≤ n)) = true
      · have hn : 0 ≤ n := by simp only [Bool.and_eq_true, decide_eq_true_eq] at hB; exact hB.2
        rw [hB, Bool.true_and, Bool.true_and]
        by_cases hb : n + c ≤ 2147483647
        · rw [w32 (by omega) hb, decide_eq_true (show 0 ≤ n + c by omega), Bool.true_and]
          exact decide_eq_decide.mpr (by omega)
        · rw [decide_eq_false (show ¬ (c + n ≤ (l.length : Int)) by omega), decide_eq_false (show ¬ (0 ≤ wrap32 (n + c)) by unfold wrap32; omega)]
          rfl
      · have hB := Bool.eq_false_iff.mpr hB
        rw [hB]; rfl
    · simp only [Bool.and_eq_true, decide_eq_true_eq] at h
      have := h.2
      rw [w32 (by omega) (by omega), Int.add_comm]
  · have hb := fixed_bound hc
    exact ⟨c, true, c, _, at9 (fun q => vl_fixed l hc q), at9 (fun q => fixed_span l hl n ok hDN hc q), fun _ => by omega, rfl, fun _ => rfl⟩
  · rcases split00 l with h | ⟨a, t, he, h, h2⟩ | ⟨a, c, t, he, h, h2⟩
    · obtain ⟨e1, w, e2⟩ := rx_none l hl hw n ok hDN h
      exact ⟨0, false, w, false, e1, e2, fun h => (by cases h), rfl, fun h => by cases h⟩
    · obtain ⟨e1, w, e2⟩ := rx_one l a t hl hw n ok hDN he h h2
      exact ⟨0, false, w, false, e1, e2, fun h => (by cases h), rfl, fun h => by cases h⟩
    · obtain ⟨e1, e2⟩ := rx_two l a c t hl hw n ok hDN he h h2
      have hlen : l.length = a.length + 1 + (c.length + 1) + t.length := by rw [he]; simp; omega
      exact ⟨_, true, _, true, e1, e2, fun _ => by omega, by rw [decide_eq_true (by omega)]; rfl, fun _ => rfl⟩
  · exact ⟨0, false, 0, false, at9 (fun q => vl_none l hno q), at9 (fun q => none_span l n ok hDN hno q), fun h => (by cases h), rfl, fun h => by cases h⟩
/-- The same of the value's bytes alone. -/
theorem span_pre (k : Int) (l : List Int) (hl : l.length ≤ 6000) (hw : ∀ x, x ∈ l → (Lit.int .u8 x).wf = true) (m : Nat) (hm : m ≤ l.length) (h : Ev (fun q => bsoncore_valueLength.f q l k) ((m : Int), true)) (m' : Int) (h' : Ev (fun q => bsoncore_valueLength.f q (l.take m) k) (m', true)) : m' = (m : Int) := by
  have hwt : ∀ x, x ∈ l.take m → (Lit.int .u8 x).wf = true := fun x hx => hw x (List.mem_of_mem_take hx)
  have hlt : (l.take m).length = m := by rw [List.length_take]; omega
  obtain ⟨n, ok, x, n0, n1, hok, hRL, hDN⟩ := first4 l hw
  obtain ⟨n2, ok2, x2, n02, n12, hok2, hRL2, hDN2⟩ := first4 (l.take m) hwt
  rcases kinds k with ⟨c, hc0, hc1, hk⟩ | ⟨c, hc⟩ | rfl | hno
  · obtain ⟨e1, -⟩ := hk l x n ok hl n0 n1 hRL hDN
    obtain ⟨e2, -⟩ := hk (l.take m) x2 n2 ok2 (by omega) n02 n12 hRL2 hDN2
    obtain ⟨q1, q2⟩ := Prod.mk.inj (ev_uniq h e1)
    obtain ⟨q3, q4⟩ := Prod.mk.inj (ev_uniq h' e2)
    have b2 := num_ok hDN2
    rw [hlt] at b2
    by_cases h4 : 4 ≤ m
    · rw [num_take l m h4 hm, hDN] at hDN2
      obtain ⟨rfl, -⟩ := Prod.mk.inj (Option.some.inj hDN2)
      rw [q3, q1]
    · rw [decide_eq_false h4] at b2
      rw [b2] at q4
      cases q4
  · have q1 := Prod.mk.inj (ev_uniq h (at9 (fun q => vl_fixed l hc q)))
    have q2 := Prod.mk.inj (ev_uniq h' (at9 (fun q => vl_fixed (l.take m) hc q)))
    rw [q2.1, q1.1]
  · rcases split00 l with g | ⟨a, t, he, g, g2⟩ | ⟨a, c, t, he, g, g2⟩
    · have := Prod.mk.inj (ev_uniq h (rx_none l hl hw n ok hDN g).1)
      cases this.2
    · have := Prod.mk.inj (ev_uniq h (rx_one l a t hl hw n ok hDN he g g2).1)
      cases this.2
    · have q1 := (Prod.mk.inj (ev_uniq h (rx_two l a c t hl hw n ok hDN he g g2).1)).1
      have em : m = a.length + 1 + (c.length + 1) := by omega
      have et : l.take m = a ++ 0 :: (c ++ 0 :: []) := by
        rw [he, em, show a ++ 0 :: (c ++ 0 :: t) = (a ++ 0 :: (c ++ 0 :: [])) ++ t by simp, List.take_left' (by simp; omega)]
      have q2 := (Prod.mk.inj (ev_uniq h' (rx_two (l.take m) a c [] (by omega) hwt n2 ok2 hDN2 et g g2).1)).1
      rw [q2, em]
  · have := Prod.mk.inj (ev_uniq h (at9 (fun q => vl_none l hno q)))
    cases this.2

end Go.Proofs.YtbfhpjkahobgnaaGreatDoor.PIx.VT
