/- The law FnDocAnyLength in plain words: how long a value says that it is, by its kind. Conditions: as each theorem states them. -/
import Derived.Test.YtanecebppagakaaGreatDoorProg
import Derived.Test.YtanecebppagakaaGreatDoorHW
import Derived.Below
import Derived.Deep.Draws
import Derived.OwnWalk
import Derived.Tactics
import Derived.WalkKit
import Derived.KernelRfl
import Derived.RowKit3
import Derived.Deep.LoopGhost
import Derived.Deep.QuietTactic
import Derived.BigQuiet
import Derived.WideLaws
import Derived.Deep.DeepCutAuto
import Derived.Deep.CutBlock
import Derived.Laws.Rows
import Derived.Outline
import Derived.StillTailTactics
import Derived.Deep.RegionHeld3
import Derived.Test.YtanecebppagakaaGreatDoorPL
import Derived.Test.YtanecebppagakaaGreatDoorPAlx9
namespace Go.Proofs.YtanecebppagakaaGreatDoor.PAl.VT
open Go.RowKit Go.Proofs.YtanecebppagakaaGreatDoorW.PrintWords Go.Proofs.YtanecebppagakaaGreatDoorW.PrintLast Go.Proofs.YtanecebppagakaaGreatDoorW.PrintMore
set_option linter.unusedVariables false
set_option linter.unusedSimpArgs false
theorem wrap_same (k : IntKind) {a b : Int} (h : a % 2 ^ k.bits = b % 2 ^ k.bits) : k.wrap a = k.wrap b := by
  unfold IntKind.wrap
  rw [h]
theorem or_high (k : IntKind) (i : Nat) (hi : i ≤ k.bits) (x y : Int) (h0 : 0 ≤ x) (h1 : x < 2 ^ i) (hy : y % 2 ^ i = 0) : bits .or k x y = k.wrap (x + y) := by
  have hp : (2 : Int) ^ k.bits = 2 ^ i * 2 ^ (k.bits - i) := by rw [← Int.pow_add]; congr 1; omega
  have hpos : (0 : Int) < 2 ^ k.bits := Int.pow_pos (by decide)
  obtain ⟨a, rfl⟩ := Int.eq_ofNat_of_zero_le h0
  have ha : a < 2 ^ i := by exact_mod_cast h1
  have hab : a < 2 ^ k.bits := Nat.lt_of_lt_of_le ha (Nat.pow_le_pow_right (by decide) hi)
  obtain ⟨b, hb⟩ := Int.eq_ofNat_of_zero_le (Int.emod_nonneg y (Int.ne_of_gt hpos))
  have hbm : (b : Int) % 2 ^ i = 0 := by
    rw [← hb, hp, Int.emod_emod_of_dvd _ (Int.dvd_mul_right _ _)]; exact hy
  have hbn : b % 2 ^ i = 0 := by exact_mod_cast hbm
  have hblt : b < 2 ^ k.bits := by
    have := Int.emod_lt_of_pos y hpos
    rw [hb] at this
    exact_mod_cast this
  have e1 : (BitVec.ofInt k.bits y).toNat = b := by
    rw [BitVec.toNat_ofInt]
    have : (y % ((2 ^ k.bits : Nat) : Int)) = b := by rw [← hb]; simp
    rw [this]
    rfl
  have e2 : (BitVec.ofInt k.bits (a : Int)).toNat = a := by
    rw [BitVec.ofInt_natCast, BitVec.toNat_ofNat]
    exact Nat.mod_eq_of_lt hab
  unfold bits
  simp only [BitVec.toNat_or, e1, e2]
  have hq : b = 2 ^ i * (b / 2 ^ i) := by
    have := Nat.div_add_mod b (2 ^ i)
    omega
  have e3 : a ||| b = a + b := by
    rw [Nat.or_comm, hq, ← Nat.two_pow_add_eq_or_of_lt ha (b / 2 ^ i)]
    omega
  rw [e3]
  apply wrap_same
  rw [Int.natCast_add, ← hb, Int.add_emod, Int.emod_emod_of_dvd _ (Int.dvd_refl _), ← Int.add_emod]
theorem wrap_i32' (n : Int) : IntKind.i32.wrap n = wrap32 n := by rw [IntKind.wrap_i32]; unfold wrap32; rfl
theorem wrap_i64' (n : Int) : IntKind.i64.wrap n = wrap64 n := by rw [IntKind.wrap_i64]; unfold wrap64; rfl
theorem readI32x (n : Int) (h0 : -2147483648 ≤ n) (h1 : n < 2147483648) (x : List Int) : binaryutil_ReadI32.f (n % 256 :: n / 256 % 256 :: n / 65536 % 256 :: n / 16777216 % 256 :: x) = some (n, x, true) := by
  have w0 : wrap32 (rd (n % 256 :: n / 256 % 256 :: n / 65536 % 256 :: n / 16777216 % 256 :: x) 0) = n % 256 := by show wrap32 (n % 256) = _; unfold wrap32; omega
  have w1 : wrap32 (wrap32 (rd (n % 256 :: n / 256 % 256 :: n / 65536 % 256 :: n / 16777216 % 256 :: x) 1) * 256) = n / 256 % 256 * 256 := by show wrap32 (wrap32 (n / 256 % 256) * 256) = _; unfold wrap32; omega
  have w2 : wrap32 (wrap32 (rd (n % 256 :: n / 256 % 256 :: n / 65536 % 256 :: n / 16777216 % 256 :: x) 2) * 65536) = n / 65536 % 256 * 65536 := by show wrap32 (wrap32 (n / 65536 % 256) * 65536) = _; unfold wrap32; omega
  have w3 : wrap32 (wrap32 (rd (n % 256 :: n / 256 % 256 :: n / 65536 % 256 :: n / 16777216 % 256 :: x) 3) * 16777216) = wrap32 (n / 16777216 % 256 * 16777216) := by show wrap32 (wrap32 (n / 16777216 % 256) * 16777216) = _; unfold wrap32; omega
  have hl : (n % 256 :: n / 256 % 256 :: n / 65536 % 256 :: n / 16777216 % 256 :: x).length = x.length + 4 := rfl
  unfold binaryutil_ReadI32.f
  rw [w0, w1, w2, w3, hl, if_neg (by omega), if_pos (by omega), if_pos (by omega), if_pos (by omega), if_pos (by omega), if_pos (by omega)]
  rw [or_high .i32 8 (by decide) (n % 256) _ (by omega) (by omega) (by omega)]
  rw [wrap_i32', show wrap32 (n % 256 + n / 256 % 256 * 256) = n % 65536 by unfold wrap32; omega]
  rw [or_high .i32 16 (by decide) (n % 65536) _ (by omega) (by omega) (by omega)]
  rw [wrap_i32', show wrap32 (n % 65536 + n / 65536 % 256 * 65536) = n % 16777216 by unfold wrap32; omega]
  rw [or_high .i32 24 (by decide) (n % 16777216) _ (by omega) (by omega) (by unfold wrap32; omega)]
  rw [wrap_i32', show wrap32 (n % 16777216 + wrap32 (n / 16777216 % 256 * 16777216)) = n by unfold wrap32; omega]
  rfl
theorem w32 {x : Int} (h0 : -2147483648 ≤ x) (h1 : x ≤ 2147483647) : wrap32 x = x := by unfold wrap32; omega
theorem w64 {x : Int} (h0 : -9223372036854775808 ≤ x) (h1 : x ≤ 9223372036854775807) : wrap64 x = x := by unfold wrap64; omega
theorem rd_mid (pre r : List Int) (x : Int) : rd (pre ++ x :: r) (pre.length : Int) = x := by
  unfold rd
  rw [Int.toNat_natCast]
  simp
theorem byte_zero {x : Int} (h : (Lit.int .u8 x).wf = true) : ((UInt8.ofNat x.toNat) == (0 : UInt8)) = decide (x = 0) := by
  obtain ⟨h0, h1⟩ := PL.wf_u8 h
  by_cases hx : x = 0
  · subst hx; rfl
  · rw [decide_eq_false hx]
    apply beq_false_of_ne
    intro hc
    have := congrArg UInt8.toNat hc
    simp at this
    omega
/-- A text up to the first byte 0: what the search finds. -/
theorem name_ev (l : List Int) (hl : l.length ≤ 6000) (hw : ∀ x, x ∈ l → (Lit.int .u8 x).wf = true) : ∀ (r pre : List Int), l = pre ++ r → (Lib.indexByte (Lib.bytesOf r) 0 = -1 ∧ Ev (fun k => spec_DocName.l0 k l (pre.length : Int)) ((⟨#[]⟩ : ByteArray), 0, false)) ∨ ∃ i : Nat, i < r.length ∧ Lib.indexByte (Lib.bytesOf r) 0 = (i : Int) ∧ Ev (fun k => spec_DocName.l0 k l (pre.length : Int)) (strOfNums (l.take (pre.length + i)), ((pre.length + i + 1 : Nat) : Int), true) := by
  intro r
  induction r with
  | nil => intro pre he; exact Or.inl ⟨rfl, Ev.step (fun k => by rw [spec_DocName.l0, if_neg (by rw [he]; simp)]) (Ev.now _)⟩
  | cons x r ih =>
    intro pre he
    have hlen : l.length = pre.length + (r.length + 1) := by rw [he]; simp
    have hx : rd l (pre.length : Int) = x := by rw [he]; exact rd_mid pre r x
    have hz := byte_zero (hw x (by rw [he]; simp))
    have e1 : wrap64 ((pre.length : Int) + 1) = ((pre.length + 1 : Nat) : Int) := by rw [w64 (by omega) (by omega)]; omega
    have hb : Lib.bytesOf (x :: r) = UInt8.ofNat x.toNat :: Lib.bytesOf r := rfl
    by_cases h0 : x = 0
    · refine Or.inr ⟨0, by simp, by rw [hb, Lib.indexByte, hz, decide_eq_true h0]; rfl, ?_⟩
      refine Ev.step (fun k => by rw [spec_DocName.l0, if_pos (by omega), if_pos (by omega), hx, if_pos h0, if_pos (by omega), e1, Int.toNat_natCast]) ?_
      rw [Nat.add_zero]
      exact Ev.now _
    · have hg : ∀ k, spec_DocName.l0 (k + 1) l (pre.length : Int) = spec_DocName.l0 k l (((pre ++ [x]).length : Nat) : Int) := fun k => by rw [spec_DocName.l0, if_pos (by omega), if_pos (by omega), hx, if_neg h0, e1]; simp
      rcases ih (pre ++ [x]) (by rw [he]; simp) with ⟨h1, ev⟩ | ⟨i, hi, h1, ev⟩
      · exact Or.inl ⟨by rw [hb, Lib.indexByte, hz, decide_eq_false h0, h1]; rfl, Ev.step hg ev⟩
      · refine Or.inr ⟨i + 1, by simp only [List.length_cons]; omega, ?_, ?_⟩
        · rw [hb, Lib.indexByte, hz, decide_eq_false h0, h1, if_neg (by decide), if_neg (by rw [beq_iff_eq]; omega)]
          omega
        · have e2 : (pre ++ [x]).length + i = pre.length + (i + 1) := by simp only [List.length_append, List.length_cons, List.length_nil]; omega
          rw [e2] at ev
          exact Ev.step hg ev
theorem copy_ok (l : List Int) (hl : l.length ≤ 6000) : laws_docCopy.f l = some l := by
  unfold laws_docCopy.f
  rw [Option.bind_some, if_pos (by simp only [List.length_nil]; omega), List.nil_append]
theorem awake : Ev (fun k => laws_docAwake.f k) true := Ev.of (fun k => laws_docAwake.mono k) (k := 60) (by decide +kernel)
theorem u32_wrap (n : Int) : IntKind.u32.wrap n = n % 4294967296 := by simp [IntKind.wrap, IntKind.bits, IntKind.signed]
/-- The number in four bytes, as both read it. -/
theorem docnum (n : Int) (h0 : -2147483648 ≤ n) (h1 : n < 2147483648) (x : List Int) : spec_DocNumber.f (n % 256 :: n / 256 % 256 :: n / 65536 % 256 :: n / 16777216 % 256 :: x) = some (n, true) := by
  have w0 : (rd (n % 256 :: n / 256 % 256 :: n / 65536 % 256 :: n / 16777216 % 256 :: x) 0) % 4294967296 = n % 256 := by show (n % 256) % 4294967296 = _; omega
  have w1 : (((rd (n % 256 :: n / 256 % 256 :: n / 65536 % 256 :: n / 16777216 % 256 :: x) 1) % 4294967296) * 256) % 4294967296 = n / 256 % 256 * 256 := by show (((n / 256 % 256) % 4294967296) * 256) % 4294967296 = _; omega
  have w2 : (((rd (n % 256 :: n / 256 % 256 :: n / 65536 % 256 :: n / 16777216 % 256 :: x) 2) % 4294967296) * 65536) % 4294967296 = n / 65536 % 256 * 65536 := by show (((n / 65536 % 256) % 4294967296) * 65536) % 4294967296 = _; omega
  have w3 : (((rd (n % 256 :: n / 256 % 256 :: n / 65536 % 256 :: n / 16777216 % 256 :: x) 3) % 4294967296) * 16777216) % 4294967296 = n / 16777216 % 256 * 16777216 := by show (((n / 16777216 % 256) % 4294967296) * 16777216) % 4294967296 = _; omega
  have hl : (n % 256 :: n / 256 % 256 :: n / 65536 % 256 :: n / 16777216 % 256 :: x).length = x.length + 4 := rfl
  unfold spec_DocNumber.f
  rw [w0, w1, w2, w3, hl, if_neg (by omega), if_pos (by omega), if_pos (by omega), if_pos (by omega), if_pos (by omega)]
  rw [or_high .u32 8 (by decide) (n % 256) _ (by omega) (by omega) (by omega)]
  rw [u32_wrap, show (n % 256 + n / 256 % 256 * 256) % 4294967296 = n % 65536 by omega]
  rw [or_high .u32 16 (by decide) (n % 65536) _ (by omega) (by omega) (by omega)]
  rw [u32_wrap, show (n % 65536 + n / 65536 % 256 * 65536) % 4294967296 = n % 16777216 by omega]
  rw [or_high .u32 24 (by decide) (n % 16777216) _ (by omega) (by omega) (by omega)]
  rw [u32_wrap, show wrap64 (wrap32 ((n % 16777216 + n / 16777216 % 256 * 16777216) % 4294967296)) = n by unfold wrap64 wrap32; omega]
theorem four (l : List Int) (hw : ∀ x, x ∈ l → (Lit.int .u8 x).wf = true) (h4 : 4 ≤ l.length) : ∃ (n : Int) (x : List Int), -2147483648 ≤ n ∧ n < 2147483648 ∧ binaryutil_ReadI32.f l = some (n, x, true) ∧ spec_DocNumber.f l = some (n, true) := by
  match l, h4 with
  | a :: b :: c :: d :: x, _ =>
    have ha := PL.wf_u8 (hw a (by simp))
    have hb := PL.wf_u8 (hw b (by simp))
    have hc := PL.wf_u8 (hw c (by simp))
    have hd := PL.wf_u8 (hw d (by simp))
    obtain ⟨n, hn⟩ : ∃ n, n = wrap32 (a + b * 256 + c * 65536 + d * 16777216) := ⟨_, rfl⟩
    unfold wrap32 at hn
    have e0 : a = n % 256 := by omega
    have e1 : b = n / 256 % 256 := by omega
    have e2 : c = n / 65536 % 256 := by omega
    have e3 : d = n / 16777216 % 256 := by omega
    rw [e0, e1, e2, e3]
    exact ⟨n, x, by omega, by omega, readI32x n (by omega) (by omega) x, docnum n (by omega) (by omega) x⟩
/-- What stands in the first four bytes, if they are there. -/
theorem first4 (l : List Int) (hw : ∀ x, x ∈ l → (Lit.int .u8 x).wf = true) : ∃ (n : Int) (ok : Bool) (x : List Int), -2147483648 ≤ n ∧ n < 2147483648 ∧ (ok = false → n = 0) ∧ bsoncore_ReadLength.f l = some (n, x, ok && decide (0 ≤ n)) ∧ spec_DocNumber.f l = some (n, ok) := by
  by_cases h4 : 4 ≤ l.length
  · obtain ⟨n, x, h0, h1, hr, hd⟩ := four l hw h4
    refine ⟨n, true, x, h0, h1, (fun h => by cases h), ?_, hd⟩
    unfold bsoncore_ReadLength.f
    rw [hr, Option.bind_some]
    by_cases hn : n < 0
    · rw [if_pos hn, decide_eq_false (by omega)]; rfl
    · rw [if_neg hn, decide_eq_true (by omega)]; rfl
  · refine ⟨0, false, l, by omega, by omega, fun _ => rfl, ?_, ?_⟩
    · unfold bsoncore_ReadLength.f binaryutil_ReadI32.f
      rw [if_pos (by omega)]; rfl
    · unfold spec_DocNumber.f
      rw [if_pos (by omega)]
theorem key_ev (l : List Int) (hl : l.length ≤ 6000) (hw : ∀ x, x ∈ l → (Lit.int .u8 x).wf = true) : ∃ (nm : ByteArray) (n : Nat) (has : Bool), n ≤ l.length ∧ (has = false → n = 0) ∧ (has = true → 1 ≤ n) ∧ bytes_IndexByte.f l 0 = some ((n : Int) - 1) ∧ Ev (fun k => spec_DocName.f k l) (nm, (n : Int), has) := by
  rcases name_ev l hl hw l [] rfl with ⟨h1, ev⟩ | ⟨i, hi, h1, ev⟩
  · exact ⟨⟨#[]⟩, 0, false, by omega, fun _ => rfl, (fun h => by cases h), congrArg some h1, ev⟩
  · refine ⟨strOfNums (l.take i), i + 1, true, by omega, (fun h => by cases h), (fun _ => by omega), ?_, ?_⟩
    · have : bytes_IndexByte.f l 0 = some (i : Int) := congrArg some h1
      rw [this]; congr 1; omega
    · rw [List.length_nil, Nat.zero_add] at ev
      exact ev

theorem j4_ev (q : Nat) (m : Int) (b : Bool) (hb : b = true → 0 ≤ m) : bsoncore_valueLength.j4 (q + 1) m b = some (m, b) := by
  rw [bsoncore_valueLength.j4]
  by_cases hm : m < 0
  · have : b = false := by cases b with | false => rfl | true => exact absurd (hb rfl) (by omega)
    rw [if_pos hm, this]
  · rw [if_neg hm]
theorem vl_num (l x : List Int) (n : Int) (b : Bool) (hRL : bsoncore_ReadLength.f l = some (n, x, b)) (hb : b = true → 0 ≤ n) (h0 : -2147483648 ≤ n) (h1 : n ≤ 2147483548) (q : Nat) :
    (∀ k, k = 3 ∨ k = 4 ∨ k = 15 → bsoncore_valueLength.f (q + 9) l k = some (n, b)) ∧ (∀ k, k = 2 ∨ k = 13 ∨ k = 14 → bsoncore_valueLength.f (q + 9) l k = some (wrap32 (n + 4), b)) ∧ bsoncore_valueLength.f (q + 9) l 5 = some (wrap32 (n + 5), b) ∧ bsoncore_valueLength.f (q + 9) l 12 = some (wrap32 (n + 16), b) := by
  have w : ∀ c : Int, 0 ≤ c → c ≤ 16 → b = true → 0 ≤ wrap32 (n + c) := fun c h2 h3 h => by have := hb h; rw [w32 (by omega) (by omega)]; omega
  refine ⟨fun k hk => ?_, fun k hk => ?_, ?_, ?_⟩
  · rcases hk with rfl | rfl | rfl <;> simp [bsoncore_valueLength.f, bsoncore_valueLength.j0, hRL, j4_ev _ n b hb]
  · rcases hk with rfl | rfl | rfl <;> simp [bsoncore_valueLength.f, bsoncore_valueLength.j0, bsoncore_valueLength.j1, bsoncore_valueLength.j2, hRL, j4_ev _ _ b (w 4 (by omega) (by omega))]
  · simp [bsoncore_valueLength.f, bsoncore_valueLength.j0, hRL, j4_ev _ _ b (w 5 (by omega) (by omega))]
  · simp [bsoncore_valueLength.f, bsoncore_valueLength.j0, hRL, j4_ev _ _ b (w 16 (by omega) (by omega))]
/-- The length of a kind of fixed length. -/
def fixedLen (k : Int) : Option Int := if k = 6 ∨ k = 10 ∨ k = 127 ∨ k = 255 then some 0 else if k = 8 then some 1 else if k = 16 then some 4 else if k = 1 ∨ k = 9 ∨ k = 17 ∨ k = 18 then some 8 else if k = 7 then some 12 else if k = 19 then some 16 else none
theorem fixed_cases {k c : Int} (h : fixedLen k = some c) : ((k = 6 ∨ k = 10 ∨ k = 127 ∨ k = 255) ∧ c = 0) ∨ (k = 8 ∧ c = 1) ∨ (k = 16 ∧ c = 4) ∨ ((k = 1 ∨ k = 9 ∨ k = 17 ∨ k = 18) ∧ c = 8) ∨ (k = 7 ∧ c = 12) ∨ (k = 19 ∧ c = 16) := by
  unfold fixedLen at h
  (repeat' split at h) <;> simp at h <;> subst h <;> simp [*]
theorem vl_fixed (l : List Int) {k c : Int} (h : fixedLen k = some c) (q : Nat) : bsoncore_valueLength.f (q + 9) l k = some (c, true) := by
  rcases fixed_cases h with ⟨g | g | g | g, rfl⟩ | ⟨g, rfl⟩ | ⟨g, rfl⟩ | ⟨g | g | g | g, rfl⟩ | ⟨g, rfl⟩ | ⟨g, rfl⟩ <;> clear h <;> subst g <;> simp [bsoncore_valueLength.f, bsoncore_valueLength.j0, bsoncore_valueLength.j1, bsoncore_valueLength.j2, bsoncore_valueLength.j3, bsoncore_valueLength.j4]
theorem span_fixed (L : List Int) (hL : 20 ≤ L.length) (nL : Int) (hn : spec_DocNumber.f L = some (nL, true)) {k c : Int} (h : fixedLen k = some c) (q : Nat) : spec_DocSpan.f (q + 9) k L = some (c, true) := by
  have e1 : (1 : Int) ≤ (L.length : Int) := by omega
  have e8 : (8 : Int) ≤ (L.length : Int) := by omega
  have e12 : (12 : Int) ≤ (L.length : Int) := by omega
  have e16 : (16 : Int) ≤ (L.length : Int) := by omega
  rcases fixed_cases h with ⟨g | g | g | g, rfl⟩ | ⟨g, rfl⟩ | ⟨g, rfl⟩ | ⟨g | g | g | g, rfl⟩ | ⟨g, rfl⟩ | ⟨g, rfl⟩ <;> clear h <;> subst g <;> simp [spec_DocSpan.f, spec_DocSpan.j0, spec_DocSpan.j1, spec_DocLen.f, spec_DocLen.j0, spec_DocLen.j1, hn, e1, e8, e12, e16] <;> omega
theorem span_some (L : List Int) (nL : Int) (hn : spec_DocNumber.f L = some (nL, true)) (k : Int) (h : k = 2 ∨ k = 13 ∨ k = 14 ∨ k = 3 ∨ k = 4 ∨ k = 15 ∨ k = 12 ∨ k = 5) : ∃ p, ∀ q, spec_DocSpan.f (q + 9) k L = some p := by
  by_cases h6 : nL ≥ 0
  · rcases h with rfl | rfl | rfl | rfl | rfl | rfl | rfl | rfl <;> exact ⟨_, fun q => by simp only [spec_DocSpan.f, spec_DocSpan.j0, spec_DocSpan.j1, spec_DocLen.f, spec_DocLen.j0, spec_DocLen.j1, spec_DocLen.j2, spec_DocLen.j3, hn, h6, Option.bind_some, Int.reduceEq, Int.reduceBEq, if_true, if_false, Bool.false_eq_true]; rfl⟩
  · rcases h with rfl | rfl | rfl | rfl | rfl | rfl | rfl | rfl <;> exact ⟨_, fun q => by simp only [spec_DocSpan.f, spec_DocSpan.j0, spec_DocSpan.j1, spec_DocLen.f, spec_DocLen.j0, spec_DocLen.j1, spec_DocLen.j2, spec_DocLen.j3, hn, h6, Option.bind_some, Int.reduceEq, Int.reduceBEq, if_true, if_false, Bool.false_eq_true]; rfl⟩
/-- A kind that is none. -/
structure NoKind (k : Int) : Prop where
  h1 : k ≠ 1
  h2 : k ≠ 2
  h3 : k ≠ 3
  h4 : k ≠ 4
  h5 : k ≠ 5
  h6 : k ≠ 6
  h7 : k ≠ 7
  h8 : k ≠ 8
  h9 : k ≠ 9
  h10 : k ≠ 10
  h11 : k ≠ 11
  h12 : k ≠ 12
  h13 : k ≠ 13
  h14 : k ≠ 14
  h15 : k ≠ 15
  h16 : k ≠ 16
  h17 : k ≠ 17
  h18 : k ≠ 18
  h19 : k ≠ 19
  h127 : k ≠ 127
  h255 : k ≠ 255
theorem vl_none (l : List Int) {k : Int} (h : NoKind k) (q : Nat) : bsoncore_valueLength.f (q + 9) l k = some (0, false) := by
  obtain ⟨h1, h2, h3, h4, h5, h6, h7, h8, h9, h10, h11, h12, h13, h14, h15, h16, h17, h18, h19, h127, h255⟩ := h
  simp [bsoncore_valueLength.f, bsoncore_valueLength.j0, bsoncore_valueLength.j1, bsoncore_valueLength.j2, bsoncore_valueLength.j3, bsoncore_valueLength.j4, *]
theorem span_none (L : List Int) (nL : Int) (hn : spec_DocNumber.f L = some (nL, true)) {k : Int} (h : NoKind k) (q : Nat) : spec_DocSpan.f (q + 9) k L = some (0, false) := by
  obtain ⟨h1, h2, h3, h4, h5, h6, h7, h8, h9, h10, h11, h12, h13, h14, h15, h16, h17, h18, h19, h127, h255⟩ := h
  simp [spec_DocSpan.f, spec_DocSpan.j0, spec_DocSpan.j1, spec_DocLen.f, spec_DocLen.j0, spec_DocLen.j1, spec_DocLen.j2, spec_DocLen.j3, *]
theorem j0_else (k : Nat) (x0 : Int) (x1 : List Int) (x5 : Int) (x6 : Bool) (x7 : Int) (x8 : Bool) (kd : Int) (h : fixedLen kd ≠ none ∨ NoKind kd) : laws_FnDocAnyLength.j0 (k + 9) x0 x1 x5 x6 x7 x8 kd false = laws_FnDocAnyLength.j2 (k + 7) x0 x1 x7 x8 := by
  have hh : kd ≠ 5 ∧ kd ≠ 12 ∧ kd ≠ 3 ∧ kd ≠ 4 ∧ kd ≠ 15 ∧ kd ≠ 11 := by
    rcases h with h | h
    · unfold fixedLen at h
      refine ⟨?_, ?_, ?_, ?_, ?_, ?_⟩ <;> (rintro rfl; simp at h)
    · exact ⟨h.h5, h.h12, h.h3, h.h4, h.h15, h.h11⟩
  obtain ⟨h5, h12, h3, h4, h15, h11⟩ := hh
  simp [laws_FnDocAnyLength.j0, laws_FnDocAnyLength.j1, *]

theorem vl_impl {l : List Int} {k m : Int} {b : Bool} (h0 : 0 ≤ k) (h1 : k ≤ 255) (h : Ev (fun q => bsoncore_valueLength.f q l k) (m, b)) : Ev (fun q => impl_ValueLength.f q l (wrap64 k)) (wrap64 m, b) := by
  have e : wrap64 k % 256 = k := by rw [w64 (by omega) (by omega)]; omega
  refine Ev.congr (f := fun q => (bsoncore_ZzValueLength.f q l k).bind fun bt => some (wrap64 bt.1, bt.2)) (fun q => by unfold impl_ValueLength.f; rw [e]) ?_
  exact Ev.bind (a := (m, b)) (Ev.bind h (Ev.congr (f := fun _ => some (m, b)) (fun q => rfl) (Ev.now _))) (Ev.congr (f := fun _ => some (wrap64 m, b)) (fun q => rfl) (Ev.now _))
theorem j2_ev {l : List Int} (hl : l.length ≤ 6000) {k m w : Int} {b : Bool} (h : Ev (fun q => impl_ValueLength.f q l (wrap64 k)) (m, b)) (hw : b = true → m = w) : Ev (fun q => laws_FnDocAnyLength.j2 q k l w b) true := by
  refine Ev.step (fun q => by rw [laws_FnDocAnyLength.j2, copy_ok l hl, Option.bind_some]) ?_
  refine Ev.bind h (Ev.bind awake ?_)
  refine Ev.congr (fun q => ?_) (Ev.now _)
  dsimp only
  rw [if_pos rfl, if_pos (beq_self_eq_true b)]
  cases b with
  | false => rw [if_neg (by decide)]
  | true => rw [if_pos rfl, hw rfl]; simp
theorem at9 {α : Type} {f : Nat → Option α} {r : α} (h : ∀ q, f (q + 9) = some r) : Ev f r := ⟨9, fun k hk => by obtain ⟨q, rfl⟩ : ∃ q, k = q + 9 := ⟨k - 9, by omega⟩; exact h q⟩
/-- A regular expression: two names. -/
theorem rx_len (l : List Int) (hl : l.length ≤ 6000) (hw : ∀ x, x ∈ l → (Lit.int .u8 x).wf = true) (nd : Int) (okd : Bool) (hn : spec_DocNumber.f l = some (nd, okd)) : ∃ (m : Int) (w : Int) (b : Bool), Ev (fun q => bsoncore_valueLength.f q l 11) (m, b) ∧ Ev (fun q => spec_DocLen.f q 11 l) (w, b) ∧ (b = true → wrap64 m = w) := by
  obtain ⟨nm1, n1, has1, a1, b1, c1, i1, ev1⟩ := key_ev l hl hw
  obtain ⟨nm2, n2, has2, a2, b2, c2, i2, ev2⟩ := key_ev (l.drop n1) (by rw [List.length_drop]; omega) (fun x hx => hw x (List.mem_of_mem_drop hx))
  rw [List.length_drop] at a2
  have ed : wrap64 ((n1 : Int) + (n2 : Int)) = ((n1 + n2 : Nat) : Int) := by rw [w64 (by omega) (by omega)]; omega
  have evd : Ev (fun q => spec_DocLen.f q 11 l) (((n1 + n2 : Nat) : Int), has1 && has2) := by
    refine Ev.congr (f := fun q => spec_DocLen.j0 q l nd okd 11 false) (fun q => by simp [spec_DocLen.f, hn]) ?_
    refine Ev.step (f := fun q => spec_DocLen.j1 q l nd okd 11 false) (fun q => by simp [spec_DocLen.j0]) ?_
    refine Ev.step (f := fun q => spec_DocLen.j2 q l nd okd 11 false) (fun q => by simp [spec_DocLen.j1]) ?_
    refine Ev.step (f := fun q => spec_DocLen.j3 q l nd okd 11 false) (fun q => by simp [spec_DocLen.j2]) ?_
    refine Ev.step (fun q => by rw [spec_DocLen.j3, if_neg (by decide), if_neg (by decide), if_neg (by decide), if_pos rfl]) ?_
    refine Ev.bind ev1 ?_
    refine Ev.congr (f := fun q => (spec_DocName.f q (l.drop n1)).bind fun bt463 => (if has1 = true then (some (wrap64 ((n1 : Int) + bt463.2.1), bt463.2.2)) else (some (wrap64 ((n1 : Int) + bt463.2.1), false)))) (fun q => ?_) ?_
    · dsimp only
      rw [if_pos (by omega), if_pos (by omega), Int.toNat_natCast]
    · refine Ev.bind ev2 (Ev.congr (fun q => ?_) (Ev.now _))
      dsimp only
      rw [ed]
      cases has1 <;> rfl
  cases has1 with
  | false =>
    have := b1 rfl
    subst this
    refine ⟨0, _, false, at9 (fun q => ?_), evd, fun h => by cases h⟩
    simp [bsoncore_valueLength.f, bsoncore_valueLength.j0, bsoncore_valueLength.j1, bsoncore_valueLength.j2, bsoncore_valueLength.j3, bsoncore_valueLength.j4, i1]
  | true =>
    have hp := c1 rfl
    have t1 : ¬ ((n1 : Int) - 1 < 0) := by omega
    have t2 : wrap64 ((n1 : Int) - 1 + 1) = (n1 : Int) := by rw [w64 (by omega) (by omega)]; omega
    have t3 : (n1 : Int) ≤ (l.length : Int) := by omega
    cases has2 with
    | false =>
      have := b2 rfl
      subst this
      refine ⟨0, _, false, at9 (fun q => ?_), evd, fun h => by cases h⟩
      have i2' : bytes_IndexByte.f (l.drop n1) 0 = some (-1) := i2
      simp only [bsoncore_valueLength.f, bsoncore_valueLength.j0, bsoncore_valueLength.j1, bsoncore_valueLength.j2, bsoncore_valueLength.j3, bsoncore_valueLength.j4, i1, t1, t2, t3, i2', Option.bind_some, Int.reduceEq, Int.reduceBEq, if_true, if_false, Bool.false_eq_true, Int.toNat_natCast, Int.natCast_nonneg]
      rfl
    | true =>
      have hp2 := c2 rfl
      have t4 : ¬ ((n2 : Int) - 1 < 0) := by omega
      have t5 : wrap32 (wrap64 (wrap64 ((n1 : Int) + ((n2 : Int) - 1)) + 1)) = ((n1 + n2 : Nat) : Int) := by rw [w64 (x := (n1 : Int) + ((n2 : Int) - 1)) (by omega) (by omega), w64 (by omega) (by omega), w32 (by omega) (by omega)]; omega
      have t6 : ¬ (((n1 + n2 : Nat) : Int) < 0) := by omega
      refine ⟨((n1 + n2 : Nat) : Int), _, true, at9 (fun q => ?_), evd, fun _ => w64 (by omega) (by omega)⟩
      simp only [bsoncore_valueLength.f, bsoncore_valueLength.j0, bsoncore_valueLength.j1, bsoncore_valueLength.j2, bsoncore_valueLength.j3, bsoncore_valueLength.j4, i1, t1, t2, t3, i2, t4, t5, t6, Option.bind_some, Int.reduceEq, Int.reduceBEq, if_true, if_false, Bool.false_eq_true, Int.toNat_natCast, Int.natCast_nonneg]
theorem holds (k : Int) (hk : (Lit.int .u8 k).wf = true) (l : List Int) (hw : ∀ x, x ∈ l → (Lit.int .u8 x).wf = true) : ∃ q, laws_FnDocAnyLength.f q k l = some true := by
  apply Ev.rounds
  obtain ⟨hk0, hk1⟩ := PL.wf_u8 hk
  by_cases h1 : (l.length : Int) > 2147483647
  · exact Ev.congr (fun q => by unfold laws_FnDocAnyLength.f; rw [if_pos h1]) (Ev.now _)
  by_cases h2 : ¬ (l.length : Int) ≤ 5000
  · exact Ev.congr (fun q => by unfold laws_FnDocAnyLength.f laws_docModest.f; rw [if_neg h1, decide_eq_false h2, Option.bind_some, if_neg (by decide)]) (Ev.now _)
  have h2 := Decidable.not_not.1 h2
  have hl : l.length ≤ 6000 := by omega
  obtain ⟨n, ok, x, n0, n1, hok, hRL, hDN⟩ := first4 l hw
  by_cases h3 : n > 2147483548
  · exact Ev.congr (fun q => by unfold laws_FnDocAnyLength.f laws_docModest.f; rw [if_neg h1, decide_eq_true h2, Option.bind_some, if_pos rfl, hDN, Option.bind_some, if_pos h3]) (Ev.now _)
  obtain ⟨L, hL⟩ : ∃ L, L = l ++ List.replicate 20 0 := ⟨_, rfl⟩
  have hLl : L.length = l.length + 20 := by rw [hL, List.length_append, List.length_replicate]
  have hLw : ∀ x, x ∈ L → (Lit.int .u8 x).wf = true := by
    intro x hx
    rw [hL] at hx
    rcases List.mem_append.1 hx with hx | hx
    · exact hw x hx
    · rw [List.eq_of_mem_replicate hx]; decide +kernel
  obtain ⟨nL, xL, _, _, _, hnL⟩ := four L hLw (by omega)
  have hwk : wrap64 k = k := w64 (by omega) (by omega)
  have go : ∀ (w : Int) (b s : Bool), Ev (fun q => spec_DocSpan.f q k L) (w, b) → s = (k == 2 || k == 13 || k == 14) → Ev (fun q => laws_FnDocAnyLength.j0 q k l n ok w b k s) true → Ev (fun q => laws_FnDocAnyLength.f q k l) true := by
    intro w b s hs hb hj
    refine Ev.congr (f := fun q => (spec_DocSpan.f q k L).bind fun bt483 => (if k = 2 then (laws_FnDocAnyLength.j0 q k l n ok bt483.1 bt483.2 k (k == 2)) else (if k = 13 then (laws_FnDocAnyLength.j0 q k l n ok bt483.1 bt483.2 k (k == 13)) else (laws_FnDocAnyLength.j0 q k l n ok bt483.1 bt483.2 k (k == 14))))) (fun q => ?_) (Ev.bind hs ?_)
    · unfold laws_FnDocAnyLength.f laws_docModest.f
      rw [if_neg h1, decide_eq_true h2, Option.bind_some, if_pos rfl, hDN, Option.bind_some, if_neg h3, copy_ok l hl, Option.bind_some, if_pos (by omega), hwk, ← hL]
    · refine Ev.congr (fun q => ?_) hj
      dsimp only
      by_cases e2 : k = 2
      · subst e2; rw [if_pos rfl, hb]; rfl
      · rw [if_neg e2]
        by_cases e13 : k = 13
        · subst e13; rw [if_pos rfl, hb]; rfl
        · rw [if_neg e13, hb, show (k == 2) = false from beq_eq_false_iff_ne.mpr e2, show (k == 13) = false from beq_eq_false_iff_ne.mpr e13, Bool.false_or, Bool.false_or]
  obtain ⟨B, hB⟩ : ∃ B, B = (ok && decide (0 ≤ n)) := ⟨_, rfl⟩
  rw [← hB] at hRL
  have hBn : B = true → 0 ≤ n := fun h => by rw [hB] at h; simp at h; exact h.2
  have vl := vl_num l x n B hRL hBn n0 (by omega)
  have numj : ∀ (c m W : Int), Ev (fun q => bsoncore_valueLength.f q l k) (m, B) → (B = true → wrap64 m = W) → (∀ b' : Bool, b' = B → Ev (fun q => laws_FnDocAnyLength.j2 q k l W b') true) := fun c m W h hm b' hb => by rw [hb]; exact j2_ev hl (vl_impl hk0 hk1 h) hm
  have pick : ∀ (f g : Nat → Option Bool), (ok = true → Ev f true) → (ok = false → Ev g true) → Ev (fun q => if ok = true then f q else g q) true := by
    intro f g hf hg
    cases ok with
    | true => exact Ev.congr (fun q => by rw [if_pos rfl]) (hf rfl)
    | false => exact Ev.congr (fun q => by rw [if_neg (by decide)]) (hg rfl)
  have dec : ok = true → decide (n ≥ 0) = B := fun h => by rw [hB, h]; simp
  have dec0 : ok = false → false = B := fun h => by rw [hB, h]; rfl
  have add : ∀ c : Int, 0 ≤ c → c ≤ 16 → B = true → wrap64 (wrap32 (n + c)) = wrap64 (c + n) := fun c a b h => by have := hBn h; rw [w32 (by omega) (by omega), Int.add_comm]
  have nums : ∀ (c m : Int), Ev (fun q => bsoncore_valueLength.f q l k) (m, B) → (B = true → wrap64 m = c) → Ev (fun q => if ok = true then laws_FnDocAnyLength.j2 q k l c (decide (n ≥ 0)) else laws_FnDocAnyLength.j2 q k l c false) true := fun c m h hm => pick _ _ (fun ho => numj 0 m c h hm _ (dec ho)) (fun ho => numj 0 m c h hm _ (dec0 ho))
  by_cases g1 : k = 2 ∨ k = 13 ∨ k = 14
  · obtain ⟨p, hp⟩ := span_some L nL hnL k (by rcases g1 with h | h | h <;> simp [h])
    refine go p.1 p.2 true (at9 hp) (by rcases g1 with h | h | h <;> simp [h]) ?_
    refine Ev.step (fun q => by rw [laws_FnDocAnyLength.j0, if_pos rfl]) ?_
    exact nums _ _ (at9 (fun q => (vl q).2.1 k g1)) (add 4 (by omega) (by omega))
  by_cases g5 : k = 5
  · obtain ⟨p, hp⟩ := span_some L nL hnL k (by simp [g5])
    refine go p.1 p.2 false (at9 hp) (by simp [g5]) ?_
    subst g5
    refine Ev.step (fun q => by rw [laws_FnDocAnyLength.j0, if_neg (by decide), if_pos rfl]) ?_
    exact nums _ _ (at9 (fun q => (vl q).2.2.1)) (add 5 (by omega) (by omega))
  by_cases g12 : k = 12
  · obtain ⟨p, hp⟩ := span_some L nL hnL k (by simp [g12])
    refine go p.1 p.2 false (at9 hp) (by simp [g12]) ?_
    subst g12
    refine Ev.step (fun q => by rw [laws_FnDocAnyLength.j0, if_neg (by decide), if_neg (by decide), if_pos rfl]) ?_
    exact nums _ _ (at9 (fun q => (vl q).2.2.2)) (add 16 (by omega) (by omega))
  by_cases g3 : k = 3 ∨ k = 4 ∨ k = 15
  · obtain ⟨p, hp⟩ := span_some L nL hnL k (by rcases g3 with h | h | h <;> simp [h])
    refine go p.1 p.2 false (at9 hp) (by rcases g3 with h | h | h <;> simp [h]) ?_
    refine Ev.step (f := fun q => laws_FnDocAnyLength.j1 q k l n ok p.1 p.2 k true) (fun q => by rcases g3 with rfl | rfl | rfl <;> simp [laws_FnDocAnyLength.j0]) ?_
    refine Ev.step (fun q => by rw [laws_FnDocAnyLength.j1, if_pos rfl]) ?_
    exact nums _ _ (at9 (fun q => (vl q).1 k g3)) (fun _ => w64 (by omega) (by omega))
  by_cases g11 : k = 11
  · subst g11
    obtain ⟨m, w, b, ev1, ev2, hm⟩ := rx_len l hl hw n ok hDN
    obtain ⟨mL, wL, bL, _, evL, _⟩ := rx_len L (by omega) hLw nL true hnL
    have evS : Ev (fun q => spec_DocSpan.f q 11 L) (wL, bL) := by
      refine Ev.congr (f := fun q => spec_DocSpan.j0 q 11 L nL true 11 false) (fun q => by simp [spec_DocSpan.f, hnL]) ?_
      refine Ev.step (f := fun q => spec_DocSpan.j1 q 11 L nL true 11 false) (fun q => by simp [spec_DocSpan.j0]) ?_
      refine Ev.step (f := fun q => (spec_DocLen.f q 11 L).bind fun bt468 => (some (bt468.1, bt468.2))) (fun q => by simp [spec_DocSpan.j1]) ?_
      exact Ev.bind evL (Ev.congr (f := fun _ => some (wL, bL)) (fun q => rfl) (Ev.now _))
    refine go wL bL false evS (by decide) ?_
    refine Ev.step (f := fun q => laws_FnDocAnyLength.j1 q 11 l n ok wL bL 11 false) (fun q => by simp [laws_FnDocAnyLength.j0]) ?_
    refine Ev.step (f := fun q => (spec_DocLen.f q 11 l).bind fun bt485 => (laws_FnDocAnyLength.j2 q 11 l bt485.1 bt485.2)) (fun q => by simp [laws_FnDocAnyLength.j1]) ?_
    exact Ev.bind ev2 (j2_ev hl (vl_impl hk0 hk1 ev1) hm)
  have gs : (false : Bool) = (k == 2 || k == 13 || k == 14) := by simp only [not_or] at g1; simp [g1]
  have last : ∀ (c : Int) (b : Bool), (fixedLen k ≠ none ∨ NoKind k) → Ev (fun q => spec_DocSpan.f q k L) (c, b) → Ev (fun q => bsoncore_valueLength.f q l k) (c, b) → (b = true → wrap64 c = c) → Ev (fun q => laws_FnDocAnyLength.f q k l) true := by
    intro c b hh hs hv hc
    refine go c b false hs gs ?_
    obtain ⟨K, hK⟩ := j2_ev hl (vl_impl hk0 hk1 hv) hc
    refine ⟨K + 9, fun q hq => ?_⟩
    obtain ⟨q, rfl⟩ : ∃ r, q = r + 9 := ⟨q - 9, by omega⟩
    show laws_FnDocAnyLength.j0 (q + 9) k l n ok c b k false = some true
    rw [j0_else q k l n ok c b k hh]
    exact hK (q + 7) (by omega)
  cases hf : fixedLen k with
  | some c =>
    have hc : 0 ≤ c ∧ c ≤ 16 := by rcases fixed_cases hf with ⟨_, h⟩ | ⟨_, h⟩ | ⟨_, h⟩ | ⟨_, h⟩ | ⟨_, h⟩ | ⟨_, h⟩ <;> omega
    exact last c true (Or.inl (by rw [hf]; simp)) (at9 (fun q => span_fixed L (by omega) nL hnL hf q)) (at9 (fun q => vl_fixed l hf q)) (fun _ => w64 (by omega) (by omega))
  | none =>
    have hno : NoKind k := by
      simp only [not_or] at g1 g3
      unfold fixedLen at hf
      constructor <;> (rintro rfl; first | (simp at hf; done) | (simp at g1; done) | (simp at g3; done) | exact absurd rfl g5 | exact absurd rfl g12 | exact absurd rfl g11)
    exact last 0 false (Or.inr hno) (at9 (fun q => span_none L nL hnL hno q)) (at9 (fun q => vl_none l hno q)) (fun h => by cases h)

end Go.Proofs.YtanecebppagakaaGreatDoor.PAl.VT
