/- Plain lemmas on the bytes of integers and on integers as doubles, without memory. Conditions: as each theorem states them. -/
import Derived.Test.YthlpmeiihchdjaaProg
import Derived.Test.YthlpmeiihchdjaaHW
import Derived.Below
import Derived.Deep.Draws
import Derived.OwnWalk
import Derived.Tactics
import Derived.WalkKit
import Derived.KernelRfl
import Derived.RowKit3
import Derived.Deep.LoopGhost
import Derived.Deep.QuietTactic
import Derived.BigQuiet
import Derived.WideLaws
import Derived.Deep.DeepCutAuto
import Derived.Deep.CutBlock
import Derived.Laws.Rows
import Derived.Outline
import Derived.StillTailTactics
import Derived.Deep.RegionHeld3
import Derived.Test.YthlpmeiihchdjaaPFlux8
import Derived.Test.YthlpmeiihchdjaaPL
namespace Go.Proofs.Ythlpmeiihchdjaa.PFlu.VT
open Go.RowKit Go.Proofs.YthlpmeiihchdjaaW.PrintWords Go.Proofs.YthlpmeiihchdjaaW.PrintLast Go.Proofs.YthlpmeiihchdjaaW.PrintMore
set_option linter.unusedVariables false
set_option linter.unusedSimpArgs false
theorem wrap_same (k : IntKind) {a b : Int} (h : a % 2 ^ k.bits = b % 2 ^ k.bits) : k.wrap a = k.wrap b := by
  unfold IntKind.wrap
  rw [h]
theorem or_high (k : IntKind) (i : Nat) (hi : i ≤ k.bits) (x y : Int) (h0 : 0 ≤ x) (h1 : x < 2 ^ i) (hy : y % 2 ^ i = 0) : bits .or k x y = k.wrap (x + y) := by
  have hp : (2 : Int) ^ k.bits = 2 ^ i * 2 ^ (k.bits - i) := by rw [← Int.pow_add]; congr 1; omega
  have hpos : (0 : Int) < 2 ^ k.bits := Int.pow_pos (by decide)
  obtain ⟨a, rfl⟩ := Int.eq_ofNat_of_zero_le h0
  have ha : a < 2 ^ i := by exact_mod_cast h1
  have hab : a < 2 ^ k.bits := Nat.lt_of_lt_of_le ha (Nat.pow_le_pow_right (by decide) hi)
  obtain ⟨b, hb⟩ := Int.eq_ofNat_of_zero_le (Int.emod_nonneg y (Int.ne_of_gt hpos))
  have hbm : (b : Int) % 2 ^ i = 0 := by
    rw [← hb, hp, Int.emod_emod_of_dvd _ (Int.dvd_mul_right _ _)]; exact hy
  have hbn : b % 2 ^ i = 0 := by exact_mod_cast hbm
  have hblt : b < 2 ^ k.bits := by
    have := Int.emod_lt_of_pos y hpos
    rw [hb] at this
    exact_mod_cast this
  have e1 : (BitVec.ofInt k.bits y).toNat = b := by
    rw [BitVec.toNat_ofInt]
    have : (y % ((2 ^ k.bits : Nat) : Int)) = b := by rw [← hb]; simp
    rw [this]
    rfl
  have e2 : (BitVec.ofInt k.bits (a : Int)).toNat = a := by
    rw [BitVec.ofInt_natCast, BitVec.toNat_ofNat]
    exact Nat.mod_eq_of_lt hab
  unfold bits
  simp only [BitVec.toNat_or, e1, e2]
  have hq : b = 2 ^ i * (b / 2 ^ i) := by
    have := Nat.div_add_mod b (2 ^ i)
    omega
  have e3 : a ||| b = a + b := by
    rw [Nat.or_comm, hq, ← Nat.two_pow_add_eq_or_of_lt ha (b / 2 ^ i)]
    omega
  rw [e3]
  apply wrap_same
  rw [Int.natCast_add, ← hb, Int.add_emod, Int.emod_emod_of_dvd _ (Int.dvd_refl _), ← Int.add_emod]
theorem wrap_i32' (n : Int) : IntKind.i32.wrap n = wrap32 n := by rw [IntKind.wrap_i32]; unfold wrap32; rfl
theorem wrap_i64' (n : Int) : IntKind.i64.wrap n = wrap64 n := by rw [IntKind.wrap_i64]; unfold wrap64; rfl
theorem u64_wrap (n : Int) : IntKind.u64.wrap n = n % 18446744073709551616 := by simp [IntKind.wrap, IntKind.bits, IntKind.signed]
theorem read32 (n : Int) (h0 : -2147483648 ≤ n) (h1 : n < 2147483648) : bsoncore_ReadInt32.f [n % 256, n / 256 % 256, n / 65536 % 256, n / 16777216 % 256] = some (n, [], true) := by
  have w0 : wrap32 (rd [n % 256, n / 256 % 256, n / 65536 % 256, n / 16777216 % 256] 0) = n % 256 := by show wrap32 (n % 256) = _; unfold wrap32; omega
  have w1 : wrap32 (wrap32 (rd [n % 256, n / 256 % 256, n / 65536 % 256, n / 16777216 % 256] 1) * 256) = n / 256 % 256 * 256 := by show wrap32 (wrap32 (n / 256 % 256) * 256) = _; unfold wrap32; omega
  have w2 : wrap32 (wrap32 (rd [n % 256, n / 256 % 256, n / 65536 % 256, n / 16777216 % 256] 2) * 65536) = n / 65536 % 256 * 65536 := by show wrap32 (wrap32 (n / 65536 % 256) * 65536) = _; unfold wrap32; omega
  have w3 : wrap32 (wrap32 (rd [n % 256, n / 256 % 256, n / 65536 % 256, n / 16777216 % 256] 3) * 16777216) = wrap32 (n / 16777216 % 256 * 16777216) := by show wrap32 (wrap32 (n / 16777216 % 256) * 16777216) = _; unfold wrap32; omega
  unfold bsoncore_ReadInt32.f binaryutil_ReadI32.f
  rw [w0, w1, w2, w3]
  rw [or_high .i32 8 (by decide) (n % 256) _ (by omega) (by omega) (by omega)]
  rw [wrap_i32', show wrap32 (n % 256 + n / 256 % 256 * 256) = n % 65536 by unfold wrap32; omega]
  rw [or_high .i32 16 (by decide) (n % 65536) _ (by omega) (by omega) (by omega)]
  rw [wrap_i32', show wrap32 (n % 65536 + n / 65536 % 256 * 65536) = n % 16777216 by unfold wrap32; omega]
  rw [or_high .i32 24 (by decide) (n % 16777216) _ (by omega) (by omega) (by unfold wrap32; omega)]
  rw [wrap_i32', show wrap32 (n % 16777216 + wrap32 (n / 16777216 % 256 * 16777216)) = n by unfold wrap32; omega]
  rfl
theorem read64 (n : Int) (h0 : -9223372036854775808 ≤ n) (h1 : n < 9223372036854775808) : bsoncore_ReadInt64.f [n % 256, n / 256 % 256, n / 65536 % 256, n / 16777216 % 256, n / 4294967296 % 256, n / 1099511627776 % 256, n / 281474976710656 % 256, n / 72057594037927936 % 256] = some (n, [], true) := by
  have w0 : wrap64 (rd [n % 256, n / 256 % 256, n / 65536 % 256, n / 16777216 % 256, n / 4294967296 % 256, n / 1099511627776 % 256, n / 281474976710656 % 256, n / 72057594037927936 % 256] 0) = n % 256 := by show wrap64 (n % 256) = _; unfold wrap64; omega
  have w1 : wrap64 (wrap64 (rd [n % 256, n / 256 % 256, n / 65536 % 256, n / 16777216 % 256, n / 4294967296 % 256, n / 1099511627776 % 256, n / 281474976710656 % 256, n / 72057594037927936 % 256] 1) * 256) = n / 256 % 256 * 256 := by show wrap64 (wrap64 (n / 256 % 256) * 256) = _; unfold wrap64; omega
  have w2 : wrap64 (wrap64 (rd [n % 256, n / 256 % 256, n / 65536 % 256, n / 16777216 % 256, n / 4294967296 % 256, n / 1099511627776 % 256, n / 281474976710656 % 256, n / 72057594037927936 % 256] 2) * 65536) = n / 65536 % 256 * 65536 := by show wrap64 (wrap64 (n / 65536 % 256) * 65536) = _; unfold wrap64; omega
  have w3 : wrap64 (wrap64 (rd [n % 256, n / 256 % 256, n / 65536 % 256, n / 16777216 % 256, n / 4294967296 % 256, n / 1099511627776 % 256, n / 281474976710656 % 256, n / 72057594037927936 % 256] 3) * 16777216) = n / 16777216 % 256 * 16777216 := by show wrap64 (wrap64 (n / 16777216 % 256) * 16777216) = _; unfold wrap64; omega
  have w4 : wrap64 (wrap64 (rd [n % 256, n / 256 % 256, n / 65536 % 256, n / 16777216 % 256, n / 4294967296 % 256, n / 1099511627776 % 256, n / 281474976710656 % 256, n / 72057594037927936 % 256] 4) * 4294967296) = n / 4294967296 % 256 * 4294967296 := by show wrap64 (wrap64 (n / 4294967296 % 256) * 4294967296) = _; unfold wrap64; omega
  have w5 : wrap64 (wrap64 (rd [n % 256, n / 256 % 256, n / 65536 % 256, n / 16777216 % 256, n / 4294967296 % 256, n / 1099511627776 % 256, n / 281474976710656 % 256, n / 72057594037927936 % 256] 5) * 1099511627776) = n / 1099511627776 % 256 * 1099511627776 := by show wrap64 (wrap64 (n / 1099511627776 % 256) * 1099511627776) = _; unfold wrap64; omega
  have w6 : wrap64 (wrap64 (rd [n % 256, n / 256 % 256, n / 65536 % 256, n / 16777216 % 256, n / 4294967296 % 256, n / 1099511627776 % 256, n / 281474976710656 % 256, n / 72057594037927936 % 256] 6) * 281474976710656) = n / 281474976710656 % 256 * 281474976710656 := by show wrap64 (wrap64 (n / 281474976710656 % 256) * 281474976710656) = _; unfold wrap64; omega
  have w7 : wrap64 (wrap64 (rd [n % 256, n / 256 % 256, n / 65536 % 256, n / 16777216 % 256, n / 4294967296 % 256, n / 1099511627776 % 256, n / 281474976710656 % 256, n / 72057594037927936 % 256] 7) * 72057594037927936) = wrap64 (n / 72057594037927936 % 256 * 72057594037927936) := by show wrap64 (wrap64 (n / 72057594037927936 % 256) * 72057594037927936) = _; unfold wrap64; omega
  unfold bsoncore_ReadInt64.f binaryutil_ReadI64.f
  rw [w0, w1, w2, w3, w4, w5, w6, w7]
  rw [or_high .i64 8 (by decide) (n % 256) _ (by omega) (by omega) (by omega)]
  rw [wrap_i64', show wrap64 (n % 256 + n / 256 % 256 * 256) = n % 65536 by unfold wrap64; omega]
  rw [or_high .i64 16 (by decide) (n % 65536) _ (by omega) (by omega) (by omega)]
  rw [wrap_i64', show wrap64 (n % 65536 + n / 65536 % 256 * 65536) = n % 16777216 by unfold wrap64; omega]
  rw [or_high .i64 24 (by decide) (n % 16777216) _ (by omega) (by omega) (by omega)]
  rw [wrap_i64', show wrap64 (n % 16777216 + n / 16777216 % 256 * 16777216) = n % 4294967296 by unfold wrap64; omega]
  rw [or_high .i64 32 (by decide) (n % 4294967296) _ (by omega) (by omega) (by omega)]
  rw [wrap_i64', show wrap64 (n % 4294967296 + n / 4294967296 % 256 * 4294967296) = n % 1099511627776 by unfold wrap64; omega]
  rw [or_high .i64 40 (by decide) (n % 1099511627776) _ (by omega) (by omega) (by omega)]
  rw [wrap_i64', show wrap64 (n % 1099511627776 + n / 1099511627776 % 256 * 1099511627776) = n % 281474976710656 by unfold wrap64; omega]
  rw [or_high .i64 48 (by decide) (n % 281474976710656) _ (by omega) (by omega) (by omega)]
  rw [wrap_i64', show wrap64 (n % 281474976710656 + n / 281474976710656 % 256 * 281474976710656) = n % 72057594037927936 by unfold wrap64; omega]
  rw [or_high .i64 56 (by decide) (n % 72057594037927936) _ (by omega) (by omega) (by unfold wrap64; omega)]
  rw [wrap_i64', show wrap64 (n % 72057594037927936 + wrap64 (n / 72057594037927936 % 256 * 72057594037927936)) = n by unfold wrap64; omega]
  rfl
/-- Eight bytes, the lowest first. -/
def le8 (n : Int) : List Int := [n % 256, n / 256 % 256, n / 65536 % 256, n / 16777216 % 256, n / 4294967296 % 256, n / 1099511627776 % 256, n / 281474976710656 % 256, n / 72057594037927936 % 256]
theorem int64_ev (l : List Int) (n : Int) (hl : l.length + 8 < 140737488355328) : Ev (fun k => spec_DocInt64.f k l n) (l ++ le8 n) := by
  refine ⟨10, fun k hk => ?_⟩
  obtain ⟨j, rfl⟩ := Nat.exists_eq_add_of_le hk
  have step : ∀ (k : Nat) (x : List Int) (i : Nat), x.length < 140737488355328 → i < 64 → spec_DocInt64.l0 (k + 1) x n (i : Int) = spec_DocInt64.l0 k (x ++ [shr .u64 n (i : Int) % 256]) n ((i + 8 : Nat) : Int) := by
    intro k x i hx hi
    rw [spec_DocInt64.l0, if_pos (by omega), if_pos (by omega), if_pos hx, show wrap64 ((i : Int) + 8) = ((i + 8 : Nat) : Int) by unfold wrap64; omega]
  unfold spec_DocInt64.f
  rw [show 10 + j = (((((((((j + 1) + 1) + 1) + 1) + 1) + 1) + 1) + 1) + 1) + 1 by omega]
  show spec_DocInt64.l0 (j + 1 + 1 + 1 + 1 + 1 + 1 + 1 + 1 + 1 + 1) l n ((0 : Nat) : Int) = some (l ++ le8 n)
  rw [step _ l 0 (by omega) (by decide), step _ _ 8 (by simp; omega) (by decide), step _ _ 16 (by simp; omega) (by decide), step _ _ 24 (by simp; omega) (by decide), step _ _ 32 (by simp; omega) (by decide), step _ _ 40 (by simp; omega) (by decide), step _ _ 48 (by simp; omega) (by decide), step _ _ 56 (by simp; omega) (by decide)]
  rw [spec_DocInt64.l0, if_neg (by decide)]
  simp only [List.append_assoc, List.cons_append, List.nil_append]
  congr 1
  congr 1
  simp [le8, shr, IntKind.bits]
theorem le8_back (n : Int) (h0 : 0 ≤ n) (h1 : n ≤ 18446744073709551615) : Lib.leZ (le8 n) = n := by
  simp only [le8, Lib.leZ]
  omega
theorem le8_wf (n : Int) : ∀ z ∈ le8 n, (Lit.int .u8 z).wf = true := by
  intro z hz
  have : 0 ≤ z ∧ z ≤ 255 := by
    simp only [le8, List.mem_cons, List.not_mem_nil, or_false] at hz
    rcases hz with rfl | rfl | rfl | rfl | rfl | rfl | rfl | rfl <;> omega
  simp only [Lit.wf, Bool.and_eq_true, decide_eq_true_eq]
  exact ⟨by simpa [IntKind.min, IntKind.signed] using this.1, by simpa [IntKind.max, IntKind.signed, IntKind.bits] using this.2⟩
theorem le8_wrap (n : Int) : le8 (n % 18446744073709551616) = le8 n := by
  simp only [le8, List.cons.injEq, and_true]
  refine ⟨?_, ?_, ?_, ?_, ?_, ?_, ?_, ?_⟩ <;> omega
theorem bits_or_comm (k : IntKind) (x y : Int) : bits .or k x y = bits .or k y x := by
  unfold bits
  simp only [BitVec.or_comm]
theorem near (neg : Bool) (mag h : Nat) (hm : 2 ^ h ≤ mag) (hm1 : mag < 2 ^ (h + 1)) (hh : h ≤ 52) : Ieee.double.nearest neg mag 0 = Ieee.double.word neg ((h + 1022) * 4503599627370496 + mag * 2 ^ (52 - h)) := by
  have h0 : mag ≠ 0 := by have := Nat.two_pow_pos h; omega
  have hl : mag.log2 = h := (Nat.log2_eq_iff h0).2 ⟨hm, hm1⟩
  unfold Ieee.Format.nearest
  rw [if_neg h0, hl]
  have e1 : max ((0 : Int) + (h : Nat) - (Ieee.double.fractionBits : Nat)) Ieee.double.leastPlace = (h : Int) - 52 := by
    show max ((0 : Int) + (h : Nat) - ((52 : Nat) : Int)) (-1074) = _
    omega
  simp only [e1]
  have e2 : ((0 : Int) - ((h : Int) - 52)).toNat = 52 - h := by omega
  have e3 : ((h : Int) - 52 - 0).toNat = 0 := by omega
  have e4 : ((h : Int) - 52 - Ieee.double.leastPlace).toNat = h + 1022 := by
    show ((h : Int) - 52 - (-1074)).toNat = _
    omega
  rw [e2, e3, e4]
  have e5 : ∀ n : Nat, Ieee.Toward.even.cut neg n 0 = n := by
    intro n
    unfold Ieee.Toward.cut
    simp [Nat.mod_one]
  rw [e5, Nat.shiftLeft_eq]
  congr 1
  show min ((h + 1022) * 4503599627370496 + mag * 2 ^ (52 - h)) ((2 ^ 11 - 1) * 4503599627370496) = _
  have : mag * 2 ^ (52 - h) < 2 ^ (h + 1) * 2 ^ (52 - h) := Nat.mul_lt_mul_of_pos_right hm1 (Nat.two_pow_pos _)
  rw [← Nat.pow_add, show h + 1 + (52 - h) = 53 by omega] at this
  exact Nat.min_eq_left (Nat.le_trans (Nat.add_le_add (Nat.mul_le_mul_right 4503599627370496 (show h + 1022 ≤ 1074 by omega)) (Nat.le_of_lt this)) (by decide))
theorem near53 (neg : Bool) : Ieee.double.nearest neg 9007199254740992 0 = Ieee.double.word neg (1076 * 4503599627370496) := by
  cases neg <;> decide +kernel
theorem shr_nat (m i : Nat) (hi : i ≤ 64) : shr .u64 (m : Int) (i : Int) = ((m / 2 ^ i : Nat) : Int) := by
  unfold shr
  rw [Int.toNat_natCast, show min i (IntKind.u64.bits) = i from Nat.min_eq_left hi]
  simp
theorem bd_loop (s : Int) (mag h : Nat) (hm : 2 ^ h ≤ mag) (hm1 : mag < 2 ^ (h + 1)) (hh : h ≤ 53) (r : Int)
    (hr : ∀ k, spec_BindDouble.l0 (k + 1) s mag h = some r) : ∀ (j i : Nat), i + j = h → Ev (fun k => spec_BindDouble.l0 k s mag i) r
  | 0, i, hi => by
    obtain rfl : i = h := by omega
    exact ⟨1, fun k hk => by obtain ⟨k, rfl⟩ : ∃ q, k = q + 1 := ⟨k - 1, by omega⟩; exact hr k⟩
  | j + 1, i, hi => by
    refine Ev.step (f := fun k => spec_BindDouble.l0 k s mag (i + 1 : Nat)) (fun k => ?_) (bd_loop s mag h hm hm1 hh r hr j (i + 1) (by omega))
    have e : wrap64 ((i : Int) + 1) = ((i + 1 : Nat) : Int) := by unfold wrap64; omega
    have hp : 2 ^ (i + 1) ≤ mag := Nat.le_trans (Nat.pow_le_pow_right (by decide) (by omega)) hm
    have hne : ¬ (shr .u64 (mag : Int) ((i + 1 : Nat) : Int) = 0) := by
      rw [shr_nat _ _ (by omega)]
      have := Nat.div_pos hp (Nat.two_pow_pos _)
      omega
    rw [spec_BindDouble.l0, e, if_pos (by omega), if_neg hne]
theorem bd_exp (h : Nat) (hh : h ≤ 52) : IntKind.u64.wrap (wrap64 (1023 + (h : Int))) = ((h + 1023 : Nat) : Int) := by
  rw [u64_wrap]
  unfold wrap64
  omega
theorem bd_mul (mag h : Nat) (hm : 2 ^ h ≤ mag) (hh : h ≤ 52) : mag * 2 ^ (52 - h) = (mag - 2 ^ h) * 2 ^ (52 - h) + 4503599627370496 := by
  have e : mag * 2 ^ (52 - h) = ((mag - 2 ^ h) + 2 ^ h) * 2 ^ (52 - h) := by rw [Nat.sub_add_cancel hm]
  have e2 : 2 ^ h * 2 ^ (52 - h) = 4503599627370496 := by
    rw [← Nat.pow_add, show h + (52 - h) = 52 by omega]
  rw [e, Nat.add_mul, e2]
theorem bd_q (h C : Nat) : (h + 1023) * C = (h + 1022) * C + C := by rw [show h + 1023 = (h + 1022) + 1 by omega, Nat.add_mul, Nat.one_mul]
theorem bd_m (h C : Nat) : (h + 1023) * C % C = 0 := Nat.mul_mod_left _ _
theorem bd_l (h C : Nat) (hh : h ≤ 52) : (h + 1023) * C ≤ 1075 * C := Nat.mul_le_mul_right _ (by omega)
theorem bd_c (n C : Nat) : (n : Int) * (C : Int) = ((n * C : Nat) : Int) := (Int.natCast_mul n C).symm
theorem bd_fin (neg : Bool) (q p g : Nat) (hq : g < 4503599627370496) (hbb : q ≤ 4841369599423283200) (hb0 : q % 4503599627370496 = 0) (hb1 : q = p + 4503599627370496) :
    some (bits .or .u64 (bits .or .u64 (if neg then 9223372036854775808 else 0 : Int) (IntKind.u64.wrap (q : Int))) (g : Int)) = some (((Ieee.double.word neg (p + (g + 4503599627370496)) : Nat)) : Int) := by
  rw [u64_wrap, Int.emod_eq_of_lt (by omega) (by omega)]
  have o1 : bits .or .u64 (if neg then 9223372036854775808 else 0 : Int) (q : Int) = (if neg then 9223372036854775808 else 0 : Int) + (q : Int) := by
    rw [bits_or_comm, or_high .u64 63 (by decide) _ _ (by omega) (by show (q : Int) < 9223372036854775808; omega) (by cases neg <;> decide), u64_wrap]
    cases neg
    · show ((q : Int) + 0) % 18446744073709551616 = 0 + (q : Int); omega
    · show ((q : Int) + 9223372036854775808) % 18446744073709551616 = 9223372036854775808 + (q : Int); omega
  have o2 : bits .or .u64 ((if neg then 9223372036854775808 else 0 : Int) + (q : Int)) (g : Int) = (if neg then 9223372036854775808 else 0 : Int) + (q : Int) + g := by
    rw [bits_or_comm, or_high .u64 52 (by decide) _ _ (by omega) (by show (g : Int) < 4503599627370496; omega) ?_, u64_wrap]
    · cases neg
      · show ((g : Int) + (0 + (q : Int))) % 18446744073709551616 = 0 + (q : Int) + g; omega
      · show ((g : Int) + (9223372036854775808 + (q : Int))) % 18446744073709551616 = 9223372036854775808 + (q : Int) + g; omega
    · cases neg
      · show (0 + (q : Int)) % 4503599627370496 = 0; omega
      · show (9223372036854775808 + (q : Int)) % 4503599627370496 = 0; omega
  rw [o1, o2]
  congr 1
  cases neg
  · show 0 + (q : Int) + g = ((p + (g + 4503599627370496) : Nat) : Int); omega
  · show 9223372036854775808 + (q : Int) + g = ((9223372036854775808 + (p + (g + 4503599627370496)) : Nat) : Int); omega
theorem bd_end (neg : Bool) (mag h : Nat) (hm : 2 ^ h ≤ mag) (hm1 : mag < 2 ^ (h + 1)) (hh : h ≤ 52) (k : Nat) :
    spec_BindDouble.l0 (k + 1) (if neg then 9223372036854775808 else 0) mag h = some (Ieee.double.nearest neg mag 0 : Int) := by
  have e : wrap64 ((h : Int) + 1) = ((h + 1 : Nat) : Int) := by unfold wrap64; omega
  have hz : shr .u64 (mag : Int) ((h + 1 : Nat) : Int) = 0 := by
    rw [shr_nat _ _ (by omega), Nat.div_eq_of_lt hm1]; rfl
  have e2 : wrap64 (52 - (h : Int)) = ((52 - h : Nat) : Int) := by unfold wrap64; omega
  have hsh : shl .u64 1 (h : Int) = ((2 ^ h : Nat) : Int) := by
    unfold shl
    rw [Int.toNat_natCast, show min h (IntKind.u64.bits) = h from Nat.min_eq_left (by show h ≤ 64; omega), u64_wrap]
    have : 2 ^ h ≤ 2 ^ 52 := Nat.pow_le_pow_right (by decide) hh
    have h2 : ((2 : Int) ^ h) = ((2 ^ h : Nat) : Int) := by simp
    rw [Int.one_mul, h2]
    omega
  have hmb : mag < 2 ^ 53 := Nat.lt_of_lt_of_le hm1 (Nat.pow_le_pow_right (by decide) (by omega))
  have hq : (mag - 2 ^ h) * 2 ^ (52 - h) < 4503599627370496 := by
    have : (mag - 2 ^ h) * 2 ^ (52 - h) < 2 ^ h * 2 ^ (52 - h) := Nat.mul_lt_mul_of_pos_right (by rw [Nat.pow_succ] at hm1; omega) (Nat.two_pow_pos _)
    rw [← Nat.pow_add, show h + (52 - h) = 52 by omega] at this
    exact this
  have hx : (mag : Int) - ((2 ^ h : Nat) : Int) = ((mag - 2 ^ h : Nat) : Int) := by omega
  have hshl : shl .u64 (IntKind.u64.wrap ((mag : Int) - shl .u64 1 (h : Int))) ((52 - h : Nat) : Int) = (((mag - 2 ^ h) * 2 ^ (52 - h) : Nat) : Int) := by
    rw [hsh, hx, u64_wrap, Int.emod_eq_of_lt (by omega) (by omega)]
    unfold shl
    rw [Int.toNat_natCast, show min (52 - h) (IntKind.u64.bits) = 52 - h from Nat.min_eq_left (by show 52 - h ≤ 64; omega), u64_wrap]
    have h2 : ((mag - 2 ^ h : Nat) : Int) * (2 : Int) ^ (52 - h) = (((mag - 2 ^ h) * 2 ^ (52 - h) : Nat) : Int) := by simp
    rw [h2]
    omega
  rw [spec_BindDouble.l0, e, if_pos (by omega), if_pos hz, if_pos (by omega), if_pos (by omega), e2, if_pos (by omega), hshl, near neg mag h hm hm1 hh]
  have i3 := bd_exp h hh
  have hmul := bd_mul mag h hm hh
  have hb := bd_l h 4503599627370496 hh
  have hb0 := bd_m h 4503599627370496
  have hb1 := bd_q h 4503599627370496
  have hC : (4503599627370496 : Int) = ((4503599627370496 : Nat) : Int) := rfl
  rw [i3, hC, bd_c, hmul]
  exact bd_fin neg _ _ _ hq (Nat.le_trans hb (by decide)) hb0 hb1
theorem bd_end53 (neg : Bool) (k : Nat) :
    spec_BindDouble.l0 (k + 1) (if neg then 9223372036854775808 else 0) ((9007199254740992 : Nat) : Int) ((53 : Nat) : Int) = some (Ieee.double.nearest neg 9007199254740992 0 : Int) := by
  rw [near53, spec_BindDouble.l0, if_pos (by decide +kernel), if_pos (by decide +kernel), if_pos (by decide +kernel), if_neg (by decide +kernel), if_pos (by decide +kernel)]
  cases neg <;> decide +kernel
theorem bd_ev (n : Int) (h0 : -9007199254740992 ≤ n) (h1 : n ≤ 9007199254740992) : Ev (fun k => spec_BindDouble.f k n) (Go.FloatKind.f64.nearest n : Int) := by
  have hn : (Go.FloatKind.f64.nearest n) = Ieee.double.nearest (decide (n < 0)) n.natAbs 0 := rfl
  rw [hn]
  by_cases hz : n = 0
  · subst hz
    exact ⟨0, fun k _ => by show spec_BindDouble.f k 0 = _; unfold spec_BindDouble.f; rw [if_pos rfl]; decide +kernel⟩
  obtain ⟨mag, hmag⟩ : ∃ m, n.natAbs = m := ⟨_, rfl⟩
  rw [hmag]
  have hne : mag ≠ 0 := by omega
  have hb : mag ≤ 9007199254740992 := by omega
  obtain ⟨h, hh⟩ : ∃ h, mag.log2 = h := ⟨_, rfl⟩
  obtain ⟨hm, hm1⟩ := (Nat.log2_eq_iff hne).1 hh
  have h53 : h ≤ 53 := by
    apply Nat.le_of_not_lt
    intro hc
    have : 2 ^ 54 ≤ 2 ^ h := Nat.pow_le_pow_right (by decide) hc
    omega
  have loop : ∀ neg : Bool, Ev (fun k => spec_BindDouble.l0 k (if neg then 9223372036854775808 else 0) mag (0 : Nat)) (Ieee.double.nearest neg mag 0 : Int) := by
    intro neg
    refine bd_loop _ mag h hm hm1 h53 _ (fun k => ?_) h 0 (by omega)
    by_cases h52 : h ≤ 52
    · exact bd_end neg mag h hm hm1 h52 k
    · obtain rfl : h = 53 := by omega
      have : 2 ^ 53 = 9007199254740992 := rfl
      obtain rfl : mag = 9007199254740992 := by omega
      exact bd_end53 neg k
  by_cases hneg : n < 0
  · obtain ⟨K, hK⟩ := loop true
    refine ⟨K + 1, fun k hk => ?_⟩
    obtain ⟨k, rfl⟩ : ∃ q, k = q + 1 := ⟨k - 1, by omega⟩
    have e : IntKind.u64.wrap (wrap64 (-n)) = (mag : Int) := by rw [u64_wrap]; unfold wrap64; omega
    have := hK k (by omega)
    rw [decide_eq_true hneg]
    show spec_BindDouble.f (k + 1) n = _
    unfold spec_BindDouble.f
    rw [if_neg hz, if_pos hneg, e, spec_BindDouble.j0]
    exact this
  · obtain ⟨K, hK⟩ := loop false
    refine ⟨K + 1, fun k hk => ?_⟩
    obtain ⟨k, rfl⟩ : ∃ q, k = q + 1 := ⟨k - 1, by omega⟩
    have e : IntKind.u64.wrap n = (mag : Int) := by rw [u64_wrap]; omega
    have := hK k (by omega)
    rw [decide_eq_false hneg]
    show spec_BindDouble.f (k + 1) n = _
    unfold spec_BindDouble.f
    rw [if_neg hz, if_neg hneg, e, spec_BindDouble.j0]
    exact this

end Go.Proofs.Ythlpmeiihchdjaa.PFlu.VT
