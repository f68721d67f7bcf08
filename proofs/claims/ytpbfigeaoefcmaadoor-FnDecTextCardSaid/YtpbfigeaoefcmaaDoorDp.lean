/- The text of a decimal, in plain words: what the loops write is what the specification says. Conditions: as each theorem states them. -/
import Derived.Test.YtpbfigeaoefcmaaDoorProg
import Derived.Test.YtpbfigeaoefcmaaDoorHW
import Derived.Below
import Derived.Deep.Draws
import Derived.OwnWalk
import Derived.Tactics
import Derived.WalkKit
import Derived.KernelRfl
import Derived.RowKit3
import Derived.Deep.LoopGhost
import Derived.Deep.QuietTactic
import Derived.BigQuiet
import Derived.WideLaws
import Derived.Deep.DeepCutAuto
import Derived.Deep.CutBlock
import Derived.Laws.Rows
import Derived.Outline
import Derived.StillTailTactics
import Derived.Deep.RegionHeld3
import Derived.Laws.BitsAllLaws
import Derived.Lib.ItoaNum
import Derived.Test.YtpbfigeaoefcmaaDoorPL
import Derived.Test.YtpbfigeaoefcmaaDoorPDtx6
namespace Go.Proofs.YtpbfigeaoefcmaaDoor.PDt.VT
open Go.RowKit Go.Proofs.YtpbfigeaoefcmaaDoorW.PrintWords Go.Proofs.YtpbfigeaoefcmaaDoorW.PrintLast Go.Proofs.YtpbfigeaoefcmaaDoorW.PrintMore
set_option linter.unusedVariables false
set_option linter.unusedSimpArgs false
theorem wrap_same (k : IntKind) {a b : Int} (h : a % 2 ^ k.bits = b % 2 ^ k.bits) : k.wrap a = k.wrap b := by
  unfold IntKind.wrap
  rw [h]
theorem or_high (k : IntKind) (i : Nat) (hi : i ≤ k.bits) (x y : Int) (h0 : 0 ≤ x) (h1 : x < 2 ^ i) (hy : y % 2 ^ i = 0) : bits .or k x y = k.wrap (x + y) := by
  have hp : (2 : Int) ^ k.bits = 2 ^ i * 2 ^ (k.bits - i) := by rw [← Int.pow_add]; congr 1; omega
  have hpos : (0 : Int) < 2 ^ k.bits := Int.pow_pos (by decide)
  obtain ⟨a, rfl⟩ := Int.eq_ofNat_of_zero_le h0
  have ha : a < 2 ^ i := by exact_mod_cast h1
  have hab : a < 2 ^ k.bits := Nat.lt_of_lt_of_le ha (Nat.pow_le_pow_right (by decide) hi)
  obtain ⟨b, hb⟩ := Int.eq_ofNat_of_zero_le (Int.emod_nonneg y (Int.ne_of_gt hpos))
  have hbm : (b : Int) % 2 ^ i = 0 := by
    rw [← hb, hp, Int.emod_emod_of_dvd _ (Int.dvd_mul_right _ _)]; exact hy
  have hbn : b % 2 ^ i = 0 := by exact_mod_cast hbm
  have hblt : b < 2 ^ k.bits := by
    have := Int.emod_lt_of_pos y hpos
    rw [hb] at this
    exact_mod_cast this
  have e1 : (BitVec.ofInt k.bits y).toNat = b := by
    rw [BitVec.toNat_ofInt]
    have : (y % ((2 ^ k.bits : Nat) : Int)) = b := by rw [← hb]; simp
    rw [this]
    rfl
  have e2 : (BitVec.ofInt k.bits (a : Int)).toNat = a := by
    rw [BitVec.ofInt_natCast, BitVec.toNat_ofNat]
    exact Nat.mod_eq_of_lt hab
  unfold bits
  simp only [BitVec.toNat_or, e1, e2]
  have hq : b = 2 ^ i * (b / 2 ^ i) := by
    have := Nat.div_add_mod b (2 ^ i)
    omega
  have e3 : a ||| b = a + b := by
    rw [Nat.or_comm, hq, ← Nat.two_pow_add_eq_or_of_lt ha (b / 2 ^ i)]
    omega
  rw [e3]
  apply wrap_same
  rw [Int.natCast_add, ← hb, Int.add_emod, Int.emod_emod_of_dvd _ (Int.dvd_refl _), ← Int.add_emod]
theorem wrap_i32' (n : Int) : IntKind.i32.wrap n = wrap32 n := by rw [IntKind.wrap_i32]; unfold wrap32; rfl
theorem wrap_i64' (n : Int) : IntKind.i64.wrap n = wrap64 n := by rw [IntKind.wrap_i64]; unfold wrap64; rfl
theorem u64_wrap (n : Int) : IntKind.u64.wrap n = n % 18446744073709551616 := by simp [IntKind.wrap, IntKind.bits, IntKind.signed]
theorem bits_or_comm (k : IntKind) (x y : Int) : bits .or k x y = bits .or k y x := by
  unfold bits
  simp only [BitVec.or_comm]

theorem mulN (x : Nat) : (x : Int) * 4294967296 = ((x * 4294967296 : Nat) : Int) := by rw [Int.natCast_mul]; rfl
theorem addN (x y : Nat) : (x : Int) + (y : Int) = ((x + y : Nat) : Int) := (Int.natCast_add x y).symm
theorem divN (x : Nat) : (x : Int) / 4294967296 = ((x / 4294967296 : Nat) : Int) := by rw [Int.natCast_ediv]; rfl
theorem tdivN (x d : Nat) : Int.tdiv (x : Int) (d : Int) = ((x / d : Nat) : Int) := rfl
theorem tmodN (x d : Nat) : Int.tmod (x : Int) (d : Int) = ((x % d : Nat) : Int) := rfl
theorem wN (x : Nat) (h : x < 18446744073709551616) : IntKind.u64.wrap (x : Int) = (x : Int) := by rw [u64_wrap]; omega
theorem maskN (x i m : Nat) (hx : x < 18446744073709551616) (hi : i < 64) (hm : m = 2 ^ i - 1) : bits .and .u64 (x : Int) (m : Int) = ((x % 2 ^ i : Nat) : Int) := by
  have h2 : m < 18446744073709551616 := by
    have : 2 ^ i ≤ 2 ^ 63 := Nat.pow_le_pow_right (by decide) (by omega)
    omega
  rw [u64_and_nat x m hx h2, hm, Nat.and_two_pow_sub_one_eq_mod]
theorem andN (x : Nat) (hx : x < 18446744073709551616) : bits .and .u64 (x : Int) 4294967295 = ((x % 4294967296 : Nat) : Int) := maskN x 32 4294967295 hx (by decide) rfl
theorem orN (y x : Nat) (hx : x < 4294967296) (hy : y % 4294967296 = 0) (hs : x + y < 18446744073709551616) : bits .or .u64 (y : Int) (x : Int) = ((y + x : Nat) : Int) := by
  rw [bits_or_comm, or_high .u64 32 (by decide) (x : Int) (y : Int) (by omega) (by show (x : Int) < 4294967296; omega) (by show (y : Int) % 4294967296 = 0; omega), addN, wN _ hs, Nat.add_comm]
/-- What two words of 64 bits say. -/
def num (h l : Nat) : Nat := h * 18446744073709551616 + l
theorem divmod_eq (h l : Nat) (hh : h < 18446744073709551616) (hl : l < 18446744073709551616) : decimal128_divmod.f h l 1000000000 = some (((num h l / 1000000000 / 18446744073709551616 : Nat) : Int), ((num h l / 1000000000 % 18446744073709551616 : Nat) : Int), ((num h l % 1000000000 : Nat) : Int)) := by
  have hd : IntKind.u64.wrap 1000000000 = ((1000000000 : Nat) : Int) := wN 1000000000 (by decide)
  obtain ⟨a, ha⟩ : ∃ a, a = h / 4294967296 := ⟨_, rfl⟩
  obtain ⟨b, hb⟩ : ∃ b, b = a % 1000000000 * 4294967296 + h % 4294967296 := ⟨_, rfl⟩
  obtain ⟨c, hc⟩ : ∃ c, c = b % 1000000000 * 4294967296 + l / 4294967296 := ⟨_, rfl⟩
  obtain ⟨e, he⟩ : ∃ e, e = c % 1000000000 * 4294967296 + l % 4294967296 := ⟨_, rfl⟩
  have e1 : IntKind.u64.wrap (IntKind.u64.wrap ((a % 1000000000 * 4294967296 : Nat) : Int) + ((h % 4294967296 : Nat) : Int)) = (b : Int) := by rw [wN _ (by omega), addN, ← hb, wN _ (by omega)]
  have e2 : IntKind.u64.wrap (IntKind.u64.wrap ((b % 1000000000 * 4294967296 : Nat) : Int) + ((l / 4294967296 : Nat) : Int)) = (c : Int) := by rw [wN _ (by omega), addN, ← hc, wN _ (by omega)]
  have e3 : IntKind.u64.wrap (IntKind.u64.wrap ((c % 1000000000 * 4294967296 : Nat) : Int) + ((l % 4294967296 : Nat) : Int)) = (e : Int) := by rw [wN _ (by omega), addN, ← he, wN _ (by omega)]
  unfold decimal128_divmod.f
  rw [hd, if_neg (by decide)]
  simp only [divN, tmodN, tdivN, mulN, andN h hh, andN l hl, ← ha, e1, e2, e3]
  rw [wN (a / 1000000000) (by omega), wN (b / 1000000000) (by omega), wN (c / 1000000000) (by omega), wN (e / 1000000000) (by omega), mulN, mulN, wN _ (by omega), wN _ (by omega), orN _ _ (by omega) (by omega) (by omega), orN _ _ (by omega) (by omega) (by omega)]
  have f1 : num h l / 1000000000 = (a / 1000000000 * 4294967296 + b / 1000000000) * 18446744073709551616 + (c / 1000000000 * 4294967296 + e / 1000000000) := by unfold num; omega
  have f2 : num h l % 1000000000 = e % 1000000000 := by unfold num; omega
  have f3 : c / 1000000000 * 4294967296 + e / 1000000000 < 18446744073709551616 := by omega
  rw [f1, f2]
  refine congrArg some (Prod.ext ?_ (Prod.ext ?_ ?_))
  · show ((_ : Nat) : Int) = ((_ : Nat) : Int)
    congr 1
    omega
  · show ((_ : Nat) : Int) = ((_ : Nat) : Int)
    congr 1
    omega
  · show ((_ : Nat) : Int) % 4294967296 = ((_ : Nat) : Int)
    omega
theorem tenth_eq (h l : Nat) (hh : h < 18446744073709551616) (hl : l < 18446744073709551616) : spec_decTenth.f h l = some (((num h l / 10 / 18446744073709551616 : Nat) : Int), ((num h l / 10 % 18446744073709551616 : Nat) : Int), ((num h l % 10 : Nat) : Int)) := by
  obtain ⟨a, ha⟩ : ∃ a, a = h / 4294967296 := ⟨_, rfl⟩
  obtain ⟨b, hb⟩ : ∃ b, b = a % 10 * 4294967296 + h % 4294967296 := ⟨_, rfl⟩
  obtain ⟨c, hc⟩ : ∃ c, c = b % 10 * 4294967296 + l / 4294967296 := ⟨_, rfl⟩
  obtain ⟨e, he⟩ : ∃ e, e = c % 10 * 4294967296 + l % 4294967296 := ⟨_, rfl⟩
  have t10 : ∀ x : Nat, (x : Int).tmod 10 = ((x % 10 : Nat) : Int) := fun x => tmodN x 10
  have d10 : ∀ x : Nat, (x : Int).tdiv 10 = ((x / 10 : Nat) : Int) := fun x => tdivN x 10
  have e0 : bits .or .u64 0 (a : Int) = (a : Int) := by have := orN 0 a (by omega) (by omega) (by omega); simpa using this
  have e1 : spec_decTenth.n ((a % 10 : Nat) : Int) ((h % 4294967296 : Nat) : Int) = (b : Int) := by unfold spec_decTenth.n; rw [mulN, wN _ (by omega), orN _ _ (by omega) (by omega) (by omega), ← hb]
  have e2 : spec_decTenth.n ((b % 10 : Nat) : Int) ((l / 4294967296 : Nat) : Int) = (c : Int) := by unfold spec_decTenth.n; rw [mulN, wN _ (by omega), orN _ _ (by omega) (by omega) (by omega), ← hc]
  have e3 : spec_decTenth.n ((c % 10 : Nat) : Int) ((l % 4294967296 : Nat) : Int) = (e : Int) := by unfold spec_decTenth.n; rw [mulN, wN _ (by omega), orN _ _ (by omega) (by omega) (by omega), ← he]
  unfold spec_decTenth.f
  simp only [divN, ← ha, e0, t10, d10, andN h hh, andN l hl, e1, e2, e3]
  rw [wN (a / 10) (by omega), wN (b / 10) (by omega), wN (c / 10) (by omega), wN (e / 10) (by omega), mulN, mulN, wN _ (by omega), wN _ (by omega), orN _ _ (by omega) (by omega) (by omega), orN _ _ (by omega) (by omega) (by omega)]
  have f1 : num h l / 10 = (a / 10 * 4294967296 + b / 10) * 18446744073709551616 + (c / 10 * 4294967296 + e / 10) := by unfold num; omega
  have f2 : num h l % 10 = e % 10 := by unfold num; omega
  have f3 : c / 10 * 4294967296 + e / 10 < 18446744073709551616 := by omega
  rw [f1, f2]
  refine congrArg some (Prod.ext ?_ (Prod.ext ?_ ?_))
  · show ((_ : Nat) : Int) = ((_ : Nat) : Int)
    congr 1
    omega
  · show ((_ : Nat) : Int) = ((_ : Nat) : Int)
    congr 1
    omega
  · show IntKind.u8.wrap ((_ : Nat) : Int) = ((_ : Nat) : Int)
    rw [IntKind.wrap_u8]
    omega

/-- The decimal digits as bytes. -/
def digs (n : Nat) : List Int := (Lib.decDigits n).map fun b => (b.toNat : Int)
theorem digs_lt {n : Nat} (h : n < 10) : digs n = [48 + (n : Int)] := by
  unfold digs
  rw [Lib.decDigits_one h]
  simp only [List.map_cons, List.map_nil, List.cons.injEq, and_true]
  have : (UInt8.ofNat (48 + n)).toNat = 48 + n := by rw [UInt8.toNat_ofNat']; omega
  rw [this]
  omega
theorem digs_ge {n : Nat} (h : ¬ n < 10) : digs n = digs (n / 10) ++ [48 + ((n % 10 : Nat) : Int)] := by
  unfold digs
  rw [Lib.decDigits, dif_neg h, List.map_append]
  simp only [List.map_cons, List.map_nil]
  have : (UInt8.ofNat (48 + n % 10)).toNat = 48 + n % 10 := by rw [UInt8.toNat_ofNat']; omega
  rw [this]
  simp
theorem digs_str (n : Nat) : strOfNums (digs n) = ⟨(Lib.decDigits n).toArray⟩ := by
  apply ByteArray.ext
  apply Array.ext'
  show (digs n).map (fun n => UInt8.ofNat n.toNat) = Lib.decDigits n
  unfold digs
  rw [List.map_map]
  have : ((fun n : Int => UInt8.ofNat n.toNat) ∘ fun b : UInt8 => (b.toNat : Int)) = id := by
    funext b
    simp
  rw [this, List.map_id]
theorem digs_pos (n : Nat) : 1 ≤ (digs n).length := by
  by_cases h : n < 10
  · rw [digs_lt h]; exact Nat.le_refl 1
  · rw [digs_ge h, List.length_append, List.length_singleton]; omega
theorem digs_len : ∀ (k n : Nat), n < 10 ^ (k + 1) → (digs n).length ≤ k + 1
  | 0, n, h => by rw [digs_lt (by simpa using h)]; exact Nat.le_refl 1
  | k + 1, n, h => by
    by_cases h9 : n < 10
    · rw [digs_lt h9]; show 1 ≤ k + 1 + 1; omega
    · rw [digs_ge h9, List.length_append, List.length_singleton]
      have := digs_len k (n / 10) (by rw [Nat.pow_succ] at h; omega)
      omega
/-- The digits of a number, none for 0. -/
def digz (n : Nat) : List Int := if n = 0 then [] else digs n
theorem digz_step {n : Nat} (h : n ≠ 0) : digz n = digz (n / 10) ++ [48 + ((n % 10 : Nat) : Int)] := by
  unfold digz
  rw [if_neg h]
  by_cases h9 : n < 10
  · rw [digs_lt h9, if_pos (by omega), Nat.mod_eq_of_lt h9]; rfl
  · rw [digs_ge h9, if_neg (by omega)]
theorem dd_l0 (n : Nat) : n < 340282366920938463463374607431768211456 → ∀ acc : List Int, acc.length + (digz n).length < 140737488355328 → Ev (fun k => spec_decDigits.l0 k ((n / 18446744073709551616 : Nat) : Int) ((n % 18446744073709551616 : Nat) : Int) acc) (strOfNums (digz n ++ acc)) := by
  induction n using Nat.strongRecOn with
  | _ n ih =>
    intro hn acc hl
    obtain ⟨h, hh⟩ : ∃ h, h = n / 18446744073709551616 := ⟨_, rfl⟩
    obtain ⟨l, hll⟩ : ∃ l, l = n % 18446744073709551616 := ⟨_, rfl⟩
    rw [← hh, ← hll]
    have hnum : num h l = n := by unfold num; omega
    by_cases h0 : n = 0
    · have e1 : h = 0 := by omega
      have e2 : l = 0 := by omega
      subst e1; subst e2
      refine ⟨2, fun k hk => ?_⟩
      obtain ⟨k, rfl⟩ : ∃ j, k = j + 2 := ⟨k - 2, by omega⟩
      simp [spec_decDigits.l0, spec_decDigits.j2, digz, h0]
    · have hstep := digz_step h0
      have hi := ih (n / 10) (by omega) (by omega) ((48 + ((n % 10 : Nat) : Int)) :: acc) (by rw [hstep] at hl; simp only [List.length_append, List.length_cons, List.length_nil] at hl ⊢; omega)
      obtain ⟨K, hK⟩ := hi
      refine ⟨K + 2, fun k hk => ?_⟩
      obtain ⟨k, rfl⟩ : ∃ j, k = j + 2 := ⟨k - 2, by omega⟩
      have hb : spec_decDigits.l0 (k + 2) (h : Int) (l : Int) acc = spec_decDigits.j2 (k + 1) (h : Int) (l : Int) acc true := by
        simp only [spec_decDigits.l0]
        by_cases hz : (h : Int) = 0
        · rw [if_pos hz]
          have : ((l : Int) != 0) = true := bne_iff_ne.mpr (by omega)
          rw [this]
        · rw [if_neg hz]
      show spec_decDigits.l0 (k + 2) (h : Int) (l : Int) acc = _
      rw [hb]
      simp only [spec_decDigits.j2]
      rw [if_pos trivial, tenth_eq h l (by omega) (by omega), hnum, Option.bind_some, Option.bind_some]
      have hc : (48 + ((n % 10 : Nat) : Int)) % 256 = 48 + ((n % 10 : Nat) : Int) := by omega
      rw [hc, if_pos (by rw [hstep] at hl; simp only [List.length_append, List.length_cons, List.length_nil] at hl ⊢; omega)]
      have := hK k (by omega)
      rw [hstep, List.append_assoc]
      exact this
theorem digz_len : ∀ (k n : Nat), n < 10 ^ (k + 1) → (digz n).length ≤ k + 1 := fun k n h => by
  unfold digz
  split
  · exact Nat.zero_le _
  · exact digs_len k n h
theorem dd_ev (h l : Nat) (hh : h < 18446744073709551616) (hl : l < 18446744073709551616) : Ev (fun k => spec_decDigits.f k (h : Int) (l : Int)) (strOfNums (digs (num h l))) := by
  by_cases h0 : num h l = 0
  · have e1 : h = 0 := by unfold num at h0; omega
    have e2 : l = 0 := by unfold num at h0; omega
    subst e1; subst e2
    refine ⟨1, fun k hk => ?_⟩
    obtain ⟨k, rfl⟩ : ∃ j, k = j + 1 := ⟨k - 1, by omega⟩
    rw [h0, digs_lt (by decide)]
    simp [spec_decDigits.f, spec_decDigits.j0, strOfNums]
  · have hb : num h l < 340282366920938463463374607431768211456 := by unfold num; omega
    obtain ⟨K, hK⟩ := dd_l0 (num h l) hb [] (by have := digz_len 38 (num h l) (Nat.lt_of_lt_of_le hb (by decide)); simp only [List.length_nil]; omega)
    have q1 : num h l / 18446744073709551616 = h := by unfold num; omega
    have q2 : num h l % 18446744073709551616 = l := by unfold num; omega
    rw [q1, q2, List.append_nil] at hK
    have hz : digz (num h l) = digs (num h l) := by unfold digz; rw [if_neg h0]
    rw [hz] at hK
    refine ⟨K + 1, fun k hk => ?_⟩
    obtain ⟨k, rfl⟩ : ∃ j, k = j + 1 := ⟨k - 1, by omega⟩
    have hj : spec_decDigits.f (k + 1) (h : Int) (l : Int) = spec_decDigits.l0 k (h : Int) (l : Int) [] := by
      unfold spec_decDigits.f
      by_cases hz : (h : Int) = 0
      · rw [if_pos hz]
        have : ((l : Int) == 0) = false := beq_eq_false_iff_ne.mpr (by unfold num at h0; omega)
        rw [this]
        simp [spec_decDigits.j0]
      · rw [if_neg hz]
        simp [spec_decDigits.j0]
    show spec_decDigits.f (k + 1) (h : Int) (l : Int) = _
    rw [hj]
    exact hK k (by omega)

/-- A state of the loops without its machine numbers: the exponent, the last place, the first place in use, the point's place, what is left of the coefficient, the text so far. -/
structure A where
  e : Int
  last : Int
  i : Int
  dot : Int
  R : Nat
  T : List Int
def A.point (x : A) : Bool := decide (x.i < 48) && ((x.dot == x.i) || (decide (0 < x.R) && decide (x.R < 10) && (decide (x.dot < x.i - 6) || decide (x.e > 0))))
def A.dotted (x : A) : A := if x.point = true then { x with e := x.e + (48 - x.i), i := x.i - 1, last := x.i - 2, dot := 48, T := 46 :: x.T } else x
def A.digit (x : A) : A := { x with R := x.R / 10, i := x.i - 1, T := (48 + ((x.R % 10 : Nat) : Int)) :: x.T }
def A.lone (x : A) : Bool := (x.R == 0) && (x.i == 47) && (decide (x.dot < x.i - 5) || decide (x.e > 0))
def A.full (x : A) : Bool := decide (x.dot > x.i) && (x.R == 0)
def A.after (c : Int) (x : A) : A × Bool := if x.lone = true then ({ x with last := x.i }, true) else (if (c != 48) = true then { x with last := x.i } else x, x.full)
def A.step (x : A) : A × Bool := A.after (48 + ((x.dotted.R % 10 : Nat) : Int)) x.dotted.digit
structure A.Bnd (x : A) : Prop where
  i0 : 3 ≤ x.i
  i1 : x.i ≤ 48
  e0 : -20000 ≤ x.e
  e1 : x.e ≤ 20000
  d0 : -20000 ≤ x.dot
  d1 : x.dot ≤ 20000
/-- The run from a state to its end. -/
inductive St : Nat → A → A → Prop
  | stop {x y : A} : x.Bnd → x.step = (y, true) → St 1 x y
  | next {n : Nat} {x y z : A} : x.Bnd → x.step = (y, false) → St n y z → St (n + 1) x z
/-- What is left of the coefficient, as the loops have it: m of nine digits are still to be written. -/
structure Hold (m : Nat) (s : DSt) (R : Nat) : Prop where
  ex : ∃ Q r : Nat, R = Q * 10 ^ m + r ∧ r < 10 ^ m ∧ Q < 340282366920938463463374607431768211456 ∧ s.hi = ((Q / 18446744073709551616 : Nat) : Int) ∧ s.lo = ((Q % 18446744073709551616 : Nat) : Int) ∧ s.rem = (r : Int)
structure Sim (m : Nat) (s : DSt) (x : A) : Prop where
  he : s.exp = x.e
  hl : s.last = x.last
  hi : s.i = x.i
  hd : s.dot = x.dot
  hR : Hold m s x.R
  len : s.row.length = 48
  row : s.row.drop x.i.toNat = x.T
theorem w_id {x : Int} (h0 : -100000 ≤ x) (h1 : x ≤ 100000) : wrap64 x = x := by unfold wrap64; omega
theorem set_drop {l : List Int} {j : Nat} (v : Int) (h : j < l.length) : (l.set j v).drop j = v :: l.drop (j + 1) := by
  rw [List.drop_eq_getElem_cons (by simpa using h), List.getElem_set_self]
  congr 1
  apply List.ext_getElem?
  intro k
  rw [List.getElem?_drop, List.getElem?_drop, List.getElem?_set_ne (by omega)]
/-- Whether nothing is left, and whether one digit is. -/
theorem hold_zero {m : Nat} {s : DSt} {R : Nat} (h : Hold m s R) : ((s.lo == 0) && (s.hi == 0) && (s.rem == 0)) = (R == 0) := by
  obtain ⟨Q, r, hR, hr, hQ, h1, h2, h3⟩ := h.ex
  rw [h1, h2, h3]
  have hp : 0 < 10 ^ m := Nat.pow_pos (by decide)
  by_cases hz : R = 0
  · have hr0 : r = 0 := by omega
    have hq0 : Q = 0 := by
      rcases Nat.eq_zero_or_pos Q with h | h
      · exact h
      · have := Nat.mul_pos h hp; omega
    subst hr0; subst hq0; subst hz
    rfl
  · have : (R == 0) = false := beq_eq_false_iff_ne.mpr hz
    rw [this]
    rw [Bool.eq_false_iff]
    intro hb
    simp only [Bool.and_eq_true, beq_iff_eq] at hb
    obtain ⟨⟨a, b⟩, c⟩ := hb
    have q0 : Q = 0 := by omega
    have r0 : r = 0 := by omega
    subst q0; subst r0
    simp at hR
    exact hz hR
theorem hold_one {m : Nat} {s : DSt} {R : Nat} (h : Hold (m + 1) s R) : ((s.lo == 0) && (s.hi == 0) && decide (s.rem > 0) && decide (s.rem < 10)) = (decide (0 < R) && decide (R < 10)) := by
  obtain ⟨Q, r, hR, hr, hQ, h1, h2, h3⟩ := h.ex
  rw [h1, h2, h3]
  have hp : 10 ≤ 10 ^ (m + 1) := by rw [Nat.pow_succ]; have : 1 ≤ 10 ^ m := Nat.one_le_pow _ _ (by decide); omega
  by_cases hq : Q = 0
  · subst hq
    have : R = r := by omega
    subst this
    simp only [Nat.zero_div, Nat.zero_mod]
    rw [show ((((0 : Nat) : Int) == 0) && (((0 : Nat) : Int) == 0)) = true by decide, Bool.true_and]
    congr 1
    · exact decide_eq_decide.mpr (by omega)
    · exact decide_eq_decide.mpr (by omega)
  · have h10 : ¬ R < 10 := by
      have : 1 * 10 ^ (m + 1) ≤ Q * 10 ^ (m + 1) := Nat.mul_le_mul_right _ (by omega)
      omega
    rw [show decide (R < 10) = false from decide_eq_false h10, Bool.and_false, Bool.eq_false_iff]
    intro hb
    simp only [Bool.and_eq_true, beq_iff_eq] at hb
    obtain ⟨⟨⟨a, b⟩, _⟩, _⟩ := hb
    omega
theorem hold_digit {m : Nat} {s : DSt} {R : Nat} (h : Hold (m + 1) s R) : s.c = 48 + ((R % 10 : Nat) : Int) ∧ ∀ (s' : DSt), s'.hi = s.hi → s'.lo = s.lo → s'.rem = s.rem.tdiv 10 % 4294967296 → s.rem < 4294967296 → Hold m s' (R / 10) := by
  obtain ⟨Q, r, hR, hr, hQ, h1, h2, h3⟩ := h.ex
  have hp : 10 ^ (m + 1) = 10 ^ m * 10 := Nat.pow_succ _ _
  have hd : R = (Q * 10 ^ m) * 10 + r := by rw [hR, hp, Nat.mul_assoc]
  refine ⟨?_, fun s' e1 e2 e3 e4 => ⟨Q, r / 10, ?_, ?_, hQ, e1.trans h1, e2.trans h2, ?_⟩⟩
  · unfold DSt.c
    rw [h3, show (10 : Int) = ((10 : Nat) : Int) from rfl, tmodN]
    have : R % 10 = r % 10 := by omega
    rw [this]
    omega
  · omega
  · rw [hp] at hr; omega
  · rw [e3, h3, show (10 : Int) = ((10 : Nat) : Int) from rfl, tdivN]
    rw [h3] at e4
    omega
theorem sim_step {m : Nat} (hm : m < 9) {s : DSt} {x y : A} {b : Bool} (h : Sim (m + 1) s x) (hb : x.Bnd) (hs : x.step = (y, b)) : ∃ s', s.round = some (s', b) ∧ Sim m s' y := by
  obtain ⟨i0, i1, e0, e1, d0, d1⟩ := hb
  have hrem : s.rem < 4294967296 := by
    obtain ⟨Q, r, hR, hr, hQ, h1, h2, h3⟩ := h.hR.ex
    have : 10 ^ (m + 1) ≤ 10 ^ 9 := Nat.pow_le_pow_right (by decide) (by omega)
    rw [h3]; omega
  have hpt : s.point = x.point := by
    unfold DSt.point A.point
    rw [hold_one h.hR, h.hi, h.hd, h.he, w_id (by omega) (by omega)]
  -- the point
  obtain ⟨s1, hs1, f1, f2, f3, f4, f5, f6, f7, f8, f9⟩ : ∃ s1, s.dotted = some s1 ∧ s1.exp = x.dotted.e ∧ s1.last = x.dotted.last ∧ s1.i = x.dotted.i ∧ s1.dot = x.dotted.dot ∧ s1.hi = s.hi ∧ s1.lo = s.lo ∧ s1.rem = s.rem ∧ s1.row.length = 48 ∧ s1.row.drop x.dotted.i.toNat = x.dotted.T := by
    unfold DSt.dotted A.dotted
    rw [hpt]
    by_cases hp : x.point = true
    · rw [if_pos hp, if_pos hp]
      have hw : wrap64 (s.i - 1) = x.i - 1 := by rw [h.hi, w_id (by omega) (by omega)]
      unfold DSt.put
      rw [hw, if_pos (show 0 ≤ x.i - 1 ∧ x.i - 1 < 48 from ⟨by omega, by omega⟩)]
      refine ⟨_, rfl, ?_, ?_, rfl, rfl, rfl, rfl, rfl, ?_, ?_⟩
      · show wrap64 (s.exp + wrap64 (48 - s.i)) = x.e + (48 - x.i)
        rw [h.he, h.hi, w_id (x := 48 - x.i) (by omega) (by omega), w_id (by omega) (by omega)]
      · show wrap64 (x.i - 1 - 1) = x.i - 2
        rw [w_id (by omega) (by omega)]; omega
      · show (s.row.set _ _).length = 48
        rw [List.length_set]; exact h.len
      · show (s.row.set (x.i - 1).toNat 46).drop (x.i - 1).toNat = 46 :: x.T
        rw [set_drop _ (by rw [h.len]; omega), ← h.row]
        congr 2
        omega
    · rw [if_neg hp, if_neg hp]
      exact ⟨s, rfl, h.he, h.hl, h.hi, h.hd, rfl, rfl, rfl, h.len, h.row⟩
  have hRx : x.dotted.R = x.R := by unfold A.dotted; split <;> rfl
  have hib : 2 ≤ x.dotted.i ∧ x.dotted.i ≤ 48 ∧ -30000 ≤ x.dotted.e ∧ x.dotted.e ≤ 30000 ∧ -30000 ≤ x.dotted.dot ∧ x.dotted.dot ≤ 30000 := by
    unfold A.dotted; split
    · exact ⟨by show 2 ≤ x.i - 1; omega, by show x.i - 1 ≤ 48; omega, by show -30000 ≤ x.e + (48 - x.i); omega, by show x.e + (48 - x.i) ≤ 30000; omega, by show (-30000 : Int) ≤ 48; decide, by show (48 : Int) ≤ 30000; decide⟩
    · exact ⟨by omega, i1, by omega, by omega, by omega, by omega⟩
  have hR1 : Hold (m + 1) s1 x.dotted.R := by
    obtain ⟨Q, r, a1, a2, a3, a4, a5, a6⟩ := h.hR.ex
    rw [hRx]
    exact ⟨Q, r, a1, a2, a3, f5.trans a4, f6.trans a5, f7.trans a6⟩
  obtain ⟨hc, hnext⟩ := hold_digit hR1
  have hst : A.after (48 + ((x.dotted.R % 10 : Nat) : Int)) x.dotted.digit = (y, b) := hs
  clear hs hpt
  generalize x.dotted = X at *
  obtain ⟨g0, g1, g2, g3, g4, g5⟩ := hib
  -- the digit
  have hw : wrap64 (s1.i - 1) = X.i - 1 := by rw [f3, w_id (by omega) (by omega)]
  obtain ⟨s2, hs2, k1, k2, k3, k4, k5, k6, k7⟩ : ∃ s2, s1.digit = some s2 ∧ s2.exp = X.e ∧ s2.last = X.last ∧ s2.i = X.i - 1 ∧ s2.dot = X.dot ∧ Hold m s2 (X.R / 10) ∧ s2.row.length = 48 ∧ s2.row.drop (X.i - 1).toNat = (48 + ((X.R % 10 : Nat) : Int)) :: X.T := by
    unfold DSt.digit DSt.put
    rw [hw, if_pos (show 0 ≤ X.i - 1 ∧ X.i - 1 < 48 from ⟨by omega, by omega⟩)]
    refine ⟨_, rfl, f1, f2, rfl, f4, hnext _ rfl rfl rfl (by rw [f7]; exact hrem), ?_, ?_⟩
    · show (s1.row.set _ _).length = 48
      rw [List.length_set]; exact f8
    · show (s1.row.set (X.i - 1).toNat s1.c).drop (X.i - 1).toNat = _
      rw [set_drop _ (by rw [f8]; omega), hc, ← f9]
      congr 2
      omega
  -- behind it
  have hlo : s2.lone = X.digit.lone := by
    unfold DSt.lone A.lone
    rw [hold_zero k5, k3, k4, k1, w_id (by omega) (by omega)]
    rfl
  have hfu : s2.full = X.digit.full := by
    unfold DSt.full A.full
    rw [k3, k4, Bool.and_assoc, Bool.and_assoc, ← Bool.and_assoc (s2.lo == 0), hold_zero k5]
    rfl
  unfold DSt.round
  rw [hs1, Option.bind_some, hs2, Option.map_some]
  unfold DSt.after
  unfold A.after at hst
  rw [hlo]
  by_cases hl : X.digit.lone = true
  · rw [if_pos hl] at hst ⊢
    obtain ⟨rfl, rfl⟩ := Prod.mk.inj hst
    exact ⟨_, rfl, ⟨k1, k3, k3, k4, ⟨k5.ex⟩, k6, k7⟩⟩
  · rw [if_neg hl] at hst ⊢
    obtain ⟨rfl, rfl⟩ := Prod.mk.inj hst
    rw [hc, hfu]
    refine ⟨_, rfl, ?_⟩
    by_cases h48 : (48 + ((X.R % 10 : Nat) : Int) != 48) = true
    · rw [if_pos h48, if_pos h48]
      exact ⟨k1, k3, k3, k4, ⟨k5.ex⟩, k6, k7⟩
    · rw [if_neg h48, if_neg h48]
      exact ⟨k1, k2, k3, k4, k5, k6, k7⟩
/-- The loops from a state inside. -/
def run (k m : Nat) (s : DSt) : Option DSt := (DSt.inner m s).bind fun r => if r.2 = true then some r.1 else DSt.outer k r.1
theorem run_zero (k : Nat) (s : DSt) : run k 0 s = DSt.outer k s := rfl
theorem run_succ {k m : Nat} {s s' : DSt} {b : Bool} (h : s.round = some (s', b)) : run k (m + 1) s = if b = true then some s' else run k m s' := by
  unfold run
  simp only [DSt.inner]
  rw [h, Option.bind_some]
  cases b <;> simp
theorem outer_succ {k : Nat} {s : DSt} {x : A} (h : Sim 0 s x) : ∃ s', DSt.outer (k + 1) s = run k 9 s' ∧ Sim 9 s' x := by
  obtain ⟨Q, r, hR, hr, hQ, h1, h2, h3⟩ := h.hR.ex
  have hd := divmod_eq (Q / 18446744073709551616) (Q % 18446744073709551616) (by omega) (by omega)
  have hn : num (Q / 18446744073709551616) (Q % 18446744073709551616) = Q := by unfold num; omega
  rw [hn, ← h1, ← h2] at hd
  simp only [DSt.outer]
  rw [hd, Option.bind_some]
  refine ⟨_, rfl, ⟨h.he, h.hl, h.hi, h.hd, ⟨⟨Q / 1000000000, Q % 1000000000, ?_, ?_, ?_, rfl, rfl, rfl⟩⟩, h.len, h.row⟩⟩
  · simp only [Nat.pow_zero, Nat.mul_one] at hR hr
    omega
  · omega
  · omega
theorem run_of {n : Nat} {x z : A} (h : St n x z) : ∀ (k m : Nat) (s : DSt), m ≤ 9 → Sim m s x → n ≤ 9 * k + m → ∃ s' m', run k m s = some s' ∧ Sim m' s' z := by
  induction h with
  | @stop x y hb hs =>
    have key : ∀ (k m : Nat) (s : DSt), m < 9 → Sim (m + 1) s x → ∃ s' m', run k (m + 1) s = some s' ∧ Sim m' s' y := fun k m s hm hsim => by
      obtain ⟨s', h1, h2⟩ := sim_step hm hsim hb hs
      exact ⟨s', m, by rw [run_succ h1]; rfl, h2⟩
    intro k m s hm hsim hn
    cases m with
    | succ m => exact key k m s (by omega) hsim
    | zero =>
      cases k with
      | zero => omega
      | succ k =>
        obtain ⟨s', h1, h2⟩ := outer_succ (k := k) hsim
        rw [run_zero, h1]
        exact key k 8 s' (by omega) h2
  | @next n x y z hb hs _ ih =>
    have key : ∀ (k m : Nat) (s : DSt), m < 9 → Sim (m + 1) s x → n ≤ 9 * k + m → ∃ s' m', run k (m + 1) s = some s' ∧ Sim m' s' z := fun k m s hm hsim hn => by
      obtain ⟨s', h1, h2⟩ := sim_step hm hsim hb hs
      obtain ⟨s2, m2, h3, h4⟩ := ih k m s' (by omega) h2 hn
      exact ⟨s2, m2, by rw [run_succ h1]; exact h3, h4⟩
    intro k m s hm hsim hn
    cases m with
    | succ m => exact key k m s (by omega) hsim (by omega)
    | zero =>
      cases k with
      | zero => omega
      | succ k =>
        obtain ⟨s', h1, h2⟩ := outer_succ (k := k) hsim
        rw [run_zero, h1]
        exact key k 8 s' (by omega) h2 (by omega)

/-- What stands ahead when the last place is in place. -/
theorem digs_split (n : Nat) : ∃ d r, digs n = d :: r := by
  have := digs_pos n
  cases h : digs n with
  | nil => rw [h] at this; simp at this
  | cons d r => exact ⟨d, r, rfl⟩
/-- Digits without a point. -/
theorem phase_plain : ∀ (n : Nat) (x : A), x.R = n → 0 < n → x.dot = 48 → x.e ≤ 0 → -20000 ≤ x.e → x.i ≤ 48 → (digs n).length + 2 ≤ x.i →
    ∃ z, St (digs n).length x z ∧ z.e = x.e ∧ z.i = x.i - ((digs n).length : Int) ∧ z.last = z.i ∧ z.T = digs n ++ x.T := by
  intro n
  induction n using Nat.strongRecOn with
  | _ n ih =>
    intro x hR hn hd he he0 hi hl
    have hp : x.point = false := by
      unfold A.point
      rw [hd]
      by_cases h48 : x.i < 48
      · have a1 : ((48 : Int) == x.i) = false := beq_eq_false_iff_ne.mpr (by omega)
        have a2 : decide ((48 : Int) < x.i - 6) = false := decide_eq_false (by omega)
        have a3 : decide (x.e > 0) = false := decide_eq_false (by omega)
        rw [a1, a2, a3]
        simp
      · rw [decide_eq_false h48]; rfl
    have hdt : x.dotted = x := by unfold A.dotted; rw [hp]; rfl
    have hb : x.Bnd := ⟨by have := digs_pos n; omega, hi, he0, by omega, by omega, by omega⟩
    have hlone : x.digit.lone = false := by
      unfold A.lone A.digit
      show ((x.R / 10 == 0) && (x.i - 1 == 47) && (decide (x.dot < x.i - 1 - 5) || decide (x.e > 0))) = false
      have a2 : decide (x.dot < x.i - 1 - 5) = false := decide_eq_false (by omega)
      have a3 : decide (x.e > 0) = false := decide_eq_false (by omega)
      rw [a2, a3]
      simp
    have hs : x.step = (if (48 + ((x.R % 10 : Nat) : Int) != 48) = true then { x.digit with last := x.digit.i } else x.digit, x.digit.full) := by
      unfold A.step A.after
      rw [hdt, hlone]
      rfl
    by_cases h10 : n < 10
    · have hlen : (digs n).length = 1 := by rw [digs_lt h10]; rfl
      have hf : x.digit.full = true := by
        unfold A.full A.digit
        show (decide (x.dot > x.i - 1) && (x.R / 10 == 0)) = true
        rw [decide_eq_true (by omega), hR, Nat.div_eq_of_lt h10]; rfl
      have hne : (48 + ((x.R % 10 : Nat) : Int) != 48) = true := bne_iff_ne.mpr (by rw [hR]; omega)
      rw [hf, if_pos hne] at hs
      refine ⟨{ x.digit with last := x.digit.i }, by rw [hlen]; exact St.stop hb hs, rfl, ?_, rfl, ?_⟩
      · rw [hlen]; rfl
      · show (48 + ((x.R % 10 : Nat) : Int)) :: x.T = _
        rw [digs_lt h10, hR, Nat.mod_eq_of_lt h10]; rfl
    · have hlen : (digs n).length = (digs (n / 10)).length + 1 := by rw [digs_ge h10, List.length_append]; rfl
      have hf : x.digit.full = false := by
        unfold A.full A.digit
        show (decide (x.dot > x.i - 1) && (x.R / 10 == 0)) = false
        have : (x.R / 10 == 0) = false := beq_eq_false_iff_ne.mpr (by rw [hR]; omega)
        rw [this]; simp
      rw [hf] at hs
      obtain ⟨y, hy⟩ : ∃ y, y = (if (48 + ((x.R % 10 : Nat) : Int) != 48) = true then { x.digit with last := x.digit.i } else x.digit) := ⟨_, rfl⟩
      rw [← hy] at hs
      have y1 : y.R = n / 10 ∧ y.dot = x.dot ∧ y.e = x.e ∧ y.i = x.i - 1 ∧ y.T = (48 + ((x.R % 10 : Nat) : Int)) :: x.T := by
        rw [hy]; split <;> exact ⟨by show x.R / 10 = _; rw [hR], rfl, rfl, rfl, rfl⟩
      obtain ⟨q1, q2, q3, q4, q5⟩ := y1
      obtain ⟨z, c1, c2, c3, c4, c5⟩ := ih (n / 10) (by omega) y q1 (by omega) (q2.trans hd) (by omega) (by omega) (by omega) (by omega)
      refine ⟨z, by rw [hlen]; exact St.next hb hs c1, c2.trans q3, by omega, c4, ?_⟩
      rw [c5, q5, digs_ge h10, hR]
      simp
/-- Digits with a point behind the first one: the exponent's form. -/
theorem phase_exp : ∀ (n : Nat) (x : A), x.R = n → 0 < n → x.i < 48 → x.i ≠ x.dot → (x.e > 0 ∧ x.dot > 48 ∨ x.dot + 6 + (digs n).length ≤ x.i) → -10000 ≤ x.e → x.e ≤ 15000 → -20000 ≤ x.dot → x.dot ≤ 20000 → (digs n).length + 3 ≤ x.i →
    ∃ z d r, digs n = d :: r ∧ St (digs n).length x z ∧ z.e = x.e + (48 - x.i) + (digs n).length - 1 ∧ z.i = x.i - ((digs n).length : Int) - 1 ∧ z.last = z.i ∧ z.T = d :: 46 :: (r ++ x.T) := by
  intro n
  induction n using Nat.strongRecOn with
  | _ n ih =>
    intro x hR hn hi hne hc he0 he1 hd0 hd1 hl
    have hb : x.Bnd := ⟨by have := digs_pos n; omega, by omega, by omega, by omega, hd0, hd1⟩
    have a1 : (x.dot == x.i) = false := beq_eq_false_iff_ne.mpr (Ne.symm hne)
    by_cases h10 : n < 10
    · have hlen : (digs n).length = 1 := by rw [digs_lt h10]; rfl
      have hp : x.point = true := by
        unfold A.point
        rw [decide_eq_true hi, a1, decide_eq_true (show 0 < x.R by omega), decide_eq_true (show x.R < 10 by omega)]
        rcases hc with ⟨h1, _⟩ | h1
        · rw [decide_eq_true h1]; simp
        · rw [decide_eq_true (show x.dot < x.i - 6 by omega)]; simp
      have hdt : x.dotted = { x with e := x.e + (48 - x.i), i := x.i - 1, last := x.i - 2, dot := 48, T := 46 :: x.T } := by unfold A.dotted; rw [if_pos hp]
      have hdi : x.dotted.digit = { e := x.e + (48 - x.i), i := x.i - 1 - 1, last := x.i - 2, dot := 48, R := x.R / 10, T := (48 + ((x.R % 10 : Nat) : Int)) :: 46 :: x.T } := by rw [hdt]; rfl
      have hlone : x.dotted.digit.lone = false := by
        rw [hdi]
        unfold A.lone
        show ((x.R / 10 == 0) && (x.i - 1 - 1 == 47) && _) = false
        have : (x.i - 1 - 1 == 47) = false := beq_eq_false_iff_ne.mpr (by omega)
        rw [this]; simp
      have hf : x.dotted.digit.full = true := by
        rw [hdi]
        unfold A.full
        show (decide ((48 : Int) > x.i - 1 - 1) && (x.R / 10 == 0)) = true
        rw [decide_eq_true (by omega), hR, Nat.div_eq_of_lt h10]; rfl
      have hs : x.step = ({ x.dotted.digit with last := x.dotted.digit.i }, true) := by
        unfold A.step A.after
        rw [hlone, hf, if_neg (by decide), if_pos (bne_iff_ne.mpr (by rw [hdt]; show 48 + ((x.R % 10 : Nat) : Int) ≠ 48; omega))]
      rw [hdi] at hs
      refine ⟨_, 48 + (n : Int), [], digs_lt h10, by rw [hlen]; exact St.stop hb hs, ?_, ?_, rfl, ?_⟩
      · rw [hlen]; show x.e + (48 - x.i) = _; omega
      · rw [hlen]; show x.i - 1 - 1 = _; omega
      · show (48 + ((x.R % 10 : Nat) : Int)) :: 46 :: x.T = _
        rw [hR, Nat.mod_eq_of_lt h10]; rfl
    · have hlen : (digs n).length = (digs (n / 10)).length + 1 := by rw [digs_ge h10, List.length_append]; rfl
      have hp : x.point = false := by
        unfold A.point
        rw [a1, decide_eq_false (show ¬ x.R < 10 by omega)]
        simp
      have hdt : x.dotted = x := by unfold A.dotted; rw [hp]; rfl
      have hz : (x.R / 10 == 0) = false := beq_eq_false_iff_ne.mpr (by rw [hR]; omega)
      have hlone : x.digit.lone = false := by
        unfold A.lone A.digit
        show ((x.R / 10 == 0) && _ && _) = false
        rw [hz]; simp
      have hf : x.digit.full = false := by
        unfold A.full A.digit
        show (_ && (x.R / 10 == 0)) = false
        rw [hz]; simp
      have hs : x.step = (if (48 + ((x.R % 10 : Nat) : Int) != 48) = true then { x.digit with last := x.digit.i } else x.digit, false) := by
        unfold A.step A.after
        rw [hdt, hlone, hf]
        rfl
      obtain ⟨y, hy⟩ : ∃ y, y = (if (48 + ((x.R % 10 : Nat) : Int) != 48) = true then { x.digit with last := x.digit.i } else x.digit) := ⟨_, rfl⟩
      rw [← hy] at hs
      have y1 : y.R = n / 10 ∧ y.dot = x.dot ∧ y.e = x.e ∧ y.i = x.i - 1 ∧ y.T = (48 + ((x.R % 10 : Nat) : Int)) :: x.T := by
        rw [hy]; split <;> exact ⟨by show x.R / 10 = _; rw [hR], rfl, rfl, rfl, rfl⟩
      obtain ⟨q1, q2, q3, q4, q5⟩ := y1
      obtain ⟨z, d, r, c0, c1, c2, c3, c4, c5⟩ := ih (n / 10) (by omega) y q1 (by omega) (by omega) (by rcases hc with h1 | h1 <;> omega) (by rcases hc with h1 | h1 <;> omega) (by omega) (by omega) (by omega) (by omega) (by omega)
      refine ⟨z, d, r ++ [48 + ((n % 10 : Nat) : Int)], by rw [digs_ge h10, c0]; rfl, by rw [hlen]; exact St.next hb hs c1, by rw [c2]; omega, by rw [c3]; omega, c4, ?_⟩
      rw [c5, q5, hR]
      simp
/-- The low places of a number, zeros ahead. -/
def lows : Nat → Nat → List Int
  | 0, _ => []
  | j + 1, n => lows j (n / 10) ++ [48 + ((n % 10 : Nat) : Int)]
theorem lows_len : ∀ (j n : Nat), (lows j n).length = j
  | 0, _ => rfl
  | j + 1, n => by rw [lows, List.length_append, lows_len]; rfl
theorem pad_eq : ∀ (j n : Nat), List.replicate (j + 1 - (digs n).length) 48 ++ digs n = digs (n / 10 ^ j) ++ lows j n
  | 0, n => by
    have := digs_pos n
    rw [show 0 + 1 - (digs n).length = 0 by omega]
    simp [lows]
  | j + 1, n => by
    have ih := pad_eq j (n / 10)
    rw [Nat.div_div_eq_div_mul, show 10 * 10 ^ j = 10 ^ (j + 1) by rw [Nat.pow_succ, Nat.mul_comm]] at ih
    rw [lows, ← List.append_assoc, ← ih]
    by_cases h10 : n < 10
    · rw [Nat.div_eq_of_lt h10, digs_lt h10, digs_lt (show 0 < 10 by decide), Nat.mod_eq_of_lt h10]
      simp only [List.length_singleton]
      rw [show j + 1 + 1 - 1 = j + 1 by omega, show j + 1 - 1 = j by omega, List.replicate_succ']
      rfl
    · rw [digs_ge h10, List.length_append, List.length_singleton, show j + 1 + 1 - ((digs (n / 10)).length + 1) = j + 1 - (digs (n / 10)).length by omega, List.append_assoc]

/-- Digits with the point among them or ahead of them. -/
theorem phase_mid : ∀ (j n : Nat) (x : A), x.R = n → x.i = x.dot + j → x.e = x.dot - 48 → (x.i < 48 ∨ (x.i = 48 ∧ 0 < j)) → -10000 ≤ x.dot → (n = 0 ∨ x.i ≤ x.dot + 5 + (digs n).length) → (x.i = 48 → n < 10 → 42 ≤ x.dot) → (j : Int) + (digs (n / 10 ^ j)).length + 4 ≤ x.i →
    ∃ z, St (j + (digs (n / 10 ^ j)).length) x z ∧ z.e = 0 ∧ z.i = x.i - j - 1 - ((digs (n / 10 ^ j)).length : Int) ∧ z.last = z.i ∧ z.T = digs (n / 10 ^ j) ++ 46 :: (lows j n ++ x.T)
  | 0, n, x, hR, hi, he, hi2, hd, hc, hc2, hl => by
    rw [Nat.pow_zero, Nat.div_one] at hl ⊢
    have hpos := digs_pos n
    have hb : x.Bnd := ⟨by omega, by omega, by omega, by omega, by omega, by omega⟩
    have hp : x.point = true := by
      unfold A.point
      rw [decide_eq_true (show x.i < 48 by omega), beq_iff_eq.mpr (show x.dot = x.i by omega)]
      rfl
    have hdi : x.dotted.digit = { e := x.e + (48 - x.i), i := x.i - 1 - 1, last := x.i - 2, dot := 48, R := x.R / 10, T := (48 + ((x.R % 10 : Nat) : Int)) :: 46 :: x.T } := by unfold A.dotted; rw [if_pos hp]; rfl
    have hlone : x.dotted.digit.lone = false := by
      rw [hdi]
      unfold A.lone
      show ((x.R / 10 == 0) && (x.i - 1 - 1 == 47) && _) = false
      have : (x.i - 1 - 1 == 47) = false := beq_eq_false_iff_ne.mpr (by omega)
      rw [this]; simp
    obtain ⟨y, hy⟩ : ∃ y, y = (if (48 + ((x.dotted.R % 10 : Nat) : Int) != 48) = true then { x.dotted.digit with last := x.dotted.digit.i } else x.dotted.digit) := ⟨_, rfl⟩
    have hs : x.step = (y, x.dotted.digit.full) := by
      unfold A.step A.after
      rw [hlone, hy]
      rfl
    have y1 : y.R = n / 10 ∧ y.dot = 48 ∧ y.e = 0 ∧ y.i = x.i - 2 ∧ y.T = (48 + ((n % 10 : Nat) : Int)) :: 46 :: x.T ∧ y.last = x.i - 2 := by
      rw [hy]
      split
      · rw [hdi]; exact ⟨by show x.R / 10 = _; rw [hR], rfl, by show x.e + (48 - x.i) = 0; omega, by show x.i - 1 - 1 = _; omega, by show (48 + ((x.R % 10 : Nat) : Int)) :: _ = _; rw [hR], by show x.i - 1 - 1 = _; omega⟩
      · rw [hdi]; exact ⟨by show x.R / 10 = _; rw [hR], rfl, by show x.e + (48 - x.i) = 0; omega, by show x.i - 1 - 1 = _; omega, by show (48 + ((x.R % 10 : Nat) : Int)) :: _ = _; rw [hR], rfl⟩
    obtain ⟨q1, q2, q3, q4, q5, q6⟩ := y1
    by_cases h10 : n < 10
    · have hlen : (digs n).length = 1 := by rw [digs_lt h10]; rfl
      have hf : x.dotted.digit.full = true := by
        rw [hdi]
        unfold A.full
        show (decide ((48 : Int) > x.i - 1 - 1) && (x.R / 10 == 0)) = true
        rw [decide_eq_true (by omega), hR, Nat.div_eq_of_lt h10]; rfl
      rw [hf] at hs
      refine ⟨y, by rw [hlen]; exact St.stop hb hs, q3, by rw [hlen, q4]; omega, by rw [q6, q4], ?_⟩
      rw [q5, digs_lt h10, Nat.mod_eq_of_lt h10]; rfl
    · have hlen : (digs n).length = (digs (n / 10)).length + 1 := by rw [digs_ge h10, List.length_append]; rfl
      have hf : x.dotted.digit.full = false := by
        rw [hdi]
        unfold A.full
        show (_ && (x.R / 10 == 0)) = false
        have : (x.R / 10 == 0) = false := beq_eq_false_iff_ne.mpr (by rw [hR]; omega)
        rw [this]; simp
      rw [hf] at hs
      obtain ⟨z, c1, c2, c3, c4, c5⟩ := phase_plain (n / 10) y q1 (by omega) q2 (by omega) (by omega) (by omega) (by omega)
      refine ⟨z, by rw [hlen, Nat.zero_add]; exact St.next hb hs c1, c2.trans q3, by rw [c3, hlen, q4]; omega, c4, ?_⟩
      rw [c5, q5, digs_ge h10]
      simp [lows]
  | j + 1, n, x, hR, hi, he, hi2, hd, hc, hc2, hl => by
    have hdd : n / 10 / 10 ^ j = n / 10 ^ (j + 1) := by rw [Nat.div_div_eq_div_mul, Nat.pow_succ, Nat.mul_comm]
    have hpos := digs_pos (n / 10 ^ (j + 1))
    have hb : x.Bnd := ⟨by omega, by omega, by omega, by omega, by omega, by omega⟩
    have a3 : decide (x.e > 0) = false := decide_eq_false (by omega)
    have hp : x.point = false := by
      unfold A.point
      have a1 : (x.dot == x.i) = false := beq_eq_false_iff_ne.mpr (by omega)
      rw [a1, a3]
      by_cases h10 : 0 < x.R ∧ x.R < 10
      · have hlen : (digs n).length = 1 := by rw [digs_lt (by omega)]; rfl
        have a2 : decide (x.dot < x.i - 6) = false := decide_eq_false (by omega)
        rw [a2]; simp
      · have : (decide (0 < x.R) && decide (x.R < 10)) = false := by
          rw [Bool.eq_false_iff]; intro h; simp only [Bool.and_eq_true, decide_eq_true_eq] at h; exact h10 h
        rw [this]; simp
    have hdt : x.dotted = x := by unfold A.dotted; rw [hp]; rfl
    have hlone : x.digit.lone = false := by
      unfold A.lone A.digit
      show ((x.R / 10 == 0) && (x.i - 1 == 47) && (decide (x.dot < x.i - 1 - 5) || decide (x.e > 0))) = false
      rw [a3]
      by_cases h1 : x.R / 10 = 0 ∧ x.i - 1 = 47
      · have := hc2 (by omega) (by omega)
        have a2 : decide (x.dot < x.i - 1 - 5) = false := decide_eq_false (by omega)
        rw [a2]; simp
      · have : ((x.R / 10 == 0) && (x.i - 1 == 47)) = false := by
          rw [Bool.eq_false_iff]; intro h; simp only [Bool.and_eq_true, beq_iff_eq] at h; exact h1 h
        rw [this]; rfl
    have hf : x.digit.full = false := by
      unfold A.full A.digit
      show (decide (x.dot > x.i - 1) && _) = false
      rw [decide_eq_false (by omega)]; rfl
    have hs : x.step = (if (48 + ((x.R % 10 : Nat) : Int) != 48) = true then { x.digit with last := x.digit.i } else x.digit, false) := by
      unfold A.step A.after
      rw [hdt, hlone, hf]
      rfl
    obtain ⟨y, hy⟩ : ∃ y, y = (if (48 + ((x.R % 10 : Nat) : Int) != 48) = true then { x.digit with last := x.digit.i } else x.digit) := ⟨_, rfl⟩
    rw [← hy] at hs
    have y1 : y.R = n / 10 ∧ y.dot = x.dot ∧ y.e = x.e ∧ y.i = x.i - 1 ∧ y.T = (48 + ((x.R % 10 : Nat) : Int)) :: x.T := by
      rw [hy]; split <;> exact ⟨by show x.R / 10 = _; rw [hR], rfl, rfl, rfl, rfl⟩
    obtain ⟨q1, q2, q3, q4, q5⟩ := y1
    have hc3 : n / 10 = 0 ∨ y.i ≤ y.dot + 5 + (digs (n / 10)).length := by
      by_cases h10 : n < 10
      · left; omega
      · right
        have hlen : (digs n).length = (digs (n / 10)).length + 1 := by rw [digs_ge h10, List.length_append]; rfl
        rcases hc with h1 | h1
        · omega
        · rw [q4, q2]; omega
    obtain ⟨z, c1, c2, c3, c4, c5⟩ := phase_mid j (n / 10) y q1 (by omega) (by omega) (by omega) (by omega) hc3 (by omega) (by rw [hdd]; omega)
    rw [hdd] at c1 c3 c5
    refine ⟨z, by rw [show j + 1 + (digs (n / 10 ^ (j + 1))).length = (j + (digs (n / 10 ^ (j + 1))).length) + 1 by omega]; exact St.next hb hs c1, c2, by rw [c3]; omega, c4, ?_⟩
    rw [c5, q5, lows, hR]
    simp
/-- A lone digit with an exponent. -/
theorem phase_lone (n : Nat) (x : A) (hR : x.R = n) (hn : n < 10) (hi : x.i = 48) (hc : x.dot < 42 ∨ x.e > 0) (he0 : -10000 ≤ x.e) (he1 : x.e ≤ 15000) (hd0 : -10000 ≤ x.dot) (hd1 : x.dot ≤ 15000) :
    ∃ z, St 1 x z ∧ z.e = x.e ∧ z.i = 47 ∧ z.last = 47 ∧ z.T = (48 + (n : Int)) :: x.T := by
  have hb : x.Bnd := ⟨by omega, by omega, by omega, by omega, by omega, by omega⟩
  have hp : x.point = false := by unfold A.point; rw [decide_eq_false (by omega)]; rfl
  have hdt : x.dotted = x := by unfold A.dotted; rw [hp]; rfl
  have hlone : x.digit.lone = true := by
    unfold A.lone A.digit
    show ((x.R / 10 == 0) && (x.i - 1 == 47) && (decide (x.dot < x.i - 1 - 5) || decide (x.e > 0))) = true
    rw [hR, Nat.div_eq_of_lt hn, hi]
    rcases hc with h | h
    · rw [decide_eq_true (show x.dot < 48 - 1 - 5 by omega)]; rfl
    · rw [decide_eq_true h, Bool.or_true]; rfl
  have hs : x.step = ({ x.digit with last := x.digit.i }, true) := by
    unfold A.step A.after
    rw [hdt, if_pos hlone]
  refine ⟨_, St.stop hb hs, rfl, by show x.i - 1 = 47; omega, by show x.i - 1 = 47; omega, ?_⟩
  show (48 + ((x.R % 10 : Nat) : Int)) :: x.T = _
  rw [hR, Nat.mod_eq_of_lt hn]

/-- One digit, a point and the others, if there are. -/
def sci : List Int → List Int
  | d :: c :: r => d :: 46 :: c :: r
  | D => D
def sgn (p : Bool) : List Int := if p then [] else [45]
/-- The text of a finite number. -/
def txt (p : Bool) (E : Int) (N : Nat) : ByteArray :=
  if E > 0 ∨ E + (digs N).length - 1 < -6 then
    (strOfNums (sgn p ++ sci (digs N)) ++ (if 0 ≤ E + (digs N).length - 1 then ⟨#[69, 43]⟩ else ⟨#[69]⟩)) ++ ⟨(Lib.itoa (E + (digs N).length - 1)).toArray⟩
  else if E = 0 then strOfNums (sgn p ++ digs N)
  else strOfNums (sgn p ++ (digs (N / 10 ^ (-E).toNat) ++ 46 :: lows (-E).toNat N))
theorem itoa_size (n : Int) (h0 : -100000 < n) (h1 : n < 100000) : ((⟨(Lib.itoa n).toArray⟩ : ByteArray)).size ≤ 100 := by
  show (Lib.itoa n).toArray.size ≤ 100
  rw [List.size_toArray]
  have hd : ∀ u : Nat, u < 10 ^ (4 + 1) → (Lib.decDigits u).length ≤ 5 := fun u hu => by
    have := digs_len 4 u hu
    unfold digs at this
    rwa [List.length_map] at this
  unfold Lib.itoa
  split
  · have := hd n.natAbs (by show n.natAbs < 100000; omega)
    rw [List.length_cons]; omega
  · have := hd n.toNat (by show n.toNat < 100000; omega)
    omega
theorem itoa_f (n : Int) (h0 : -100000 < n) (h1 : n < 100000) : strconv_Itoa_18.f n = some ⟨(Lib.itoa n).toArray⟩ := by
  unfold strconv_Itoa_18.f
  rw [if_pos ⟨by omega, by omega⟩]
/-- What is written of the places at the end. -/
theorem text_of {m : Nat} {s : DSt} {z : A} (h : Sim m s z) (p : Bool) (hl : z.last = z.i) (h0 : 1 ≤ z.i) (h1 : z.i ≤ 47) (e0 : -100000 < z.e) (e1 : z.e < 100000) :
    DSt.text p s = some (if z.e > 0 then (strOfNums (sgn p ++ z.T) ++ ⟨#[69, 43]⟩) ++ ⟨(Lib.itoa z.e).toArray⟩ else if z.e < 0 then (strOfNums (sgn p ++ z.T) ++ ⟨#[69]⟩) ++ ⟨(Lib.itoa z.e).toArray⟩ else strOfNums (sgn p ++ z.T)) := by
  have hw : wrap64 (s.last - 1) = z.i - 1 := by rw [h.hl, hl, w_id (by omega) (by omega)]
  have hj : (z.i - 1).toNat < s.row.length := by rw [h.len]; omega
  have hz : (z.i - 1).toNat + 1 = z.i.toNat := by omega
  have hT : (s.row.set (z.i - 1).toNat 45).drop (wrap64 (z.i - 1 + if p = true then 1 else 0)).toNat = sgn p ++ z.T := by
    cases p
    · have : (z.i - 1 + if false = true then 1 else 0) = z.i - 1 := by simp
      rw [this, w_id (by omega) (by omega), set_drop _ hj, hz, h.row]
      rfl
    · have : (z.i - 1 + if true = true then 1 else 0) = z.i := by simp
      rw [this, w_id (by omega) (by omega), ← hz, ← List.drop_drop, List.drop_drop, Nat.add_comm]
      have := set_drop (l := s.row) (j := (z.i - 1).toNat) 45 hj
      rw [Nat.add_comm, ← List.drop_drop, this, List.drop_succ_cons, List.drop_zero, hz, h.row]
      rfl
  unfold DSt.text
  rw [hw, if_pos ⟨by omega, by omega⟩]
  dsimp only
  rw [hT, h.he, itoa_f z.e e0 e1, Option.bind_some, Option.bind_some, if_pos (itoa_size z.e e0 e1), if_pos (itoa_size z.e e0 e1)]
  split
  · rfl
  · split <;> rfl
theorem g_eq (p : Bool) (E : Int) (h l : Nat) (hh : h < 18446744073709551616) (hl : l < 18446744073709551616) (hN : num h l < 10 ^ 35) (E0 : -7000 ≤ E) (E2 : E ≤ 11000) : decimal128_String.g p E h l = some (txt p E (num h l)) := by
  unfold decimal128_String.g
  by_cases hz : (h : Int) = 0 ∧ (l : Int) = 0 ∧ E = 0
  · rw [if_pos hz]
    obtain ⟨a, b, c⟩ := hz
    have h0 : h = 0 := by omega
    have l0 : l = 0 := by omega
    subst h0; subst l0; subst c
    unfold txt
    have hcond : ¬ ((0 : Int) > 0 ∨ (0 : Int) + (([48 + ((0 : Nat) : Int)] : List Int).length : Int) - 1 < -6) := by simp
    rw [show num 0 0 = 0 from rfl, digs_lt (show 0 < 10 by decide), if_neg hcond, if_pos (show (0 : Int) = 0 from rfl)]
    cases p <;> rfl
  rw [if_neg hz]
  obtain ⟨N, hNe⟩ : ∃ N, N = num h l := ⟨_, rfl⟩
  rw [← hNe] at hN ⊢
  have hNz : ¬ (N = 0 ∧ E = 0) := fun ⟨a, b⟩ => hz ⟨by unfold num at hNe; omega, by unfold num at hNe; omega, b⟩
  have hlen := digs_len 34 N hN
  have hpos := digs_pos N
  obtain ⟨x, hx⟩ : ∃ x : A, x = ⟨E, 48, 48, 48 + E, N, []⟩ := ⟨_, rfl⟩
  have hsim : Sim 0 ⟨E, (h : Int), (l : Int), 48, 48, wrap64 (48 + E), 0, List.replicate 48 0⟩ x := by
    rw [hx]
    refine ⟨rfl, rfl, rfl, w_id (by omega) (by omega), ⟨⟨N, 0, by simp, by simp, by unfold num at hNe; omega, ?_, ?_, rfl⟩⟩, rfl, ?_⟩
    · show (h : Int) = _
      congr 1; unfold num at hNe; omega
    · show (l : Int) = _
      congr 1; unfold num at hNe; omega
    · show (List.replicate 48 (0 : Int)).drop 48 = []
      rfl
  -- what a run gives
  have fin : ∀ (n : Nat) (z : A), St n x z → n ≤ 45 → z.last = z.i → 1 ≤ z.i → z.i ≤ 47 → -100000 < z.e → z.e < 100000 →
      (DSt.outer 5 ⟨E, (h : Int), (l : Int), 48, 48, wrap64 (48 + E), 0, List.replicate 48 0⟩).bind (DSt.text p) = some (if z.e > 0 then (strOfNums (sgn p ++ z.T) ++ ⟨#[69, 43]⟩) ++ ⟨(Lib.itoa z.e).toArray⟩ else if z.e < 0 then (strOfNums (sgn p ++ z.T) ++ ⟨#[69]⟩) ++ ⟨(Lib.itoa z.e).toArray⟩ else strOfNums (sgn p ++ z.T)) := by
    intro n z hst hn a b c d e
    obtain ⟨s', m', r1, r2⟩ := run_of hst 5 0 _ (by omega) hsim (by omega)
    rw [run_zero] at r1
    rw [r1, Option.bind_some, text_of r2 p a b c d e]
  have xR : x.R = N := by rw [hx]
  have xi : x.i = 48 := by rw [hx]
  have xd : x.dot = 48 + E := by rw [hx]
  have xe : x.e = E := by rw [hx]
  have xT : x.T = [] := by rw [hx]
  clear hx hsim
  unfold txt
  by_cases hs : E > 0 ∨ E + (digs N).length - 1 < -6
  · rw [if_pos hs]
    by_cases h10 : N < 10
    · have hd := digs_lt h10
      have hlen1 : (digs N).length = 1 := by rw [hd]; rfl
      obtain ⟨z, c1, c2, c3, c4, c5⟩ := phase_lone N x xR h10 xi (by rcases hs with h | h <;> omega) (by omega) (by omega) (by omega) (by omega)
      rw [fin 1 z c1 (by omega) (by omega) (by omega) (by omega) (by omega) (by omega)]
      have hE : E + (digs N).length - 1 = E := by omega
      rw [hE, c2, xe, c5, xT, hd]
      rcases hs with h | h
      · rw [if_pos h, if_pos (by omega)]; rfl
      · rw [if_neg (by omega), if_pos (by omega), if_neg (by omega)]; rfl
    · have hE0 : 0 < N := by omega
      have hlen2 : (digs N).length = (digs (N / 10)).length + 1 := by rw [digs_ge h10, List.length_append]; rfl
      have hpos2 := digs_pos (N / 10)
      -- the first digit is written without a point
      have hb : x.Bnd := ⟨by omega, by omega, by omega, by omega, by omega, by omega⟩
      have hp : x.point = false := by unfold A.point; rw [decide_eq_false (by omega)]; rfl
      have hdt : x.dotted = x := by unfold A.dotted; rw [hp]; rfl
      have hzz : (x.R / 10 == 0) = false := beq_eq_false_iff_ne.mpr (by omega)
      have hlone : x.digit.lone = false := by
        unfold A.lone A.digit
        show ((x.R / 10 == 0) && _ && _) = false
        rw [hzz]; simp
      have hf : x.digit.full = false := by
        unfold A.full A.digit
        show (_ && (x.R / 10 == 0)) = false
        rw [hzz]; simp
      have hst : x.step = (if (48 + ((x.R % 10 : Nat) : Int) != 48) = true then { x.digit with last := x.digit.i } else x.digit, false) := by
        unfold A.step A.after
        rw [hdt, hlone, hf]
        rfl
      obtain ⟨y, hy⟩ : ∃ y, y = (if (48 + ((x.R % 10 : Nat) : Int) != 48) = true then { x.digit with last := x.digit.i } else x.digit) := ⟨_, rfl⟩
      rw [← hy] at hst
      have y1 : y.R = N / 10 ∧ y.dot = x.dot ∧ y.e = x.e ∧ y.i = x.i - 1 ∧ y.T = (48 + ((x.R % 10 : Nat) : Int)) :: x.T := by
        rw [hy]; split <;> exact ⟨by show x.R / 10 = _; rw [xR], rfl, rfl, rfl, rfl⟩
      obtain ⟨q1, q2, q3, q4, q5⟩ := y1
      obtain ⟨z, d, r, c0, c1, c2, c3, c4, c5⟩ := phase_exp (N / 10) y q1 (by omega) (by omega) (by rcases hs with h | h <;> omega) (by rcases hs with h | h <;> omega) (by omega) (by omega) (by omega) (by omega) (by omega)
      rw [fin _ z (St.next hb hst c1) (by omega) c4 (by omega) (by omega) (by omega) (by omega)]
      have hze : z.e = E + (digs N).length - 1 := by omega
      have hT : z.T = sci (digs N) := by
        rw [c5, q5, xT, digs_ge h10, c0, xR]
        cases r <;> rfl
      rw [← hze, ← hT]
      rcases hs with h | h
      · rw [if_pos (by omega), if_pos (by omega)]
      · rw [if_neg (by omega), if_pos (by omega), if_neg (by omega)]
  rw [if_neg hs]
  by_cases hE : E = 0
  · rw [if_pos hE]
    obtain ⟨z, c1, c2, c3, c4, c5⟩ := phase_plain N x xR (by omega) (by omega) (by omega) (by omega) (by omega) (by omega)
    rw [fin _ z c1 (by omega) c4 (by omega) (by omega) (by omega) (by omega), if_neg (by omega), if_neg (by omega), c5, xT, List.append_nil]
  · rw [if_neg hE]
    obtain ⟨j, hj⟩ : ∃ j, j = (-E).toNat := ⟨_, rfl⟩
    rw [← hj]
    have hjl : j + (digs (N / 10 ^ j)).length ≤ 41 := by
      have he := pad_eq j N
      have hl := congrArg List.length he
      rw [List.length_append, List.length_append, List.length_replicate, lows_len] at hl
      omega
    obtain ⟨z, c1, c2, c3, c4, c5⟩ := phase_mid j N x xR (by omega) (by omega) (by omega) (by omega) (by omega) (fun _ h9 => by have h1 : (digs N).length = 1 := by { rw [digs_lt h9]; rfl }; omega) (by omega)
    rw [fin _ z c1 (by omega) c4 (by have := digs_pos (N / 10 ^ j); omega) (by have := digs_pos (N / 10 ^ j); omega) (by omega) (by omega), if_neg (by omega), if_neg (by omega), c5, xT, List.append_nil]

theorem str_data (l : List Int) : (strOfNums l).data.toList = l.map fun n => UInt8.ofNat n.toNat := rfl
theorem str_size (l : List Int) : (strOfNums l).size = l.length := by
  show (l.map fun n => UInt8.ofNat n.toNat).toArray.size = _
  simp
theorem str_extract (l : List Int) (a b : Nat) : (strOfNums l).extract a b = strOfNums ((l.take b).drop a) := by
  apply ByteArray.ext
  apply Array.ext'
  rw [ByteArray.data_extract, Array.toList_extract, str_data, str_data]
  simp [List.extract, List.map_drop, List.map_take, List.drop_take]
theorem str_app (a b : List Int) : strOfNums a ++ strOfNums b = strOfNums (a ++ b) := (PL.strOfNums_append a b).symm
theorem dn_nat (n : Nat) : n < 100000 → Ev (fun k => spec_decNumber.f k (n : Int)) (strOfNums (digs n)) := by
  induction n using Nat.strongRecOn with
  | _ n ih =>
    intro hn
    by_cases h10 : n < 10
    · refine ⟨1, fun k hk => ?_⟩
      obtain ⟨k, rfl⟩ : ∃ j, k = j + 1 := ⟨k - 1, by omega⟩
      show spec_decNumber.f (k + 1) (n : Int) = _
      simp only [spec_decNumber.f]
      rw [if_neg (by omega), if_pos (by omega), digs_lt h10, w_id (by omega) (by omega)]
      have : (48 + (n : Int)) % 256 = 48 + (n : Int) := by omega
      rw [this]
    · obtain ⟨K, hK⟩ := ih (n / 10) (by omega) (by omega)
      refine ⟨K + 1, fun k hk => ?_⟩
      obtain ⟨k, rfl⟩ : ∃ j, k = j + 1 := ⟨k - 1, by omega⟩
      have hk2 := hK k (by omega)
      have hlen := digs_len 4 (n / 10) (by show n / 10 < 100000; omega)
      show spec_decNumber.f (k + 1) (n : Int) = _
      simp only [spec_decNumber.f]
      have t1 : (n : Int).tdiv 10 = ((n / 10 : Nat) : Int) := tdivN n 10
      have t2 : (n : Int).tmod 10 = ((n % 10 : Nat) : Int) := tmodN n 10
      rw [if_neg (by omega), if_neg (by omega), t1, t2, w_id (by omega) (by omega), w_id (x := 48 + _) (by omega) (by omega)]
      have hk3 : spec_decNumber.f k ((n / 10 : Nat) : Int) = some (strOfNums (digs (n / 10))) := hk2
      rw [hk3, Option.bind_some, Option.bind_some]
      have : (48 + ((n % 10 : Nat) : Int)) % 256 = 48 + ((n % 10 : Nat) : Int) := by omega
      rw [this, if_pos (by rw [str_size, str_size, List.length_singleton]; omega), str_app, ← digs_ge h10]
theorem dn_ev (n : Int) (h0 : -100000 < n) (h1 : n < 100000) : Ev (fun k => spec_decNumber.f k n) ⟨(Lib.itoa n).toArray⟩ := by
  by_cases hn : n < 0
  · obtain ⟨K, hK⟩ := dn_nat n.natAbs (by omega)
    refine ⟨K + 1, fun k hk => ?_⟩
    obtain ⟨k, rfl⟩ : ∃ j, k = j + 1 := ⟨k - 1, by omega⟩
    have hlen := digs_len 4 n.natAbs (by show n.natAbs < 100000; omega)
    have hk2 : spec_decNumber.f k ((n.natAbs : Nat) : Int) = some (strOfNums (digs n.natAbs)) := hK k (by omega)
    show spec_decNumber.f (k + 1) n = _
    simp only [spec_decNumber.f]
    have hab : wrap64 (-n) = ((n.natAbs : Nat) : Int) := by rw [w_id (by omega) (by omega)]; omega
    rw [if_pos hn, hab, hk2, Option.bind_some, if_pos (by rw [str_size]; omega), digs_str]
    unfold Lib.itoa
    rw [if_pos hn]
    congr 1
  · obtain ⟨m, rfl⟩ := Int.eq_ofNat_of_zero_le (Int.not_lt.mp hn)
    have := dn_nat m (by omega)
    rw [digs_str] at this
    unfold Lib.itoa
    rw [if_neg hn]
    exact this
theorem j2_ev (x3 x6 : List Int) (f : Int) (h3 : x3.length ≤ 1000) (h6 : x6.length ≤ 1000) (f0 : -100000 < f) (f1 : f < 100000) :
    Ev (fun k => spec_DecText.j2 k (strOfNums x3) f (strOfNums x6)) ((strOfNums (x3 ++ x6) ++ (if 0 ≤ f then ⟨#[69, 43]⟩ else ⟨#[69]⟩)) ++ ⟨(Lib.itoa f).toArray⟩) := by
  obtain ⟨K, hK⟩ := dn_ev f f0 f1
  have hsz := itoa_size f f0 f1
  refine ⟨K + 1, fun k hk => ?_⟩
  obtain ⟨k, rfl⟩ : ∃ j, k = j + 1 := ⟨k - 1, by omega⟩
  have hk2 : spec_decNumber.f k f = some ⟨(Lib.itoa f).toArray⟩ := hK k (by omega)
  show spec_DecText.j2 (k + 1) _ _ _ = _
  simp only [spec_DecText.j2]
  have s2 : (⟨#[69, 43]⟩ : ByteArray).size = 2 := rfl
  have s1 : (⟨#[69]⟩ : ByteArray).size = 1 := rfl
  by_cases hf : f ≥ 0
  · rw [if_pos hf, if_pos (by rw [str_size, str_size]; omega), str_app, if_pos (by rw [str_size, List.length_append]; omega), hk2, Option.bind_some, if_pos (by rw [ByteArray.size_append, str_size, List.length_append, s2]; omega), if_pos hf]
  · rw [if_neg hf, if_pos (by rw [str_size, str_size]; omega), str_app, if_pos (by rw [str_size, List.length_append]; omega), hk2, Option.bind_some, if_pos (by rw [ByteArray.size_append, str_size, List.length_append, s1]; omega), if_neg hf]
theorem str_sgn (p : Bool) : strOfNums (sgn p) = if p then ⟨#[]⟩ else ⟨#[45]⟩ := by cases p <;> rfl
theorem l0_ev (x3 : List Int) (E : Int) (h3 : x3.length ≤ 1000) (E0 : -9000 ≤ E) (E1 : E < 0) (a : Int) (b : Bool) (c : ByteArray) : ∀ (q : Nat) (D : List Int), D.length ≤ 10000 → q = (-E).toNat + 1 - D.length →
    Ev (fun k => spec_DecText.l0 k (strOfNums x3) (strOfNums D) a b c E) (strOfNums (x3 ++ ((List.replicate q 48 ++ D).take ((List.replicate q 48 ++ D).length - (-E).toNat) ++ 46 :: (List.replicate q 48 ++ D).drop ((List.replicate q 48 ++ D).length - (-E).toNat))))
  | 0, D, hD, hq => by
    refine ⟨1, fun k hk => ?_⟩
    obtain ⟨k, rfl⟩ : ∃ j, k = j + 1 := ⟨k - 1, by omega⟩
    show spec_DecText.l0 (k + 1) _ _ _ _ _ _ = _
    simp only [spec_DecText.l0]
    have s1 : (⟨#[46]⟩ : ByteArray).size = 1 := rfl
    have e46 : (⟨#[46]⟩ : ByteArray) = strOfNums [46] := rfl
    have hto : ((D.length : Int) + E).toNat = D.length - (-E).toNat := by omega
    rw [str_size, w_id (x := -E) (by omega) (by omega), if_neg (by omega), w_id (x := (D.length : Int) + E) (by omega) (by omega), if_pos (by omega), if_pos (by omega), hto, str_extract, str_extract, e46, str_size, str_size, str_size,
      if_pos (by rw [List.length_drop, List.length_take]; omega), str_app, str_size, if_pos (by rw [List.length_append, List.length_drop, List.length_take]; omega), str_app, str_size, if_pos (by simp only [List.length_append, List.length_drop, List.length_take, List.length_singleton]; omega), str_app]
    congr 2
    simp
  | q + 1, D, hD, hq => by
    obtain ⟨K, hK⟩ := l0_ev x3 E h3 E0 E1 a b c q (48 :: D) (by rw [List.length_cons]; omega) (by rw [List.length_cons]; omega)
    refine ⟨K + 1, fun k hk => ?_⟩
    obtain ⟨k, rfl⟩ : ∃ j, k = j + 1 := ⟨k - 1, by omega⟩
    have hk2 := hK k (by omega)
    show spec_DecText.l0 (k + 1) _ _ _ _ _ _ = _
    simp only [spec_DecText.l0]
    have e48 : (⟨#[48]⟩ : ByteArray) = strOfNums [48] := rfl
    rw [str_size, w_id (x := -E) (by omega) (by omega), if_pos (by omega), if_pos (by omega), e48, str_app]
    have hr : List.replicate (q + 1) (48 : Int) ++ D = List.replicate q 48 ++ 48 :: D := by rw [List.replicate_succ']; simp
    rw [hr]
    exact hk2
theorem text_ev (p : Bool) (E : Int) (N : Nat) (hN : N < 10 ^ 35) (E0 : -9000 ≤ E) (E2 : E ≤ 11000) : Ev (fun k => spec_DecText.f k 0 (!p) (strOfNums (digs N)) E) (txt p E N) := by
  have hlen := digs_len 34 N hN
  have hpos := digs_pos N
  have hsl : (sgn p).length ≤ 1 := by cases p <;> decide
  have hw : wrap64 (wrap64 (E + ((digs N).length : Int)) - 1) = E + (digs N).length - 1 := by rw [w_id (x := E + _) (by omega) (by omega), w_id (by omega) (by omega)]
  have hf : ∀ k, spec_DecText.f (k + 1) 0 (!p) (strOfNums (digs N)) E = spec_DecText.j1 k (strOfNums (sgn p)) (strOfNums (digs N)) (E + (digs N).length - 1) (decide (E > 0 ∨ E + (digs N).length - 1 < -6)) 0 (!p) (strOfNums (digs N)) E := by
    intro k
    have hj : spec_DecText.f (k + 1) 0 (!p) (strOfNums (digs N)) E = spec_DecText.j0 (k + 1) (strOfNums (sgn p)) 0 (!p) (strOfNums (digs N)) E := by
      unfold spec_DecText.f
      rw [str_sgn]
      cases p <;> rfl
    rw [hj]
    simp only [spec_DecText.j0]
    rw [if_neg (by decide), if_neg (by decide), str_size, hw]
    by_cases hE : E > 0
    · rw [if_pos hE, show decide (E > 0 ∨ E + ((digs N).length : Int) - 1 < -6) = true from decide_eq_true (Or.inl hE)]
    · rw [if_neg hE]
      congr 1
      exact decide_eq_decide.mpr ⟨Or.inr, fun h => h.resolve_left hE⟩
  have go : ∀ r, Ev (fun k => spec_DecText.j1 k (strOfNums (sgn p)) (strOfNums (digs N)) (E + (digs N).length - 1) (decide (E > 0 ∨ E + (digs N).length - 1 < -6)) 0 (!p) (strOfNums (digs N)) E) r → Ev (fun k => spec_DecText.f k 0 (!p) (strOfNums (digs N)) E) r := fun r ⟨K, hK⟩ => ⟨K + 1, fun k hk => by
    obtain ⟨k, rfl⟩ : ∃ j, k = j + 1 := ⟨k - 1, by omega⟩
    show spec_DecText.f (k + 1) 0 (!p) (strOfNums (digs N)) E = _
    rw [hf]
    exact hK k (by omega)⟩
  refine go _ ?_
  clear go hf hw
  unfold txt
  by_cases hs : E > 0 ∨ E + (digs N).length - 1 < -6
  · rw [if_pos hs, decide_eq_true hs]
    have hsc : (sci (digs N)).length ≤ 40 := by
      rcases hd : digs N with _ | ⟨d, _ | ⟨c, r⟩⟩
      · exact Nat.zero_le _
      · show 1 ≤ 40; omega
      · rw [hd] at hlen
        simp only [List.length_cons] at hlen
        show (d :: 46 :: c :: r).length ≤ 40
        simp only [List.length_cons]; omega
    obtain ⟨K, hK⟩ := j2_ev (sgn p) (sci (digs N)) (E + (digs N).length - 1) (by omega) (by omega) (by omega) (by omega)
    refine ⟨K + 1, fun k hk => ?_⟩
    obtain ⟨k, rfl⟩ : ∃ j, k = j + 1 := ⟨k - 1, by omega⟩
    have hk2 := hK k (by omega)
    show spec_DecText.j1 (k + 1) _ _ _ _ _ _ _ _ = _
    simp only [spec_DecText.j1]
    rw [if_pos trivial, if_pos (by decide), str_size, if_pos (by omega)]
    have e46 : (⟨#[46]⟩ : ByteArray) = strOfNums [46] := rfl
    rcases hd : digs N with _ | ⟨d, _ | ⟨c, r⟩⟩
    · rw [hd] at hpos; simp at hpos
    · rw [hd] at hk2
      rw [if_neg (by simp), str_extract]
      exact hk2
    · rw [hd] at hk2 hlen
      simp only [List.length_cons] at hlen
      rw [if_pos (by simp only [List.length_cons]; omega), str_extract, str_extract, e46, if_pos (by rw [str_size, List.length_drop, List.length_take]; simp only [List.length_cons]; omega), str_app, if_pos (by rw [str_size, str_size]; simp only [List.length_append, List.length_drop, List.length_take, List.length_cons, List.length_nil]; omega), str_app]
      have he : List.drop 0 (List.take 1 (d :: c :: r)) ++ ([46] ++ List.drop 1 (List.take (d :: c :: r).length (d :: c :: r))) = sci (d :: c :: r) := by
        rw [List.take_length]; rfl
      rw [he]
      exact hk2
  rw [if_neg hs, decide_eq_false hs]
  by_cases hE : E = 0
  · rw [if_pos hE]
    refine ⟨1, fun k hk => ?_⟩
    obtain ⟨k, rfl⟩ : ∃ j, k = j + 1 := ⟨k - 1, by omega⟩
    show spec_DecText.j1 (k + 1) _ _ _ _ _ _ _ _ = _
    simp only [spec_DecText.j1]
    rw [if_neg (by decide), if_pos hE, if_pos (by rw [str_size, str_size]; omega), str_app]
  · rw [if_neg hE]
    obtain ⟨K, hK⟩ := l0_ev (sgn p) E (by omega) E0 (by omega) 0 (!p) (strOfNums (digs N)) _ (digs N) (by omega) rfl
    refine ⟨K + 1, fun k hk => ?_⟩
    obtain ⟨k, rfl⟩ : ∃ j, k = j + 1 := ⟨k - 1, by omega⟩
    have hk2 := hK k (by omega)
    show spec_DecText.j1 (k + 1) _ _ _ _ _ _ _ _ = _
    simp only [spec_DecText.j1]
    rw [if_neg (by decide), if_neg hE]
    refine Eq.trans hk2 ?_
    rw [pad_eq]
    have hl : (digs (N / 10 ^ (-E).toNat) ++ lows (-E).toNat N).length - (-E).toNat = (digs (N / 10 ^ (-E).toNat)).length := by rw [List.length_append, lows_len]; omega
    rw [hl, List.take_left, List.drop_left]

theorem is_l0 (a : Int) (b : Bool) (S : ByteArray) (E : Int) (hS : S.size ≤ 1000) : ∀ (d : Nat) (i : Int), 0 ≤ i → (S.size : Int) = i + d → ∃ r, Ev (fun k => spec_DecIs.l0 k i a b S E) r
  | 0, i, h0, h => ⟨true, 1, fun k hk => by
    obtain ⟨k, rfl⟩ : ∃ j, k = j + 1 := ⟨k - 1, by omega⟩
    show spec_DecIs.l0 (k + 1) i a b S E = _
    simp only [spec_DecIs.l0]
    rw [if_neg (by omega)]⟩
  | d + 1, i, h0, h => by
    obtain ⟨r, K, hK⟩ := is_l0 a b S E hS d (i + 1) (by omega) (by omega)
    have key : ∀ c : Bool, ∃ r, ∀ k, K + 1 ≤ k → spec_DecIs.j2 k i c a b S E = some r := fun c => by
      cases c
      · refine ⟨r, fun k hk => ?_⟩
        obtain ⟨k, rfl⟩ : ∃ j, k = j + 1 := ⟨k - 1, by omega⟩
        simp only [spec_DecIs.j2]
        rw [if_neg (by decide), w_id (by omega) (by omega)]
        exact hK k (by omega)
      · refine ⟨false, fun k hk => ?_⟩
        obtain ⟨k, rfl⟩ : ∃ j, k = j + 1 := ⟨k - 1, by omega⟩
        simp only [spec_DecIs.j2]
        rw [if_pos trivial]
    by_cases h48 : bt S i < 48
    · obtain ⟨r2, h2⟩ := key true
      refine ⟨r2, K + 2, fun k hk => ?_⟩
      obtain ⟨k, rfl⟩ : ∃ j, k = j + 1 := ⟨k - 1, by omega⟩
      show spec_DecIs.l0 (k + 1) i a b S E = _
      simp only [spec_DecIs.l0]
      rw [if_pos (by omega), if_pos h0, if_pos h48]
      exact h2 k (by omega)
    · obtain ⟨r2, h2⟩ := key (decide (bt S i > 57))
      refine ⟨r2, K + 2, fun k hk => ?_⟩
      obtain ⟨k, rfl⟩ : ∃ j, k = j + 1 := ⟨k - 1, by omega⟩
      show spec_DecIs.l0 (k + 1) i a b S E = _
      simp only [spec_DecIs.l0]
      rw [if_pos (by omega), if_pos h0, if_neg h48]
      exact h2 k (by omega)
theorem is_tot (a : Int) (b : Bool) (S : ByteArray) (E : Int) (hS : S.size ≤ 1000) : ∃ r, Ev (fun k => spec_DecIs.f k a b S E) r := by
  obtain ⟨r, K, hK⟩ := is_l0 a b S E hS S.size 0 (by omega) (by omega)
  have key : ∀ c : Bool, ∃ r, Ev (fun k => spec_DecIs.j0 k c a b S E) r := fun c => by
    cases c
    · refine ⟨r, K + 1, fun k hk => ?_⟩
      obtain ⟨k, rfl⟩ : ∃ j, k = j + 1 := ⟨k - 1, by omega⟩
      show spec_DecIs.j0 (k + 1) false a b S E = _
      simp only [spec_DecIs.j0]
      rw [if_neg (by decide)]
      exact hK k (by omega)
    · refine ⟨false, 1, fun k hk => ?_⟩
      obtain ⟨k, rfl⟩ : ∃ j, k = j + 1 := ⟨k - 1, by omega⟩
      show spec_DecIs.j0 (k + 1) true a b S E = _
      simp only [spec_DecIs.j0]
      rw [if_pos trivial]
  unfold spec_DecIs.f
  by_cases h1 : a = 0
  · simp only [if_pos h1]
    by_cases h2 : (S.size : Int) < 1
    · simp only [if_pos h2]; exact key true
    simp only [if_neg h2]
    by_cases h3 : (S.size : Int) > 34
    · simp only [if_pos h3]; exact key true
    simp only [if_neg h3]
    have h5 : 0 < (S.size : Int) := by omega
    by_cases h4 : (S.size : Int) > 1
    · simp only [if_pos h4, if_pos h5]
      by_cases h6 : bt S 0 = 48
      · simp only [if_pos h6]; exact key true
      simp only [if_neg h6]
      by_cases h7 : E < -6176
      · simp only [if_pos h7]; exact key true
      · simp only [if_neg h7]; exact key _
    · simp only [if_neg h4]
      by_cases h7 : E < -6176
      · simp only [if_pos h7]; exact key true
      · simp only [if_neg h7]; exact key _
  · simp only [if_neg h1]
    by_cases h2 : a = 1
    · simp only [if_pos h2]; exact ⟨_, Ev.now _⟩
    · simp only [if_neg h2]; exact ⟨_, Ev.now _⟩
theorem bits_l0 (x4 a : Int) (b : Bool) (S : ByteArray) (E : Int) (hS : S.size ≤ 1000) : ∀ (d : Nat) (i x5 x6 : Int), 0 ≤ i → (S.size : Int) = i + d → ∃ r, Ev (fun k => spec_DecBits.l0 k x4 x5 x6 i a b S E) r
  | 0, i, x5, x6, h0, h => ⟨_, 1, fun k hk => by
    obtain ⟨k, rfl⟩ : ∃ j, k = j + 1 := ⟨k - 1, by omega⟩
    show spec_DecBits.l0 (k + 1) x4 x5 x6 i a b S E = _
    simp only [spec_DecBits.l0]
    rw [if_neg (by omega)]⟩
  | d + 1, i, x5, x6, h0, h => by
    obtain ⟨⟨u, v, t⟩, hu⟩ : ∃ r, spec_decTimes.f x5 x6 ((bt S i - 48) % 256) = some r := ⟨_, rfl⟩
    obtain ⟨r, K, hK⟩ := bits_l0 x4 a b S E hS d (i + 1) u v (by omega) (by omega)
    refine ⟨r, K + 1, fun k hk => ?_⟩
    obtain ⟨k, rfl⟩ : ∃ j, k = j + 1 := ⟨k - 1, by omega⟩
    show spec_DecBits.l0 (k + 1) x4 x5 x6 i a b S E = _
    simp only [spec_DecBits.l0]
    rw [if_pos (by omega), if_pos h0, hu, Option.bind_some, w_id (by omega) (by omega)]
    exact hK k (by omega)
theorem bits_tot (a : Int) (b : Bool) (S : ByteArray) (E : Int) (hS : S.size ≤ 1000) : ∃ r, Ev (fun k => spec_DecBits.f k a b S E) r := by
  have key : ∀ x : Int, ∃ r, Ev (fun k => spec_DecBits.j0 k x a b S E) r := fun x => by
    obtain ⟨r, K, hK⟩ := bits_l0 x a b S E hS S.size 0 0 0 (by omega) (by omega)
    by_cases h1 : a = 1
    · exact ⟨_, 1, fun k hk => by
        obtain ⟨k, rfl⟩ : ∃ j, k = j + 1 := ⟨k - 1, by omega⟩
        show spec_DecBits.j0 (k + 1) x a b S E = _
        simp only [spec_DecBits.j0]
        rw [if_pos h1]⟩
    by_cases h2 : a = 2
    · exact ⟨_, 1, fun k hk => by
        obtain ⟨k, rfl⟩ : ∃ j, k = j + 1 := ⟨k - 1, by omega⟩
        show spec_DecBits.j0 (k + 1) x a b S E = _
        simp only [spec_DecBits.j0]
        rw [if_neg h1, if_pos h2]⟩
    refine ⟨r, K + 1, fun k hk => ?_⟩
    obtain ⟨k, rfl⟩ : ∃ j, k = j + 1 := ⟨k - 1, by omega⟩
    show spec_DecBits.j0 (k + 1) x a b S E = _
    simp only [spec_DecBits.j0]
    rw [if_neg h1, if_neg h2]
    exact hK k (by omega)
  unfold spec_DecBits.f
  cases b
  · exact key 0
  · exact key 9223372036854775808
theorem fits_tot {h l a : Int} {b : Bool} {S : ByteArray} {E : Int} (hS : S.size ≤ 1000) (ho : Ev (fun k => spec_DecOf.f k h l) (a, b, S, E)) : ∃ r, Ev (fun k => laws_decFits.f k h l) r := by
  obtain ⟨t, ht⟩ := is_tot a b S E hS
  obtain ⟨⟨u, v⟩, hu⟩ := bits_tot a b S E hS
  have key : ∀ c : Bool, ∃ r, Ev (fun k => laws_decFits.j0 k h l c a b S E) r := fun c => by
    obtain ⟨K, hK⟩ := hu
    cases c
    · refine ⟨if u = h then v == l else false, K + 1, fun k hk => ?_⟩
      obtain ⟨k, rfl⟩ : ∃ j, k = j + 1 := ⟨k - 1, by omega⟩
      have hk2 : spec_DecBits.f k a b S E = some (u, v) := hK k (by omega)
      show laws_decFits.j0 (k + 1) h l false a b S E = _
      simp only [laws_decFits.j0]
      rw [if_neg (by decide), hk2, Option.bind_some]
      split <;> rfl
    · refine ⟨false, 1, fun k hk => ?_⟩
      obtain ⟨k, rfl⟩ : ∃ j, k = j + 1 := ⟨k - 1, by omega⟩
      show laws_decFits.j0 (k + 1) h l true a b S E = _
      simp only [laws_decFits.j0]
      rw [if_pos trivial]
  have key2 : ∃ r, Ev (fun k => if t = true then (if (Go.bits .and .u64 (h / 2305843009213693952) 3) = 3 then laws_decFits.j0 k h l (a == 0) a b S E else laws_decFits.j0 k h l false a b S E) else laws_decFits.j0 k h l true a b S E) r := by
    by_cases h1 : t = true
    · simp only [if_pos h1]
      by_cases h2 : (Go.bits .and .u64 (h / 2305843009213693952) 3) = 3
      · simp only [if_pos h2]; exact key _
      · simp only [if_neg h2]; exact key _
    · simp only [if_neg h1]; exact key _
  obtain ⟨r, hr⟩ := key2
  refine ⟨r, ?_⟩
  unfold laws_decFits.f
  exact Ev.bind ho (Ev.bind ht hr)
theorem neg_eq (h : Nat) (hh : h < 18446744073709551616) : (bits .and .u64 ((h : Int) / 9223372036854775808) 1 == 0) = !((h : Int) / 9223372036854775808 == 1) := by
  have hd : (h : Int) / 9223372036854775808 = ((h / 9223372036854775808 : Nat) : Int) := by rw [Int.natCast_ediv]; rfl
  rw [hd, show (1 : Int) = ((1 : Nat) : Int) from rfl, maskN _ 1 1 (by omega) (by decide) rfl]
  rcases (by omega : h / 9223372036854775808 = 0 ∨ h / 9223372036854775808 = 1) with h0 | h0 <;> rw [h0] <;> rfl
theorem exp_eq (h s : Nat) (hs : h / s < 18446744073709551616) : wrap64 (wrap64 (bits .and .u64 ((h : Int) / (s : Int)) 16383) + -6176) = ((h / s % 16384 : Nat) : Int) - 6176 := by
  have hd : (h : Int) / (s : Int) = ((h / s : Nat) : Int) := (Int.natCast_ediv h s).symm
  rw [hd, show (16383 : Int) = ((16383 : Nat) : Int) from rfl, maskN _ 14 16383 hs (by decide) rfl, show (2 : Nat) ^ 14 = 16384 from rfl, w_id (x := ((h / s % 16384 : Nat) : Int)) (by omega) (by omega), w_id (by omega) (by omega)]
  omega
/-- The pure law. -/
theorem holds (a0 a1 : Int) (h0 : 0 ≤ a0) (h1 : a0 < 18446744073709551616) (l0 : 0 ≤ a1) (l1 : a1 < 18446744073709551616) : ∃ k, laws_FnDecText.f k a0 a1 = some true := by
  obtain ⟨h, rfl⟩ := Int.eq_ofNat_of_zero_le h0
  obtain ⟨l, rfl⟩ := Int.eq_ofNat_of_zero_le l0
  have hh : h < 18446744073709551616 := by omega
  have hl : l < 18446744073709551616 := by omega
  -- both sides
  obtain ⟨a, b, S, E, t, hof, hS, himp, htx⟩ : ∃ a b S E t, Ev (fun k => spec_DecOf.f k (h : Int) (l : Int)) (a, b, S, E) ∧ S.size ≤ 1000 ∧ decimal128_String.f (h : Int) (l : Int) = some t ∧ Ev (fun k => spec_DecText.f k a b S E) t := by
    unfold spec_DecOf.f decimal128_String.f
    dsimp only
    rw [neg_eq h hh]
    obtain ⟨b, hb⟩ : ∃ b, b = ((h : Int) / 9223372036854775808 == 1) := ⟨_, rfl⟩
    rw [← hb]
    by_cases c30 : bits .and .u64 ((h : Int) / 288230376151711744) 31 = 30
    · refine ⟨1, b, ⟨#[]⟩, 0, strOfNums (sgn (!b)) ++ ⟨#[73, 110, 102, 105, 110, 105, 116, 121]⟩, ?_, Nat.zero_le _, ?_, ?_⟩
      · simp only [if_pos c30]; exact Ev.now _
      · rw [if_neg (by rw [c30]; decide), if_pos c30]
        cases b <;> rfl
      · refine ⟨1, fun k hk => ?_⟩
        obtain ⟨k, rfl⟩ : ∃ j, k = j + 1 := ⟨k - 1, by omega⟩
        show spec_DecText.f (k + 1) 1 b ⟨#[]⟩ 0 = _
        cases b <;> rfl
    by_cases c31 : bits .and .u64 ((h : Int) / 288230376151711744) 31 = 31
    · refine ⟨2, b, ⟨#[]⟩, 0, ⟨#[78, 97, 78]⟩, ?_, Nat.zero_le _, ?_, ?_⟩
      · simp only [if_neg c30, if_pos c31]; exact Ev.now _
      · rw [if_pos c31]
      · refine ⟨1, fun k hk => ?_⟩
        obtain ⟨k, rfl⟩ : ∃ j, k = j + 1 := ⟨k - 1, by omega⟩
        show spec_DecText.f (k + 1) 2 b ⟨#[]⟩ 0 = _
        cases b <;> rfl
    by_cases c3 : bits .and .u64 ((h : Int) / 2305843009213693952) 3 = 3
    · have he := exp_eq h 140737488355328 (by omega)
      have hg := g_eq (!b) (((h / 140737488355328 % 16384 : Nat) : Int) - 6176) 0 0 (by decide) (by decide) (by decide) (by omega) (by omega)
      have ht := text_ev (!b) (((h / 140737488355328 % 16384 : Nat) : Int) - 6176) 0 (by decide) (by omega) (by omega)
      rw [Bool.not_not, show strOfNums (digs 0) = ⟨#[48]⟩ by rw [digs_lt (show 0 < 10 by decide)]; rfl] at ht
      refine ⟨0, b, ⟨#[48]⟩, _, _, ?_, by decide, ?_, ht⟩
      · simp only [if_neg c30, if_neg c31, if_pos c3]
        refine ⟨0, fun _ _ => ?_⟩
        show some _ = some _
        rw [← he]; rfl
      · rw [if_neg c31, if_neg c30, if_pos c3]
        exact (congrArg (fun e => decimal128_String.g (!b) e 0 0) he).trans hg
    · have he := exp_eq h 562949953421312 (by omega)
      have hm : bits .and .u64 (h : Int) 562949953421311 = ((h % 562949953421312 : Nat) : Int) := maskN h 49 562949953421311 hh (by decide) rfl
      have hn : num (h % 562949953421312) l < 10 ^ 35 := by
        unfold num
        have : h % 562949953421312 < 562949953421312 := Nat.mod_lt _ (by decide)
        have e35 : (10 : Nat) ^ 35 = 100000000000000000000000000000000000 := by decide
        rw [e35]; omega
      have hg := g_eq (!b) (((h / 562949953421312 % 16384 : Nat) : Int) - 6176) (h % 562949953421312) l (by omega) hl hn (by omega) (by omega)
      have ht := text_ev (!b) (((h / 562949953421312 % 16384 : Nat) : Int) - 6176) (num (h % 562949953421312) l) hn (by omega) (by omega)
      rw [Bool.not_not] at ht
      refine ⟨0, b, strOfNums (digs (num (h % 562949953421312) l)), _, _, ?_, ?_, ?_, ht⟩
      · simp only [if_neg c30, if_neg c31, if_neg c3, hm]
        refine Ev.bind (dd_ev (h % 562949953421312) l (by omega) hl) ⟨0, fun _ _ => ?_⟩
        show some _ = some _
        rw [← he]; rfl
      · rw [str_size]; have := digs_len 34 _ hn; omega
      · rw [if_neg c31, if_neg c30, if_neg c3, hm]
        exact (congrArg (fun e => decimal128_String.g (!b) e ((h % 562949953421312 : Nat) : Int) (l : Int)) he).trans hg
  obtain ⟨r, hr⟩ := fits_tot hS hof
  have himp2 : impl_DecText.f (h : Int) (l : Int) = some t := by
    unfold impl_DecText.f
    have : bson_NewDecimal128.f (h : Int) (l : Int) = some ((h : Int), (l : Int)) := rfl
    rw [this, Option.bind_some]
    unfold bson_Decimal128_String.f
    rw [himp]; rfl
  have hfin : Ev (fun k => laws_FnDecText.f k (h : Int) (l : Int)) true := by
    unfold laws_FnDecText.f
    refine Ev.bind hr ?_
    cases r
    · exact Ev.now _
    · rw [himp2]
      simp only [if_pos, Option.bind_some]
      refine Ev.bind hof (Ev.bind htx ⟨0, fun _ _ => ?_⟩)
      show some (t.toList == t.toList) = some true
      rw [beq_self_eq_true]
  exact hfin.rounds

end Go.Proofs.YtpbfigeaoefcmaaDoor.PDt.VT
