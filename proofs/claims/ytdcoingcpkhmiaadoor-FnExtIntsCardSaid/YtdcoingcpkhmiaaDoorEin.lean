/- An integer out of a text, by the library's contract of strconv.ParseInt, and the program's functions above it. Conditions: as each theorem states them. -/
import Derived.Test.YtdcoingcpkhmiaaDoorProg
import Derived.Test.YtdcoingcpkhmiaaDoorHW
import Derived.Below
import Derived.Deep.Draws
import Derived.OwnWalk
import Derived.Tactics
import Derived.WalkKit
import Derived.KernelRfl
import Derived.RowKit3
import Derived.Deep.LoopGhost
import Derived.Deep.QuietTactic
import Derived.BigQuiet
import Derived.WideLaws
import Derived.Deep.DeepCutAuto
import Derived.Deep.CutBlock
import Derived.Laws.Rows
import Derived.Outline
import Derived.StillTailTactics
import Derived.Deep.RegionHeld3
import Derived.Test.YtdcoingcpkhmiaaDoorShelf
import Derived.Lib.ParseIntB
namespace Go.Proofs.YtdcoingcpkhmiaaDoor.Ein
open Go.RowKit Go.Proofs.YtdcoingcpkhmiaaDoorW.PrintWords Go.Proofs.YtdcoingcpkhmiaaDoorW.PrintLast Go.Proofs.YtdcoingcpkhmiaaDoorW.PrintMore
set_option linter.unusedVariables false
set_option linter.unusedSimpArgs false

/-- The number that digits spell behind acc. -/
def val (acc : Nat) : List UInt8 → Nat
  | [] => acc
  | c :: r => val (acc * 10 + (c.toNat - 48)) r
def digs (l : List UInt8) : Bool := l.all fun c => decide (48 ≤ c.toNat) && decide (c.toNat ≤ 57)
theorem val_ge : ∀ (l : List UInt8) (acc : Nat), acc ≤ val acc l
  | [], acc => Nat.le_refl _
  | c :: r, acc => Nat.le_trans (by omega) (val_ge r (acc * 10 + (c.toNat - 48)))
theorem val_cons_ge (c : UInt8) (l : List UInt8) (acc : Nat) : acc * 10 ≤ val acc (c :: l) := Nat.le_trans (by omega) (val_ge l (acc * 10 + (c.toNat - 48)))
theorem digs_cons (c : UInt8) (l : List UInt8) : digs (c :: l) = true ↔ (48 ≤ c.toNat ∧ c.toNat ≤ 57) ∧ digs l = true := by
  simp [digs]
theorem uint_digs : ∀ (l : List UInt8) (acc : Nat), digs l = true → acc ≤ 18446744073709551615 → Lib.parseUintM 18446744073709551615 acc l = if val acc l ≤ 18446744073709551615 then .ok (val acc l) else .range
  | [], acc, _, h => by rw [show val acc [] = acc from rfl, if_pos h, Lib.parseUintM]
  | c :: r, acc, hd, h => by
    obtain ⟨⟨h1, h2⟩, hr⟩ := (digs_cons c r).1 hd
    have hg := val_ge r (acc * 10 + (c.toNat - 48))
    rw [Lib.parseUintM, if_pos ⟨h1, h2⟩, show val acc (c :: r) = val (acc * 10 + (c.toNat - 48)) r from rfl]
    by_cases h3 : 1844674407370955162 ≤ acc
    · rw [if_pos h3, if_neg (by omega)]
    · rw [if_neg h3]
      by_cases h4 : 18446744073709551615 < acc * 10 + (c.toNat - 48)
      · rw [if_pos h4, if_neg (by omega)]
      · rw [if_neg h4]
        exact uint_digs r _ hr (by omega)
theorem uint_nodigs : ∀ (l : List UInt8) (acc : Nat) (M : Nat), ¬ digs l = true → ∀ u, Lib.parseUintM M acc l ≠ .ok u
  | [], acc, M, hd, u => absurd rfl hd
  | c :: r, acc, M, hd, u => by
    rw [Lib.parseUintM]
    by_cases h1 : 48 ≤ c.toNat ∧ c.toNat ≤ 57
    · rw [if_pos h1]
      have hr : ¬ digs r = true := fun h => hd ((digs_cons c r).2 ⟨h1, h⟩)
      split
      · intro h; cases h
      · split
        · intro h; cases h
        · exact uint_nodigs r _ M hr u
    · rw [if_neg h1]
      intro h; cases h
/-- The sign's answer and the digits. -/
def sgn : List UInt8 → Bool × List UInt8
  | [] => (false, [])
  | c :: r => if c.toNat = 43 ∨ c.toNat = 45 then (c.toNat == 45, r) else (false, c :: r)
/-- What is read, if it is: an integer of 64 bits. -/
def read64 (l : List UInt8) : Option Int :=
  if (sgn l).2 = [] then none else if digs (sgn l).2 = true then (if (sgn l).1 = true then (if val 0 (sgn l).2 ≤ 9223372036854775808 then some (-(val 0 (sgn l).2 : Int)) else none) else (if val 0 (sgn l).2 < 9223372036854775808 then some (val 0 (sgn l).2 : Int) else none)) else none
theorem parse_read (l : List UInt8) : (∀ v, read64 l = some v → Lib.parseIntB 64 l = .ok v) ∧ (read64 l = none → ∀ v, Lib.parseIntB 64 l ≠ .ok v) := by
  cases l with
  | nil =>
    refine ⟨fun v h => ?_, fun _ v h => ?_⟩
    · simp [read64, sgn] at h
    · cases h
  | cons c r =>
    have key : ∀ (neg : Bool) (d : List UInt8), (c.toNat = 45 ↔ neg = true) → sgn (c :: r) = (neg, d) → (if c.toNat = 43 ∨ c.toNat = 45 then r else c :: r) = d →
        (∀ v, read64 (c :: r) = some v → Lib.parseIntB 64 (c :: r) = .ok v) ∧ (read64 (c :: r) = none → ∀ v, Lib.parseIntB 64 (c :: r) ≠ .ok v) := by
      intro neg d hn hs hd
      have e : Lib.parseIntB 64 (c :: r) = (match Lib.parseUintB 64 d with
        | .«syntax» => .«syntax»
        | .range => .range
        | .ok u => if ¬ (c.toNat = 45) ∧ 2 ^ (64 - 1) ≤ u then .range else if c.toNat = 45 ∧ 2 ^ (64 - 1) < u then .range else .ok (if c.toNat = 45 then -(u : Int) else u)) := by
        rw [← hd]; rfl
      rw [e]
      unfold read64
      rw [hs]
      dsimp only
      by_cases h0 : d = []
      · rw [if_pos h0]
        subst h0
        exact ⟨fun v h => (by cases h), fun _ v h => (by cases h)⟩
      · rw [if_neg h0, Lib.parseUintB, if_neg h0]
        by_cases hdg : digs d = true
        · rw [if_pos hdg]
          have hu := uint_digs d 0 hdg (by omega)
          have hu' : Lib.parseUintM (2 ^ 64 - 1) 0 d = if val 0 d ≤ 18446744073709551615 then .ok (val 0 d) else .range := hu
          rw [hu']
          have e63 : 2 ^ (64 - 1) = 9223372036854775808 := by decide
          rw [e63]
          by_cases hb : val 0 d ≤ 18446744073709551615
          · rw [if_pos hb]
            dsimp only
            cases neg with
            | true =>
              have h45 := hn.2 rfl
              by_cases h9 : val 0 d ≤ 9223372036854775808
              · have h9' : ¬ 9223372036854775808 < val 0 d := by omega
                simp [h45, h9, h9']
              · have h9' : 9223372036854775808 < val 0 d := by omega
                simp [h45, h9, h9']
            | false =>
              have h45 : ¬ c.toNat = 45 := fun h => by have := hn.1 h; cases this
              by_cases h9 : val 0 d < 9223372036854775808
              · have h9' : ¬ 9223372036854775808 ≤ val 0 d := by omega
                simp [h45, h9, h9']
              · have h9' : 9223372036854775808 ≤ val 0 d := by omega
                simp [h45, h9, h9']
          · rw [if_neg hb]
            dsimp only
            have x1 : ¬ val 0 d ≤ 9223372036854775808 := by omega
            have x2 : ¬ val 0 d < 9223372036854775808 := by omega
            cases neg <;> simp [x1, x2]
        · rw [if_neg hdg]
          have hno := uint_nodigs d 0 (2 ^ 64 - 1) hdg
          refine ⟨fun v h => (by cases h), fun _ v => ?_⟩
          cases hp : Lib.parseUintM (2 ^ 64 - 1) 0 d with
          | ok u => exact absurd hp (hno u)
          | «syntax» => intro h; cases h
          | range => intro h; cases h
    by_cases hc : c.toNat = 43 ∨ c.toNat = 45
    · exact key (c.toNat == 45) r (by simp) (by simp [sgn, hc]) (if_pos hc)
    · exact key false (c :: r) ⟨fun h => absurd (.inr h) hc, fun h => (by cases h)⟩ (by simp only [sgn, if_neg hc]) (if_neg hc)
/-- The digits read one by one, as long as the number is at most top. -/
def upTo (top acc : Nat) : List UInt8 → Option Nat
  | [] => some acc
  | c :: r => if (top - (c.toNat - 48)) / 10 < acc then none else upTo top (acc * 10 + (c.toNat - 48)) r
theorem upTo_digs (top : Nat) (ht : 9 ≤ top) : ∀ (l : List UInt8) (acc : Nat), digs l = true → acc ≤ top → upTo top acc l = if val acc l ≤ top then some (val acc l) else none
  | [], acc, _, h => by rw [show val acc [] = acc from rfl, if_pos h, upTo]
  | c :: r, acc, hd, h => by
    obtain ⟨⟨h1, h2⟩, hr⟩ := (digs_cons c r).1 hd
    have hg := val_ge r (acc * 10 + (c.toNat - 48))
    rw [upTo, show val acc (c :: r) = val (acc * 10 + (c.toNat - 48)) r from rfl]
    by_cases h3 : (top - (c.toNat - 48)) / 10 < acc
    · rw [if_pos h3, if_neg (by omega)]
    · rw [if_neg h3]
      exact upTo_digs top ht r _ hr (by omega)
theorem upTo_le (top : Nat) (ht : 9 ≤ top) : ∀ (l : List UInt8) (acc n : Nat), digs l = true → acc ≤ top → upTo top acc l = some n → n ≤ top := by
  intro l acc n hd ha h
  rw [upTo_digs top ht l acc hd ha] at h
  split at h
  · injection h with h; omega
  · cases h
/-- What the specification reads: the number and whether it is one, for a greatest one below top. -/
def told (top : Nat) (l : List UInt8) : Option Int :=
  if (sgn l).2 = [] then none else if digs (sgn l).2 = true then (match upTo top 0 (sgn l).2 with
    | none => none
    | some n => if (sgn l).1 = true then some (-(n : Int)) else if n < top then some (n : Int) else none) else none
theorem told_64 (l : List UInt8) : told 9223372036854775808 l = read64 l := by
  unfold told read64
  by_cases h0 : (sgn l).2 = []
  · rw [if_pos h0, if_pos h0]
  · rw [if_neg h0, if_neg h0]
    by_cases hd : digs (sgn l).2 = true
    · rw [if_pos hd, if_pos hd, upTo_digs _ (by omega) _ _ hd (by omega)]
      by_cases h9 : val 0 (sgn l).2 ≤ 9223372036854775808
      · simp only [if_pos h9]
      · have h8 : ¬ val 0 (sgn l).2 < 9223372036854775808 := by omega
        simp only [if_neg h9, if_neg h8, ite_self]
    · rw [if_neg hd, if_neg hd]
theorem told_32 (l : List UInt8) : told 2147483648 l = (read64 l).bind fun v => if -2147483648 ≤ v ∧ v ≤ 2147483647 then some v else none := by
  unfold told read64
  by_cases h0 : (sgn l).2 = []
  · rw [if_pos h0, if_pos h0]; rfl
  · rw [if_neg h0, if_neg h0]
    by_cases hd : digs (sgn l).2 = true
    · rw [if_pos hd, if_pos hd, upTo_digs _ (by omega) _ _ hd (by omega)]
      generalize val 0 (sgn l).2 = n
      cases (sgn l).1 with
      | true =>
        by_cases h9 : n ≤ 2147483648
        · have a : n ≤ 9223372036854775808 := by omega
          have b : -2147483648 ≤ -(n : Int) ∧ -(n : Int) ≤ 2147483647 := by omega
          simp [h9, a, b]
        · by_cases a : n ≤ 9223372036854775808
          · have b : ¬ (-2147483648 ≤ -(n : Int) ∧ -(n : Int) ≤ 2147483647) := by omega
            simp only [if_neg h9, if_pos a, Option.bind_some, if_neg b, if_true]
          · simp [h9, a]
      | false =>
        by_cases h9 : n ≤ 2147483648
        · have a : n < 9223372036854775808 := by omega
          by_cases b : n < 2147483648
          · have b' : -2147483648 ≤ (n : Int) ∧ (n : Int) ≤ 2147483647 := by omega
            simp only [if_pos h9, if_pos a, if_pos b, Option.bind_some, if_pos b', Bool.false_eq_true, if_false]
          · have b' : ¬ (-2147483648 ≤ (n : Int) ∧ (n : Int) ≤ 2147483647) := by omega
            simp only [if_pos h9, if_pos a, if_neg b, Option.bind_some, if_neg b', Bool.false_eq_true, if_false]
        · by_cases a : n < 9223372036854775808
          · have b' : ¬ (-2147483648 ≤ (n : Int) ∧ (n : Int) ≤ 2147483647) := by omega
            simp only [if_neg h9, if_pos a, Option.bind_some, if_neg b', Bool.false_eq_true, if_false]
          · simp [h9, a]
    · rw [if_neg hd, if_neg hd]; rfl

open Go.Lib
/-- What the variables hold that an integer of a text may lead to. -/
def LaidE (w : World) : Prop := (∃ T p, w.cell? ⟨0, 0, none⟩ = some (.iface T p)) ∧ (∃ T p, w.cell? ⟨1, 0, none⟩ = some (.iface T p))
theorem LaidE.below {w w' : World} (h : LaidE w) {n : Nat} (hn : 1 < n) (hb : Below n w w') : LaidE w' := by
  obtain ⟨⟨T, p, h0⟩, ⟨T1, p1, h1⟩⟩ := h
  exact ⟨⟨T, p, (hb.cell (p := ⟨0, 0, none⟩) (by show 0 < n; omega)).trans h0⟩, ⟨T1, p1, (hb.cell (p := ⟨1, 0, none⟩) (by show 1 < n; omega)).trans h1⟩⟩
theorem LaidE.lt {w : World} (h : LaidE w) : 1 < w.heap.size := by
  obtain ⟨_, ⟨T1, p1, h1⟩⟩ := h
  exact World.block_lt_of_cell? w ⟨1, 0, none⟩ h1
/-- How a call ends that reads an integer. -/
def IntOut (k : IntKind) (r : Option Int) (w : World) (e : Ending) (w' : World) : Prop := ∃ n ev, e = .returned (.tuple #[.int k n, ev]) ∧ ((ev = .nilIface ∧ r = some n) ∨ ((∃ T p, ev = .iface T p) ∧ r = none)) ∧ Below w.heap.size w w'
def IntOut2 (k : IntKind) (r : Option Int) (w : World) (e : Ending) (w' : World) : Prop := ∃ ev, e = .returned (.tuple #[.int k (r.getD 0), ev]) ∧ ((ev = .nilIface ∧ r.isSome = true) ∨ ((∃ T p, ev = .iface T p) ∧ r.isSome = false)) ∧ Below w.heap.size w w'
theorem ne_guard (T : TypeId) (p : Value) (x y : Operand) : eqGuard .neq 30 x y (.iface T p) .nilIface = pure () := rfl
theorem ne_run (T : TypeId) (p : Value) (W : World) : (binOp .neq 30 (.iface T p) .nilIface).run Tryd.prog W = .ok (.bool true) W := by
  first | rfl | (simp [binOp, go_sem]; done) | (go_simp; done)
theorem hta (s : ByteArray) (W : World) : (Instr.typeAssert (.iface 9 (.string s)) 20 9 false).run Tryd.prog W = .ok (.string s) W := by kernel_rfl
theorem pi_calls (s : ByteArray) (w : World) (hs : s.size ≤ 281474976710656) (hg : LaidE w) : Calls Tryd.prog 13 #[.string s, .int .i64 10, .int .i64 64] w (IntOut .i64 (read64 s.data.toList) w) := by
  obtain ⟨⟨T0, p0, h0⟩, ⟨T1, p1, h1⟩⟩ := hg
  obtain ⟨hsome, hnone⟩ := parse_read s.data.toList
  cases hr : read64 s.data.toList with
  | some v =>
    refine (Tryd.strconv_ParseInt_10_at64_ok s (by omega) v (hsome v hr) w).mono ?_
    rintro e w' ⟨rfl, hw⟩
    refine ⟨v, .nilIface, rfl, .inl ⟨rfl, rfl⟩, ?_⟩
    rcases hw with rfl | ⟨t, rfl⟩
    · exact Below.refl _ _
    · exact Lib.bytesWorld_below _ _ _
  | none =>
    have hno := hnone hr
    cases hp : Lib.parseIntB 64 s.data.toList with
    | ok v => exact absurd hp (hno v)
    | «syntax» =>
      refine (Tryd.strconv_ParseInt_10_at64_syntax s hs hp _ w h0 (.inr ⟨T0, p0, rfl⟩)).mono ?_
      rintro e w' ⟨N, rfl, _, _, hb⟩
      exact ⟨0, _, rfl, .inr ⟨⟨_, _, rfl⟩, rfl⟩, hb⟩
    | range =>
      refine (Tryd.strconv_ParseInt_10_at64_range s hs hp _ w h1 (.inr ⟨T1, p1, rfl⟩)).mono ?_
      rintro e w' ⟨N, rfl, _, _, hb⟩
      exact ⟨_, _, rfl, .inr ⟨⟨_, _, rfl⟩, rfl⟩, hb⟩
set_option maxHeartbeats 4000000 in
set_option maxRecDepth 100000 in
theorem p64_calls (g : Nat) (s : ByteArray) (w : World) (hs : s.size ≤ 281474976710656) (hg : LaidE w) (c0 : w.cell? ⟨g, 0, none⟩ = some (.int .u8 2)) (c1 : w.cell? ⟨g, 1, none⟩ = some (.iface 9 (.string s))) : Calls Tryd.prog 11 #[.pointer (some ⟨g, 0, none⟩)] w (IntOut2 .i64 (read64 s.data.toList) w) := by
  have ht := hta s
  go_enter Tryd.func11, Tryd.ntmps11
  go_wp2_with (first | (go_at_call 13; refine (pi_calls s _ hs hg).mono ?_; rintro e w2 ⟨n, ev, rfl, hev, hB2⟩; have HE := Aside0.mk hev; have HB := Aside0.mk hB2; clear hev hB2))
  rcases HE.out with ⟨rfl, hr⟩ | ⟨⟨T, p, rfl⟩, hr⟩
  · go_wp2; go_ret2
    exact ⟨.nilIface, by rw [hr]; rfl, .inl ⟨rfl, by rw [hr]; rfl⟩, HB.out⟩
  · have q1 := ne_guard T p
    have q2 := ne_run T p
    go_wp2
    simp only [q1, q2, Sem.run_pure, Result.andThen_ok]
    go_wp2; go_ret2
    exact ⟨_, by rw [hr]; rfl, .inr ⟨⟨T, p, rfl⟩, by rw [hr]; rfl⟩, HB.out⟩
def read32 (l : List UInt8) : Option Int := (read64 l).bind fun v => if -2147483648 ≤ v ∧ v ≤ 2147483647 then some v else none
set_option maxHeartbeats 4000000 in
set_option maxRecDepth 100000 in
theorem p32_calls (g : Nat) (s : ByteArray) (w : World) (hs : s.size ≤ 281474976710656) (hg : LaidE w) (c0 : w.cell? ⟨g, 0, none⟩ = some (.int .u8 2)) (c1 : w.cell? ⟨g, 1, none⟩ = some (.iface 9 (.string s))) : Calls Tryd.prog 10 #[.pointer (some ⟨g, 0, none⟩)] w (IntOut2 .i32 (read32 s.data.toList) w) := by
  have ht := hta s
  go_enter Tryd.func10, Tryd.ntmps10
  go_wp2_with (first | (go_at_call 13; refine (pi_calls s _ hs hg).mono ?_; rintro e w2 ⟨n, ev, rfl, hev, hB2⟩; have HE := Aside0.mk hev; have HB := Aside0.mk hB2; clear hev hB2))
  rcases HE.out with ⟨rfl, hr⟩ | ⟨⟨T, p, rfl⟩, hr⟩
  · have e32 : read32 s.data.toList = if -2147483648 ≤ n ∧ n ≤ 2147483647 then some n else none := by unfold read32; rw [hr]; rfl
    by_cases hlo : n < -2147483648
    · have d1 : decide (n < -2147483648) = true := decide_eq_true hlo
      rw [if_neg (by omega)] at e32
      go_wp2; go_ret2
      exact ⟨_, by rw [e32]; rfl, .inr ⟨⟨_, _, rfl⟩, by rw [e32]; rfl⟩, HB.out.alloc (by have := HB.out.size; omega) _⟩
    · have d1 : decide (n < -2147483648) = false := decide_eq_false hlo
      by_cases hhi : n > 2147483647
      · have d2 : decide (2147483647 < n) = true := decide_eq_true hhi
        rw [if_neg (by omega)] at e32
        go_wp2; go_ret2
        exact ⟨_, by rw [e32]; rfl, .inr ⟨⟨_, _, rfl⟩, by rw [e32]; rfl⟩, HB.out.alloc (by have := HB.out.size; omega) _⟩
      · have d2 : decide (2147483647 < n) = false := decide_eq_false hhi
        rw [if_pos (by omega)] at e32
        have hw : IntKind.i32.wrap n = n := by rw [IntKind.wrap_i32]; omega
        go_wp2; go_ret2
        exact ⟨.nilIface, by rw [e32]; rfl, .inl ⟨rfl, by rw [e32]; rfl⟩, HB.out⟩
  · have q1 := ne_guard T p
    have q2 := ne_run T p
    go_wp2
    simp only [q1, q2, Sem.run_pure, Result.andThen_ok]
    go_wp2; go_ret2
    have e32 : read32 s.data.toList = none := by unfold read32; rw [hr]; rfl
    exact ⟨_, by rw [e32]; rfl, .inr ⟨⟨T, p, rfl⟩, by rw [e32]; rfl⟩, HB.out⟩
set_option maxHeartbeats 4000000 in
set_option maxRecDepth 100000 in
theorem zz64_calls (s : ByteArray) (w : World) (hs : s.size ≤ 281474976710656) (hg : LaidE w) : Calls Tryd.prog 9 #[.string s] w (IntOut2 .i64 (read64 s.data.toList) w) := by
  have HG := Aside0.mk hg
  clear hg
  have B0 : ∀ o, Below w.heap.size w (w.alloc o) := fun o => (Below.refl _ w).alloc (Nat.le_refl _) o
  go_enter Tryd.func9, Tryd.ntmps9
  go_wp2_with (first | (go_at_call 11; refine (p64_calls _ s _ hs (HG.out.below HG.out.lt (B0 _)) (by go_simp) (by go_simp)).mono ?_; rintro e w2 ⟨ev, rfl, hev, hB2⟩; have HE := Aside0.mk hev; have HB := Aside0.mk ((B0 _).trans (hB2.mono (by simp))); clear hev hB2))
  go_wp2; go_ret2
  exact ⟨ev, rfl, HE.out, HB.out⟩
set_option maxHeartbeats 4000000 in
set_option maxRecDepth 100000 in
theorem zz32_calls (s : ByteArray) (w : World) (hs : s.size ≤ 281474976710656) (hg : LaidE w) : Calls Tryd.prog 8 #[.string s] w (IntOut2 .i32 (read32 s.data.toList) w) := by
  have HG := Aside0.mk hg
  clear hg
  have B0 : ∀ o, Below w.heap.size w (w.alloc o) := fun o => (Below.refl _ w).alloc (Nat.le_refl _) o
  go_enter Tryd.func8, Tryd.ntmps8
  go_wp2_with (first | (go_at_call 10; refine (p32_calls _ s _ hs (HG.out.below HG.out.lt (B0 _)) (by go_simp) (by go_simp)).mono ?_; rintro e w2 ⟨ev, rfl, hev, hB2⟩; have HE := Aside0.mk hev; have HB := Aside0.mk ((B0 _).trans (hB2.mono (by simp))); clear hev hB2))
  go_wp2; go_ret2
  exact ⟨ev, rfl, HE.out, HB.out⟩
/-- How a call ends that tells an integer and whether there is one. -/
def TellOut (k : IntKind) (r : Option Int) (w : World) (e : Ending) (w' : World) : Prop := e = .returned (.tuple #[.int k (r.getD 0), .bool r.isSome]) ∧ Below w.heap.size w w'
set_option maxHeartbeats 4000000 in
set_option maxRecDepth 100000 in
theorem ei64_calls (s : ByteArray) (w : World) (hs : s.size ≤ 281474976710656) (hg : LaidE w) : Calls Tryd.prog 6 #[.string s] w (TellOut .i64 (read64 s.data.toList) w) := by
  go_enter Tryd.func6, Tryd.ntmps6
  go_wp2_with (first | (go_at_call 9; refine (zz64_calls s _ hs hg).mono ?_; rintro e w2 ⟨ev, rfl, hev, hB2⟩; have HE := Aside0.mk hev; have HB := Aside0.mk hB2; clear hev hB2))
  rcases HE.out with ⟨rfl, hr⟩ | ⟨⟨T, p, rfl⟩, hr⟩
  · go_region
    go_wp2; go_ret2
    exact ⟨by rw [hr]; rfl, below_drew HB.out⟩
  · go_region
    go_wp2; go_ret2
    exact ⟨by rw [hr]; rfl, below_drew HB.out⟩
set_option maxHeartbeats 4000000 in
set_option maxRecDepth 100000 in
theorem ei32_calls (s : ByteArray) (w : World) (hs : s.size ≤ 281474976710656) (hg : LaidE w) : Calls Tryd.prog 5 #[.string s] w (TellOut .i32 (read32 s.data.toList) w) := by
  go_enter Tryd.func5, Tryd.ntmps5
  go_wp2_with (first | (go_at_call 8; refine (zz32_calls s _ hs hg).mono ?_; rintro e w2 ⟨ev, rfl, hev, hB2⟩; have HE := Aside0.mk hev; have HB := Aside0.mk hB2; clear hev hB2))
  rcases HE.out with ⟨rfl, hr⟩ | ⟨⟨T, p, rfl⟩, hr⟩
  · go_region
    go_wp2; go_ret2
    exact ⟨by rw [hr]; rfl, below_drew HB.out⟩
  · go_region
    go_wp2; go_ret2
    exact ⟨by rw [hr]; rfl, below_drew HB.out⟩

end Go.Proofs.YtdcoingcpkhmiaaDoor.Ein
