/- Printed by a program of this session (a turned copy of the printer of the kit): contracts of functions of the translation, each with the Lean function that it computes. Conditions: as each theorem states them. -/
import Derived.Test.YtlcgakpnpdkjjaaDoorPBzx0
namespace Go.Proofs.YtlcgakpnpdkjjaaDoor.PBz
open Go.RowKit Go.Proofs.YtlcgakpnpdkjjaaDoorW.PrintWords Go.Proofs.YtlcgakpnpdkjjaaDoorW.PrintLast Go.Proofs.YtlcgakpnpdkjjaaDoorW.PrintMore
attribute [local go_sem] max2_int min2_int max_two min_two max_three min_three max_four min_four   -- for this text's walks alone
set_option linter.unusedVariables false
set_option linter.unusedSimpArgs false

/-! ### spec_DocFind: function 8 -/
def spec_DocFind.l0 : Nat → List (S34) → ByteArray → Int → Option (Int)
  | 0, _, _, _ => none
  | k + 1, x0, x1, x5 => if x5 < (x0.length : Int) then (if 0 ≤ x5 then (if ((rd_T34 x0 x5).f0).toList = x1.toList then (some x5) else (spec_DocFind.l0 k x0 x1 (wrap64 (x5 + 1)))) else (none)) else (some (-1))
def spec_DocFind.f (k : Nat) (l0 : List (S34)) (a1 : ByteArray) : Option (Int) := spec_DocFind.l0 k l0 a1 0
theorem spec_DocFind.mono_l : ∀ k, (∀ y0 y1 y2, LeO (spec_DocFind.l0 k y0 y1 y2) (spec_DocFind.l0 (k + 1) y0 y1 y2))
  | 0 => fun _ _ _ r h => by simp [spec_DocFind.l0] at h
  | k + 1 => by
    have ih0 := spec_DocFind.mono_l k
    · intro y0 y1 y2
      unfold spec_DocFind.l0
      repeat' first
      | (with_reducible exact ih0 _ _ _)
      | (with_reducible exact LeO.refl _)
      | (with_reducible exact LeO.none _)
      | (with_reducible refine LeO.ite ?_ ?_)
      | (with_reducible refine LeO.bind ?_ (fun _ => ?_))
      | exact ih0 _ _ _
      | exact LeO.none _
      | refine LeO.ite ?_ ?_
      | refine LeO.bind ?_ (fun _ => ?_)
theorem spec_DocFind.mono : ∀ a0 a1 k, LeO (spec_DocFind.f k a0 a1) (spec_DocFind.f (k + 1) a0 a1) := by
  intro a0 a1 k
  have ih0 := spec_DocFind.mono_l k
  unfold spec_DocFind.f
  repeat' first
      | (with_reducible exact ih0 _ _ _)
      | (with_reducible exact LeO.refl _)
      | (with_reducible exact LeO.none _)
      | (with_reducible refine LeO.ite ?_ ?_)
      | (with_reducible refine LeO.bind ?_ (fun _ => ?_))
      | exact ih0 _ _ _
      | exact LeO.none _
      | refine LeO.ite ?_ ?_
      | refine LeO.bind ?_ (fun _ => ?_)
set_option maxHeartbeats 8000000 in
set_option maxRecDepth 100000 in
theorem spec_DocFind.calls (k : Nat) (A0 : Option Addr) (c0 : Nat) (l0 : List (S34)) (a1 : ByteArray) (r : Int) (w : World) (hr0 : Kd.C k34 w A0 l0.length l0) (hc0 : l0.length ≤ c0) (h : spec_DocFind.f k l0 a1 = some r) :
    Calls Tryd.prog 8 #[.slice A0 l0.length c0, .string a1] w fun e w' => e = .returned (.int .i64 r) ∧ Drawn0 w w' := by
  have HR0 := Aside0.mk hr0
  have HC0 := Aside0.mk hc0
  clear hr0 hc0
  have H : (spec_DocFind.l0 k l0 a1 0) = some r := h
  clear h
  have H' := Aside0.mk H
  clear H
  go_enter Tryd.func8, Tryd.ntmps8
  go_wp2
  go_loopg [5] k (fun kq v5 w' => ∃ (x5_1 : Int), v5 = .int .i64 x5_1 ∧ Aside0 (spec_DocFind.l0 kq l0 a1 x5_1 = some r) ∧ Aside0 (kq ≤ k) ∧ Drawn0 w w')
  case atStart => exact ⟨(0), (by first | rfl | (simp; done) | (simp [*]; done)), H', ⟨Nat.le_refl _⟩, by repeat (first | exact Drawn0.refl _ | apply Drawn0.step)⟩
  case round =>
    clear H'
    try clear p2
    obtain ⟨x5_1, rfl, HA, HK1, ⟨m1, rfl⟩⟩ := hrel
    cases gk with
    | zero => exact absurd HA.out (by simp [spec_DocFind.l0])
    | succ k1 =>
      have H := HA.out
      clear HA
      simp only [spec_DocFind.l0] at H
      by_cases c3 : x5_1 < (l0.length : Int)
      rotate_left
      · rw [if_neg c3] at H
        have c3b0 : decide (x5_1 < (l0.length : Int)) = false := decide_eq_false c3
        clear c3
        as_aux_lemma =>
          obtain rfl := Option.some.inj H
          go_wp2
          go_ret
          exact ⟨by first | rfl | (simp; done) | (simp [*]; done), by repeat (first | exact Drawn0.refl _ | apply Drawn0.step)⟩
      rw [if_pos c3] at H
      have c3b0 : decide (x5_1 < (l0.length : Int)) = true := decide_eq_true c3
      clear c3
      by_cases c4 : 0 ≤ x5_1
      rotate_left
      · rw [if_neg c4] at H
        exact absurd H (by simp)
      rw [if_pos c4] at H
      have c4b0 : decide (0 ≤ x5_1) = true := decide_eq_true c4
      clear c4
      by_cases c5 : ((rd_T34 l0 x5_1).f0).toList = a1.toList
      · rw [if_pos c5] at H
        have c5b0 : (((rd_T34 l0 x5_1).f0).toList == a1.toList) = true := beq_iff_eq.mpr c5
        have c5b1 : (((rd_T34 l0 x5_1).f0).toList != a1.toList) = false := bne_eq_false_iff_eq.mpr c5
        clear c5
        as_aux_lemma =>
          obtain rfl := Option.some.inj H
          have p377 : 0 ≤ (x5_1 : Int) := of_decide_eq_true (by first | (with_reducible assumption) | assumption)
          have q377 : x5_1 < (l0.length : Int) := of_decide_eq_true (by first | (with_reducible assumption) | assumption)
          obtain ⟨ad377, A377_7, c377_7, A377_8, c377_8, e377, hx377_0, hx377_1, hx377_2, hx377_3, hx377_4, hx377_5, hx377_6, hx377_7, hx377_8, hl377_7, hi377_7, hl377_8, hi377_8⟩ := at_T34 HR0.out x5_1 p377 q377
          cases e377
          have HR377_7 := Aside0.mk hi377_7
          have HC377_7 := Aside0.mk hl377_7
          clear hi377_7 hl377_7
          have HR377_8 := Aside0.mk hi377_8
          have HC377_8 := Aside0.mk hl377_8
          clear hi377_8 hl377_8
          replace p377 := eq_true p377
          replace q377 := eq_true q377
          go_wp2
          go_ret
          exact ⟨by first | rfl | (simp; done) | (simp [*]; done), by repeat (first | exact Drawn0.refl _ | apply Drawn0.step)⟩
      rw [if_neg c5] at H
      have c5b0 : (((rd_T34 l0 x5_1).f0).toList == a1.toList) = false := beq_eq_false_iff_ne.mpr c5
      have c5b1 : (((rd_T34 l0 x5_1).f0).toList != a1.toList) = true := bne_iff_ne.mpr c5
      as_aux_lemma =>
        have H' := Aside0.mk H
        clear H
        have p377 : 0 ≤ (x5_1 : Int) := of_decide_eq_true (by first | (with_reducible assumption) | assumption)
        have q377 : x5_1 < (l0.length : Int) := of_decide_eq_true (by first | (with_reducible assumption) | assumption)
        obtain ⟨ad377, A377_7, c377_7, A377_8, c377_8, e377, hx377_0, hx377_1, hx377_2, hx377_3, hx377_4, hx377_5, hx377_6, hx377_7, hx377_8, hl377_7, hi377_7, hl377_8, hi377_8⟩ := at_T34 HR0.out x5_1 p377 q377
        cases e377
        have HR377_7 := Aside0.mk hi377_7
        have HC377_7 := Aside0.mk hl377_7
        clear hi377_7 hl377_7
        have HR377_8 := Aside0.mk hi377_8
        have HC377_8 := Aside0.mk hl377_8
        clear hi377_8 hl377_8
        replace p377 := eq_true p377
        replace q377 := eq_true q377
        go_wp2
        go_roundg k1
        case measure => have := HK1.out; omega
        case rel => exact ⟨(wrap64 (x5_1 + 1)), (by first | rfl | (simp; done) | (simp [*]; done)), H', ⟨by have := HK1.out; omega⟩, by repeat (first | exact Drawn0.refl _ | apply Drawn0.step)⟩

/-! ### bytes_IndexByte: function 55 -/
def bytes_IndexByte.f (l0 : List Int) (a1 : Int) : Option (Int) := some (Lib.indexByte (Lib.bytesOf l0) a1.toNat.toUInt8)
set_option maxHeartbeats 1000000 in
set_option maxRecDepth 100000 in
theorem bytes_IndexByte.calls (A0 : Option Addr) (c0 : Nat) (l0 : List Int) (a1 : Int) (r : Int) (w : World) (hr0 : Kd.C (Kd.int .u8) w A0 l0.length l0) (_hc0 : l0.length ≤ c0) (h : bytes_IndexByte.f l0 a1 = some r) :
    Calls Tryd.prog 55 #[.slice A0 l0.length c0, .int .u8 a1] w fun e w' => e = .returned (.int .i64 r) ∧ Drawn0 w w' := by
  obtain rfl := Option.some.inj h
  clear h
  have HR := Kd.reads_of_C (enc := Value.int .u8) (d := (0 : Int)) (h1 := fun _ => rfl) hr0
  clear hr0
  cases A0 with
  | none =>
    have hl : l0 = [] := by
      rcases Nat.eq_zero_or_pos l0.length with hz | hz
      · exact List.eq_nil_of_length_eq_zero hz
      obtain ⟨_, he, _⟩ := HR.2.2 hz
      cases he
    subst hl
    go_enter Tryd.func55, Tryd.ntmps55
    go_wp2
    rw [run_callFunc_extern Tryd.func62 (by kernel_rfl) (by kernel_rfl) (by kernel_rfl) (e := Extern.BytealgIndexByte.indexByte) (by kernel_rfl), Lib.run_indexByteNil w]
    simp only [Result.andThen]
    rw [Oper.upon_value]
    go_wp2
    go_ret
    exact ⟨rfl, ⟨0, rfl⟩⟩
  | some a =>
    have hc : ∀ i, i < l0.length → w.cell? (a.add i) = some (.int .u8 (l0.getD i 0)) := by
      intro i hi
      obtain ⟨ad, he, hc⟩ := HR.2.2 (by omega)
      cases he
      exact hc i hi
    clear HR
    go_enter Tryd.func55, Tryd.ntmps55
    go_wp2
    rw [run_callFunc_extern Tryd.func62 (by kernel_rfl) (by kernel_rfl) (by kernel_rfl) (e := Extern.BytealgIndexByte.indexByte) (by kernel_rfl), Lib.run_indexByteAt w a l0.length c0 l0 rfl hc a1]
    simp only [Result.andThen]
    rw [Oper.upon_value]
    go_wp2
    go_ret
    exact ⟨rfl, ⟨0, rfl⟩⟩

/-! ### binaryutil_ReadI32: function 57 -/
def binaryutil_ReadI32.f (l0 : List Int) : Option (Int × List Int × Bool) := if (l0.length : Int) < 4 then (some (0, l0, false)) else (if 3 < (l0.length : Int) then (if 0 < (l0.length : Int) then (if 1 < (l0.length : Int) then (if 2 < (l0.length : Int) then (if 4 ≤ (l0.length : Int) then (some (Go.bits .or .i32 (Go.bits .or .i32 (Go.bits .or .i32 (wrap32 (rd l0 0)) (wrap32 ((wrap32 (rd l0 1)) * 256))) (wrap32 ((wrap32 (rd l0 2)) * 65536))) (wrap32 ((wrap32 (rd l0 3)) * 16777216)), (l0.drop 4), true)) else (none)) else (none)) else (none)) else (none)) else (none))
set_option maxHeartbeats 8000000 in
set_option maxRecDepth 100000 in
theorem binaryutil_ReadI32.calls (P0_ : Nat → Prop) (A0 : Option Addr) (c0 : Nat) (l0 : List Int) (r1 : Int) (r2 : List Int) (r3 : Bool) (w : World) (hs0 : Kd.V (Kd.int .u8) 5 w w.heap.size (fun k_ => P0_ k_) (.slice A0 l0.length c0) l0) (h : binaryutil_ReadI32.f l0 = some (r1, r2, r3)) :
    Calls Tryd.prog 57 #[.slice A0 l0.length c0] w fun e w' => ∃ v1_ : Value, e = .returned (.tuple #[.int .i32 r1, v1_, .bool r3]) ∧ Kd.V (Kd.int .u8) 5 w' w.heap.size (fun k_ => (P0_ k_ ∨ w.heap.size ≤ k_)) v1_ r2 ∧ Below w.heap.size w w' := by
  have HO0 := Aside0.mk (show Kd.V (Kd.int .u8) 5 w w.heap.size (fun k_ => (P0_ k_ ∨ w.heap.size ≤ k_)) (.slice A0 l0.length c0) l0 from Kd.V_mono hs0 (fun k_ hk => .inl hk))
  have HB := Aside0.mk (Below.refl w.heap.size w)
  have H : (if (l0.length : Int) < 4 then (some (0, l0, false)) else (if 3 < (l0.length : Int) then (if 0 < (l0.length : Int) then (if 1 < (l0.length : Int) then (if 2 < (l0.length : Int) then (if 4 ≤ (l0.length : Int) then (some (Go.bits .or .i32 (Go.bits .or .i32 (Go.bits .or .i32 (wrap32 (rd l0 0)) (wrap32 ((wrap32 (rd l0 1)) * 256))) (wrap32 ((wrap32 (rd l0 2)) * 65536))) (wrap32 ((wrap32 (rd l0 3)) * 16777216)), (l0.drop 4), true)) else (none)) else (none)) else (none)) else (none)) else (none))) = some (r1, r2, r3) := h
  clear h
  by_cases c2 : (l0.length : Int) < 4
  · rw [if_pos c2] at H
    have c2b0 : decide ((l0.length : Int) < 4) = true := decide_eq_true c2
    have c2b1 : decide (l0.length < 4) = true := decide_eq_true (by omega)
    clear c2
    as_aux_lemma =>
      simp only [Option.some.injEq, Prod.mk.injEq] at H
      obtain ⟨rfl, rfl, rfl⟩ := H
      go_enter Tryd.func57, Tryd.ntmps57
      go_wp2
      repeat (go_quiet (fail); try go_wp2)
      go_ret3
      exact ⟨_, by first | rfl | (simp [errW_none, errW_some] <;> rfl) | (simp [*, errW_none, errW_some] <;> rfl), HW.zV HO0.out, HW.zb⟩
  rw [if_neg c2] at H
  have c2b0 : decide ((l0.length : Int) < 4) = false := decide_eq_false c2
  have c2b1 : decide (l0.length < 4) = false := decide_eq_false (by omega)
  clear c2
  by_cases c3 : 3 < (l0.length : Int)
  rotate_left
  · rw [if_neg c3] at H
    exact absurd H (by simp)
  rw [if_pos c3] at H
  have c3b0 : decide (3 < (l0.length : Int)) = true := decide_eq_true c3
  have c3b1 : decide (3 < l0.length) = true := decide_eq_true (by omega)
  clear c3
  by_cases c4 : 0 < (l0.length : Int)
  rotate_left
  · rw [if_neg c4] at H
    exact absurd H (by simp)
  rw [if_pos c4] at H
  have c4b0 : decide (0 < (l0.length : Int)) = true := decide_eq_true c4
  have c4b1 : decide (0 < l0.length) = true := decide_eq_true (by omega)
  clear c4
  by_cases c5 : 1 < (l0.length : Int)
  rotate_left
  · rw [if_neg c5] at H
    exact absurd H (by simp)
  rw [if_pos c5] at H
  have c5b0 : decide (1 < (l0.length : Int)) = true := decide_eq_true c5
  have c5b1 : decide (1 < l0.length) = true := decide_eq_true (by omega)
  clear c5
  by_cases c6 : 2 < (l0.length : Int)
  rotate_left
  · rw [if_neg c6] at H
    exact absurd H (by simp)
  rw [if_pos c6] at H
  have c6b0 : decide (2 < (l0.length : Int)) = true := decide_eq_true c6
  have c6b1 : decide (2 < l0.length) = true := decide_eq_true (by omega)
  clear c6
  by_cases c7 : 4 ≤ (l0.length : Int)
  rotate_left
  · rw [if_neg c7] at H
    exact absurd H (by simp)
  rw [if_pos c7] at H
  have c7b0 := eq_true c7
  have c7b1 : decide (4 ≤ (l0.length : Int)) = true := decide_eq_true c7
  clear c7
  obtain ⟨y384, hy384⟩ : ∃ y_ : List Int, y_ = (l0.drop 4) := ⟨_, rfl⟩
  replace H : (some (Go.bits .or .i32 (Go.bits .or .i32 (Go.bits .or .i32 (wrap32 (rd l0 0)) (wrap32 ((wrap32 (rd l0 1)) * 256))) (wrap32 ((wrap32 (rd l0 2)) * 65536))) (wrap32 ((wrap32 (rd l0 3)) * 16777216)), y384, true)) = some (r1, r2, r3) := by first | (rw [hy384]; with_reducible exact H) | (have H2_ := (Option.bind_some _ _).symm.trans H; rw [hy384]; with_reducible exact H2_) | (have H2_ := (Option.bind_some _ _).symm.trans H; with_reducible exact H2_) | with_reducible exact H | (rw [hy384]; exact H) | exact H
  have Ny384 := Aside0.mk hy384
  clear hy384
  as_aux_lemma =>
    simp only [Option.some.injEq, Prod.mk.injEq] at H
    obtain ⟨rfl, rfl, rfl⟩ := H
    have p379 : 0 ≤ (3 : Int) := (by omega)
    have q379 : 3 < (l0.length : Int) := of_decide_eq_true (by first | (with_reducible assumption) | assumption)
    obtain ⟨ad379, e379, hx379_0⟩ := Kd.at_int (Kd.V_reads' HO0.out).2.2 3 p379 q379
    cases e379
    (try simp only [show (3 : Int).toNat = 3 from rfl, Nat.reduceMul, Nat.reduceEqDiff, Go.Addr.add, ↓reduceIte] at hx379_0)
    have qi379 : (3 < l0.length) = True := eq_true (by omega)
    (try rw [show ((3 : Int)).toNat = 3 from rfl] at hx379_0)
    replace p379 := eq_true p379
    replace q379 := eq_true q379
    have p380 : 0 ≤ (0 : Int) := (by omega)
    have q380 : 0 < (l0.length : Int) := of_decide_eq_true (by first | (with_reducible assumption) | assumption)
    obtain ⟨ad380, e380, hx380_0⟩ := Kd.at_int (Kd.V_reads' HO0.out).2.2 0 p380 q380
    obtain rfl : ad379 = ad380 := (by injection e380)
    have qi380 : (0 < l0.length) = True := eq_true (by omega)
    (try rw [show ((0 : Int)).toNat = 0 from rfl] at hx380_0)
    (try rw [Addr.add_zero'] at hx380_0)
    replace p380 := eq_true p380
    replace q380 := eq_true q380
    have p381 : 0 ≤ (1 : Int) := (by omega)
    have q381 : 1 < (l0.length : Int) := of_decide_eq_true (by first | (with_reducible assumption) | assumption)
    obtain ⟨ad381, e381, hx381_0⟩ := Kd.at_int (Kd.V_reads' HO0.out).2.2 1 p381 q381
    obtain rfl : ad379 = ad381 := (by injection e381)
    (try simp only [show (1 : Int).toNat = 1 from rfl, Nat.reduceMul, Nat.reduceEqDiff, Go.Addr.add, ↓reduceIte] at hx381_0)
    have qi381 : (1 < l0.length) = True := eq_true (by omega)
    (try rw [show ((1 : Int)).toNat = 1 from rfl] at hx381_0)
    replace p381 := eq_true p381
    replace q381 := eq_true q381
    have p382 : 0 ≤ (2 : Int) := (by omega)
    have q382 : 2 < (l0.length : Int) := of_decide_eq_true (by first | (with_reducible assumption) | assumption)
    obtain ⟨ad382, e382, hx382_0⟩ := Kd.at_int (Kd.V_reads' HO0.out).2.2 2 p382 q382
    obtain rfl : ad379 = ad382 := (by injection e382)
    (try simp only [show (2 : Int).toNat = 2 from rfl, Nat.reduceMul, Nat.reduceEqDiff, Go.Addr.add, ↓reduceIte] at hx382_0)
    have qi382 : (2 < l0.length) = True := eq_true (by omega)
    (try rw [show ((2 : Int)).toNat = 2 from rfl] at hx382_0)
    replace p382 := eq_true p382
    replace q382 := eq_true q382
    have p383 : 0 ≤ (3 : Int) := (by omega)
    have q383 : 3 < (l0.length : Int) := of_decide_eq_true (by first | (with_reducible assumption) | assumption)
    obtain ⟨ad383, e383, hx383_0⟩ := Kd.at_int (Kd.V_reads' HO0.out).2.2 3 p383 q383
    obtain rfl : ad379 = ad383 := (by injection e383)
    (try simp only [show (3 : Int).toNat = 3 from rfl, Nat.reduceMul, Nat.reduceEqDiff, Go.Addr.add, ↓reduceIte] at hx383_0)
    have qi383 : (3 < l0.length) = True := eq_true (by omega)
    (try rw [show ((3 : Int)).toNat = 3 from rfl] at hx383_0)
    replace p383 := eq_true p383
    replace q383 := eq_true q383
    have q8 : (4 : Int) ≤ ((l0.length : Int) : Int) := of_decide_eq_true (by first | (with_reducible assumption) | assumption)
    obtain ⟨i08, hi08, _, hsz8, _⟩ := info_parts info5
    have hroom8 : l0.length ≤ c0 := (Kd.V_reads' HO0.out).2.1
    have hC8 : Kd.F (Kd.int .u8) _ _ (some ad379) l0.length l0 := (Kd.V_at (base := w.heap.size) HO0.out).2.2
    have hcut8 := cut_from (P := Tryd.prog) 23 5 .i64 Tryd.underlying23 hi08 1 hsz8 (some ad379) l0.length c0 4 (by omega) q8
    have hr8 := Kd.F_cut (m := (4 : Int).toNat) (c := c0) hC8 (by omega) hroom8
    obtain ⟨A8, hA8⟩ : ∃ A1, A1 = (if c0 = (4 : Int).toNat then (some ad379) else ((some ad379) : Option Addr).map (·.add ((4 : Int).toNat * 1))) := ⟨_, rfl⟩
    obtain ⟨c8, hc8⟩ : ∃ c1, c1 = c0 - (4 : Int).toNat := ⟨_, rfl⟩
    have hy8 : y384.length = l0.length - (4 : Int).toNat := (by rw [Ny384.out, List.length_drop] <;> omega)
    rw [show (l0).drop (4 : Int).toNat = y384 from Ny384.out.symm] at hr8
    replace hr8 : Kd.F (Kd.int .u8) _ _ A8 y384.length y384 := (by rw [hA8]; exact hr8)
    rw [← hy8, ← hA8, ← hc8] at hcut8
    have HO388 := Aside0.mk (show Kd.V (Kd.int .u8) 5 _ w.heap.size _ (.slice A8 y384.length c8) y384 from Kd.V_mk (by rw [hy8, hc8]; exact Nat.sub_le_sub_right hroom8 _) hr8)
    have HC388 := Aside0.mk (show y384.length ≤ c8 from by rw [hy8, hc8]; exact Nat.sub_le_sub_right hroom8 _)
    clear hr8 hC8 hroom8 hi08 hsz8 hc8
    have KY8 := Aside0.mk hy8
    have KA8 := Aside0.mk hA8
    clear hy8 hA8
    replace q8 := eq_true q8
    go_enter Tryd.func57, Tryd.ntmps57
    go_wp2
    repeat (go_quiet (fail); try go_wp2)
    go_ret3
    exact ⟨_, by first | rfl | (simp [errW_none, errW_some] <;> rfl) | (simp [*, errW_none, errW_some] <;> rfl), HW.zV HO388.out, HW.zb⟩

/-! ### bsoncore_ReadLength: function 43 -/
def bsoncore_ReadLength.f (l0 : List Int) : Option (Int × List Int × Bool) := (binaryutil_ReadI32.f l0).bind fun bt389 => (if bt389.1 < 0 then (some (bt389.1, bt389.2.1, false)) else (some (bt389.1, bt389.2.1, bt389.2.2)))
set_option maxHeartbeats 8000000 in
set_option maxRecDepth 100000 in
theorem bsoncore_ReadLength.calls (P0_ : Nat → Prop) (A0 : Option Addr) (c0 : Nat) (l0 : List Int) (r1 : Int) (r2 : List Int) (r3 : Bool) (w : World) (hs0 : Kd.V (Kd.int .u8) 5 w w.heap.size (fun k_ => P0_ k_) (.slice A0 l0.length c0) l0) (h : bsoncore_ReadLength.f l0 = some (r1, r2, r3)) :
    Calls Tryd.prog 43 #[.slice A0 l0.length c0] w fun e w' => ∃ v1_ : Value, e = .returned (.tuple #[.int .i32 r1, v1_, .bool r3]) ∧ Kd.V (Kd.int .u8) 5 w' w.heap.size (fun k_ => (P0_ k_ ∨ w.heap.size ≤ k_)) v1_ r2 ∧ Below w.heap.size w w' := by
  have HO0 := Aside0.mk (show Kd.V (Kd.int .u8) 5 w w.heap.size (fun k_ => (P0_ k_ ∨ w.heap.size ≤ k_)) (.slice A0 l0.length c0) l0 from Kd.V_mono hs0 (fun k_ hk => .inl hk))
  have HB := Aside0.mk (Below.refl w.heap.size w)
  have H : ((binaryutil_ReadI32.f l0).bind fun bt389 => (if bt389.1 < 0 then (some (bt389.1, bt389.2.1, false)) else (some (bt389.1, bt389.2.1, bt389.2.2)))) = some (r1, r2, r3) := h
  clear h
  replace H := Option.bind_eq_some_iff.mp H
  obtain ⟨⟨t389, t390, t393⟩, A20, H⟩ := H
  replace H : (if t389 < 0 then (some (t389, t390, false)) else (some (t389, t390, t393))) = some (r1, r2, r3) := H
  have A2 := Aside0.mk A20
  clear A20
  by_cases c3 : t389 < 0
  · rw [if_pos c3] at H
    have c3b0 : decide (t389 < 0) = true := decide_eq_true c3
    clear c3
    as_aux_lemma =>
      simp only [Option.some.injEq, Prod.mk.injEq] at H
      obtain ⟨rfl, rfl, rfl⟩ := H
      go_enter Tryd.func43, Tryd.ntmps43
      go_wp2_with (first | ((with_reducible refine gate_callee (f := 57) rfl ?_); refine HW.gz (some 9) rfl rfl Tryd.func57 (by kernel_rfl) rfl #[.slice A0 l0.length c0] rfl ?_; (with_reducible refine (binaryutil_ReadI32.calls (fun k_ => (P0_ k_ ∨ w.heap.size ≤ k_)) _ _ l0 t389 t390 t393 _ ?side1 A2.out).mono ?_); (case side1 => exact HO0.out); rintro e w4 ⟨v391, rfl, ho0, hb⟩; refine ⟨_, rfl, ?_⟩; have n0_ := Aside0.mk (Kd.V_below (HW.zV HO0.out) hb); have n1_ := Aside0.mk (Kd.V_lower (Kd.V_mono (ok' := fun k_ => (P0_ k_ ∨ w.heap.size ≤ k_)) ho0 (fun k_ hk_ => Or.elim hk_ (fun hs_ => hs_) (fun hn_ => (.inr (Nat.le_trans (below_size HW.zb) hn_))))) (below_size HW.zb)); have n2_ := Aside0.mk (below_step HW.zb hb); clear HO0; clear HB; have HO0 := n0_; have HO392 := n1_; have HB := n2_; clear n0_ n1_ n2_; (try clear hb); (try clear hb2); (try clear hk); (try clear hi); (try clear ho0)))
      go_ret3
      exact ⟨_, by first | rfl | (simp [errW_none, errW_some] <;> rfl) | (simp [*, errW_none, errW_some] <;> rfl), HW.zV HO392.out, HW.zb⟩
  rw [if_neg c3] at H
  have c3b0 : decide (t389 < 0) = false := decide_eq_false c3
  clear c3
  as_aux_lemma =>
    simp only [Option.some.injEq, Prod.mk.injEq] at H
    obtain ⟨rfl, rfl, rfl⟩ := H
    go_enter Tryd.func43, Tryd.ntmps43
    go_wp2_with (first | ((with_reducible refine gate_callee (f := 57) rfl ?_); refine HW.gz (some 9) rfl rfl Tryd.func57 (by kernel_rfl) rfl #[.slice A0 l0.length c0] rfl ?_; (with_reducible refine (binaryutil_ReadI32.calls (fun k_ => (P0_ k_ ∨ w.heap.size ≤ k_)) _ _ l0 t389 t390 t393 _ ?side1 A2.out).mono ?_); (case side1 => exact HO0.out); rintro e w5 ⟨v391, rfl, ho0, hb⟩; refine ⟨_, rfl, ?_⟩; have n1_ := Aside0.mk (Kd.V_lower (Kd.V_mono (ok' := fun k_ => (P0_ k_ ∨ w.heap.size ≤ k_)) ho0 (fun k_ hk_ => Or.elim hk_ (fun hs_ => hs_) (fun hn_ => (.inr (Nat.le_trans (below_size HW.zb) hn_))))) (below_size HW.zb)); have n2_ := Aside0.mk (below_step HW.zb hb); clear HB; have HO392 := n1_; have HB := n2_; clear n1_ n2_; (try clear hb); (try clear hb2); (try clear hk); (try clear hi); (try clear ho0)))
    go_ret3
    exact ⟨_, by first | rfl | (simp [errW_none, errW_some] <;> rfl) | (simp [*, errW_none, errW_some] <;> rfl), HW.zV HO392.out, HW.zb⟩

end Go.Proofs.YtlcgakpnpdkjjaaDoor.PBz
