/- Printed by a program of this session (a turned copy of the printer of the kit): contracts of functions of the translation, each with the Lean function that it computes. Conditions: as each theorem states them. -/
import Derived.Test.YtndpbbgniflckaaDoorPElx0
import Derived.Test.YtndpbbgniflckaaDoorPElx7
import Derived.Test.YtndpbbgniflckaaDoorPElx8
namespace Go.Proofs.YtndpbbgniflckaaDoor.PEl
open Go.RowKit Go.Proofs.YtndpbbgniflckaaDoorW.PrintWords Go.Proofs.YtndpbbgniflckaaDoorW.PrintLast Go.Proofs.YtndpbbgniflckaaDoorW.PrintMore
attribute [local go_sem] max2_int min2_int max_two min_two max_three min_three max_four min_four   -- for this text's walks alone
set_option linter.unusedVariables false
set_option linter.unusedSimpArgs false

/-! ### bsoncore_readValue: function 51 -/
def bsoncore_readValue.j0 : Nat → List Int → Int → Bool → Option (List Int × List Int × Bool)
  | 0, _, _, _ => none
  | k + 1, x0, x7, x23 => if x23 = true then (some (([] : List Int), x0, false)) else (if 0 ≤ x7 then (if x7 ≤ (x0.length : Int) then (some ((x0.take (x7 : Int).toNat), (x0.drop (x7 : Int).toNat), true)) else (none)) else (none))
def bsoncore_readValue.f (k : Nat) (l0 : List Int) (a1 : Int) : Option (List Int × List Int × Bool) := (bsoncore_valueLength.f k l0 a1).bind fun bt410 => (if bt410.2 = true then (bsoncore_readValue.j0 k l0 bt410.1 (decide ((wrap64 (bt410.1)) > (l0.length : Int)))) else (bsoncore_readValue.j0 k l0 bt410.1 true))
theorem bsoncore_readValue.mono_l : ∀ k, (∀ y0 y1 y2, LeO (bsoncore_readValue.j0 k y0 y1 y2) (bsoncore_readValue.j0 (k + 1) y0 y1 y2))
  | 0 => fun _ _ _ r h => by simp [bsoncore_readValue.j0] at h
  | k + 1 => by
    have ih0 := bsoncore_readValue.mono_l k
    · intro y0 y1 y2
      unfold bsoncore_readValue.j0
      repeat' first
      | (with_reducible exact ih0 _ _ _)
      | (with_reducible exact bsoncore_valueLength.mono _ _ _)
      | (with_reducible exact LeO.refl _)
      | (with_reducible exact LeO.none _)
      | (with_reducible refine LeO.ite ?_ ?_)
      | (with_reducible refine LeO.bind ?_ (fun _ => ?_))
      | exact ih0 _ _ _
      | exact bsoncore_valueLength.mono _ _ _
      | exact LeO.none _
      | refine LeO.ite ?_ ?_
      | refine LeO.bind ?_ (fun _ => ?_)
theorem bsoncore_readValue.mono : ∀ a0 a1 k, LeO (bsoncore_readValue.f k a0 a1) (bsoncore_readValue.f (k + 1) a0 a1) := by
  intro a0 a1 k
  have ih0 := bsoncore_readValue.mono_l k
  unfold bsoncore_readValue.f
  repeat' first
      | (with_reducible exact ih0 _ _ _)
      | (with_reducible exact bsoncore_valueLength.mono _ _ _)
      | (with_reducible exact LeO.refl _)
      | (with_reducible exact LeO.none _)
      | (with_reducible refine LeO.ite ?_ ?_)
      | (with_reducible refine LeO.bind ?_ (fun _ => ?_))
      | exact ih0 _ _ _
      | exact bsoncore_valueLength.mono _ _ _
      | exact LeO.none _
      | refine LeO.ite ?_ ?_
      | refine LeO.bind ?_ (fun _ => ?_)
set_option maxHeartbeats 8000000 in
set_option maxRecDepth 100000 in
theorem bsoncore_readValue.calls (k : Nat) (P0_ : Nat → Prop) (A0 : Option Addr) (c0 : Nat) (l0 : List Int) (a1 : Int) (r1 : List Int) (r2 : List Int) (r3 : Bool) (w : World) (hs0 : Kd.V (Kd.int .u8) 5 w w.heap.size (fun k_ => P0_ k_) (.slice A0 l0.length c0) l0) (h : bsoncore_readValue.f k l0 a1 = some (r1, r2, r3)) :
    Calls Tryd.prog 51 #[.slice A0 l0.length c0, .int .u8 a1] w fun e w' => ∃ v0_ v1_ : Value, e = .returned (.tuple #[v0_, v1_, .bool r3]) ∧ Kd.V (Kd.int .u8) 5 w' w.heap.size (fun k_ => (P0_ k_ ∨ w.heap.size ≤ k_)) v0_ r1 ∧ Kd.V (Kd.int .u8) 5 w' w.heap.size (fun k_ => (P0_ k_ ∨ w.heap.size ≤ k_)) v1_ r2 ∧ Below w.heap.size w w' := by
  have HO0 := Aside0.mk (show Kd.V (Kd.int .u8) 5 w w.heap.size (fun k_ => (P0_ k_ ∨ w.heap.size ≤ k_)) (.slice A0 l0.length c0) l0 from Kd.V_mono hs0 (fun k_ hk => .inl hk))
  have HB := Aside0.mk (Below.refl w.heap.size w)
  have H : ((bsoncore_valueLength.f k l0 a1).bind fun bt410 => (if bt410.2 = true then (bsoncore_readValue.j0 k l0 bt410.1 (decide ((wrap64 (bt410.1)) > (l0.length : Int)))) else (bsoncore_readValue.j0 k l0 bt410.1 true))) = some (r1, r2, r3) := h
  clear h
  replace H := Option.bind_eq_some_iff.mp H
  obtain ⟨⟨t410, t411⟩, A30, H⟩ := H
  replace H : (if t411 = true then (bsoncore_readValue.j0 k l0 t410 (decide ((wrap64 (t410)) > (l0.length : Int)))) else (bsoncore_readValue.j0 k l0 t410 true)) = some (r1, r2, r3) := H
  have A3 := Aside0.mk A30
  clear A30
  have HC4 := Aside0.mk H
  clear H
  go_enter Tryd.func51, Tryd.ntmps51
  go_upto_region 2 with (first | (go_at_call 58; (with_reducible refine (bsoncore_valueLength.calls k _ _ l0 a1 t410 t411 _ ?side1 ?side2 A3.out).mono ?_); (case side1 => repeat (first | exact (Kd.V_reads' HO0.out).2.2 | (with_reducible refine Kd.C_alloc ?_ _) | (with_reducible refine Kd.C_drewN ?_ _) | (with_reducible refine Kd.C_drew ?_))); (case side2 => exact (Kd.V_reads' HO0.out).2.1); rintro e w5 ⟨rfl, hb⟩; have n0_ := Aside0.mk (Kd.V_below (by (with_reducible repeat (first | apply Kd.V_alloc | apply Kd.V_drewN | apply Kd.V_drew)); exact HO0.out) hb); have n1_ := Aside0.mk (below_step (by repeat (first | (with_reducible first | exact HB.out | apply below_alloc | apply pw_below_drewN | apply below_drew1) | exact HB.out)) hb); clear HO0; clear HB; have HO0 := n0_; have HB := n1_; clear n0_ n1_; (try clear hb); (try clear hb2); (try clear hk); (try clear hi)))
  repeat (go_quiet (first | (go_at_call 58; (with_reducible refine (bsoncore_valueLength.calls k _ _ l0 a1 t410 t411 _ ?side1 ?side2 A3.out).mono ?_); (case side1 => repeat (first | exact (Kd.V_reads' HO0.out).2.2 | (with_reducible refine Kd.C_alloc ?_ _) | (with_reducible refine Kd.C_drewN ?_ _) | (with_reducible refine Kd.C_drew ?_))); (case side2 => exact (Kd.V_reads' HO0.out).2.1); rintro e w5 ⟨rfl, hb⟩; have n0_ := Aside0.mk (Kd.V_below (by (with_reducible repeat (first | apply Kd.V_alloc | apply Kd.V_drewN | apply Kd.V_drew)); exact HO0.out) hb); have n1_ := Aside0.mk (below_step (by repeat (first | (with_reducible first | exact HB.out | apply below_alloc | apply pw_below_drewN | apply below_drew1) | exact HB.out)) hb); clear HO0; clear HB; have HO0 := n0_; have HB := n1_; clear n0_ n1_; (try clear hb); (try clear hb2); (try clear hk); (try clear hi))); go_upto_region 2 with (first | (go_at_call 58; (with_reducible refine (bsoncore_valueLength.calls k _ _ l0 a1 t410 t411 _ ?side1 ?side2 A3.out).mono ?_); (case side1 => repeat (first | exact (Kd.V_reads' HO0.out).2.2 | (with_reducible refine Kd.C_alloc ?_ _) | (with_reducible refine Kd.C_drewN ?_ _) | (with_reducible refine Kd.C_drew ?_))); (case side2 => exact (Kd.V_reads' HO0.out).2.1); rintro e w5 ⟨rfl, hb⟩; have n0_ := Aside0.mk (Kd.V_below (by (with_reducible repeat (first | apply Kd.V_alloc | apply Kd.V_drewN | apply Kd.V_drew)); exact HO0.out) hb); have n1_ := Aside0.mk (below_step (by repeat (first | (with_reducible first | exact HB.out | apply below_alloc | apply pw_below_drewN | apply below_drew1) | exact HB.out)) hb); clear HO0; clear HB; have HO0 := n0_; have HB := n1_; clear n0_ n1_; (try clear hb); (try clear hb2); (try clear hk); (try clear hi))))
  (try simp only [Act.put, List.setIfInBounds_toArray, List.set_cons_zero, List.set_cons_succ])
  go_cut [23] (fun v23 wc => ∃ (kq : Nat) (x23_3 : Bool), v23 = .bool x23_3 ∧ Aside0 (bsoncore_readValue.j0 kq l0 t410 x23_3 = some (r1, r2, r3)) ∧ Aside0 (kq ≤ k) ∧ Aside0 (Kd.V (Kd.int .u8) 5 wc w.heap.size (fun k_ => (P0_ k_ ∨ w.heap.size ≤ k_)) (.slice A0 l0.length c0) l0) ∧ Aside0 (Below w.heap.size w wc))
  case first =>
    have H := HC4.out
    clear HC4
    by_cases c6 : t411 = true
    · subst c6
      have H1 : (bsoncore_readValue.j0 k l0 t410 (decide ((wrap64 (t410)) > (l0.length : Int)))) = some (r1, r2, r3) := by rw [if_pos rfl] at H; exact H
      clear H
      have H := H1
      clear H1
      as_aux_lemma =>
        have H' := Aside0.mk H
        clear H
        go_wp2
        repeat (go_quiet (fail); try go_wp2)
        go_meet
        case rel => exact ⟨_, (decide ((wrap64 (t410)) > (l0.length : Int))), (by first | rfl | (simp; done) | (simp [*]; done)), H', ⟨by first | omega | exact Nat.le_refl _⟩, ⟨by (with_reducible repeat (first | apply Kd.V_alloc | apply Kd.V_drewN | apply Kd.V_drew)); exact HO0.out⟩, ⟨by repeat (first | (with_reducible first | exact HB.out | apply below_alloc | apply pw_below_drewN | apply below_drew1) | exact HB.out)⟩⟩
    · replace c6 := Bool.eq_false_iff.mpr c6
      subst c6
      have H1 : (bsoncore_readValue.j0 k l0 t410 true) = some (r1, r2, r3) := by rw [if_neg (show ¬ (false = true) by decide)] at H; exact H
      clear H
      have H := H1
      clear H1
      as_aux_lemma =>
        have H' := Aside0.mk H
        clear H
        go_wp2
        repeat (go_quiet (fail); try go_wp2)
        go_meet
        case rel => exact ⟨_, (true), (by first | rfl | (simp; done) | (simp [*]; done)), H', ⟨by first | omega | exact Nat.le_refl _⟩, ⟨by (with_reducible repeat (first | apply Kd.V_alloc | apply Kd.V_drewN | apply Kd.V_drew)); exact HO0.out⟩, ⟨by repeat (first | (with_reducible first | exact HB.out | apply below_alloc | apply pw_below_drewN | apply below_drew1) | exact HB.out)⟩⟩
  case rest =>
    clear HC4
    try clear p2
    try clear c5
    try clear c6
    try clear p6
    obtain ⟨kq, x23_3, rfl, HA, HJ3, HO_0, HB⟩ := hcut
    cases kq with
    | zero => exact absurd HA.out (by simp [bsoncore_readValue.j0])
    | succ kj3 =>
      have H := HA.out
      clear HA
      simp only [bsoncore_readValue.j0] at H
      by_cases c7 : x23_3 = true
      · subst c7
        have H1 : (some (([] : List Int), l0, false)) = some (r1, r2, r3) := by rw [if_pos rfl] at H; exact H
        clear H
        have H := H1
        clear H1
        as_aux_lemma =>
          simp only [Option.some.injEq, Prod.mk.injEq] at H
          obtain ⟨rfl, rfl, rfl⟩ := H
          go_wp2
          repeat (go_quiet (fail); try go_wp2)
          go_ret3
          exact ⟨_, _, by first | rfl | (simp [errW_none, errW_some] <;> rfl) | (simp [*, errW_none, errW_some] <;> rfl), Kd.V_nil _ _ _ _ _, by (with_reducible repeat (first | apply Kd.V_alloc | apply Kd.V_drewN | apply Kd.V_drew)); exact HO_0.out, by repeat (first | (with_reducible first | exact HB.out | apply below_alloc | apply pw_below_drewN | apply below_drew1) | exact HB.out)⟩
      · replace c7 := Bool.eq_false_iff.mpr c7
        subst c7
        have H1 : (if 0 ≤ t410 then (if t410 ≤ (l0.length : Int) then (some ((l0.take (t410 : Int).toNat), (l0.drop (t410 : Int).toNat), true)) else (none)) else (none)) = some (r1, r2, r3) := by rw [if_neg (show ¬ (false = true) by decide)] at H; exact H
        clear H
        have H := H1
        clear H1
        by_cases c8 : 0 ≤ t410
        · rw [if_pos c8] at H
          have c8b0 := eq_true c8
          have c8b1 : decide (0 ≤ t410) = true := decide_eq_true c8
          clear c8
          by_cases c9 : t410 ≤ (l0.length : Int)
          · rw [if_pos c9] at H
            have c9b0 := eq_true c9
            have c9b1 : decide (t410 ≤ (l0.length : Int)) = true := decide_eq_true c9
            clear c9
            obtain ⟨y412, hy412⟩ : ∃ y_ : List Int, y_ = (l0.take (t410 : Int).toNat) := ⟨_, rfl⟩
            replace H : (some (y412, (l0.drop (t410 : Int).toNat), true)) = some (r1, r2, r3) := by first | (rw [hy412]; with_reducible exact H) | (have H2_ := (Option.bind_some _ _).symm.trans H; rw [hy412]; with_reducible exact H2_) | (have H2_ := (Option.bind_some _ _).symm.trans H; with_reducible exact H2_) | with_reducible exact H | (rw [hy412]; exact H) | exact H
            have Ny412 := Aside0.mk hy412
            clear hy412
            have c10b0 := eq_true (of_decide_eq_true (by first | (with_reducible assumption) | assumption) : 0 ≤ t410)
            have c11b0 := eq_true (of_decide_eq_true (by first | (with_reducible assumption) | assumption) : t410 ≤ (l0.length : Int))
            obtain ⟨y417, hy417⟩ : ∃ y_ : List Int, y_ = (l0.drop (t410 : Int).toNat) := ⟨_, rfl⟩
            replace H : (some (y412, y417, true)) = some (r1, r2, r3) := by first | (rw [hy417]; with_reducible exact H) | (have H2_ := (Option.bind_some _ _).symm.trans H; rw [hy417]; with_reducible exact H2_) | (have H2_ := (Option.bind_some _ _).symm.trans H; with_reducible exact H2_) | with_reducible exact H | (rw [hy417]; exact H) | exact H
            have Ny417 := Aside0.mk hy417
            clear hy417
            as_aux_lemma =>
              simp only [Option.some.injEq, Prod.mk.injEq] at H
              obtain ⟨rfl, rfl, rfl⟩ := H
              have q12 : (t410 : Int) ≤ ((l0.length : Int) : Int) := of_decide_eq_true (by first | (with_reducible assumption) | assumption)
              obtain ⟨i012, hi012, _, hsz12, _⟩ := info_parts info5
              have hroom12 : l0.length ≤ c0 := (Kd.V_reads' HO_0.out).2.1
              have hC12 : Kd.F (Kd.int .u8) _ _ A0 l0.length l0 := (Kd.V_at (base := w.heap.size) HO_0.out).2.2
              have hcut12 := cut_to (P := Tryd.prog) 23 5 .i32 Tryd.underlying23 hi012 A0 l0.length c0 t410 (of_decide_eq_true (by first | (with_reducible assumption) | assumption)) q12 hroom12
              have hr12 := Kd.F_take (m := (t410 : Int).toNat) hC12 (by omega)
              have hy12 : y412.length = (t410 : Int).toNat := (by rw [Ny412.out, List.length_take]; omega)
              rw [← Ny412.out] at hr12
              rw [← hy12] at hcut12
              have HO416 := Aside0.mk (show Kd.V (Kd.int .u8) 5 _ w.heap.size _ (.slice A0 y412.length c0) y412 from Kd.V_mk (by omega) hr12)
              have HC416 := Aside0.mk (show y412.length ≤ c0 from by omega)
              clear hr12 hC12 hroom12 hi012 hsz12
              have KY12 := Aside0.mk hy12
              clear hy12
              replace q12 := eq_true q12
              have q13 : (t410 : Int) ≤ ((l0.length : Int) : Int) := of_decide_eq_true (by first | (with_reducible assumption) | assumption)
              obtain ⟨i013, hi013, _, hsz13, _⟩ := info_parts info5
              have hroom13 : l0.length ≤ c0 := (Kd.V_reads' HO_0.out).2.1
              have hC13 : Kd.F (Kd.int .u8) _ _ A0 l0.length l0 := (Kd.V_at (base := w.heap.size) HO_0.out).2.2
              have q013 : (0 : Int) ≤ (t410 : Int) := of_decide_eq_true (by first | (with_reducible assumption) | assumption)
              have hcut13 := cut_from (P := Tryd.prog) 23 5 .i32 Tryd.underlying23 hi013 1 hsz13 A0 l0.length c0 t410 q013 q13
              have hr13 := Kd.F_cut (m := (t410 : Int).toNat) (c := c0) hC13 (by omega) hroom13
              obtain ⟨A13, hA13⟩ : ∃ A1, A1 = (if c0 = (t410 : Int).toNat then A0 else (A0 : Option Addr).map (·.add ((t410 : Int).toNat * 1))) := ⟨_, rfl⟩
              obtain ⟨c13, hc13⟩ : ∃ c1, c1 = c0 - (t410 : Int).toNat := ⟨_, rfl⟩
              have hy13 : y417.length = l0.length - (t410 : Int).toNat := (by rw [Ny417.out, List.length_drop] <;> omega)
              rw [show (l0).drop (t410 : Int).toNat = y417 from Ny417.out.symm] at hr13
              replace hr13 : Kd.F (Kd.int .u8) _ _ A13 y417.length y417 := (by rw [hA13]; exact hr13)
              rw [← hy13, ← hA13, ← hc13] at hcut13
              have HO421 := Aside0.mk (show Kd.V (Kd.int .u8) 5 _ w.heap.size _ (.slice A13 y417.length c13) y417 from Kd.V_mk (by rw [hy13, hc13]; exact Nat.sub_le_sub_right hroom13 _) hr13)
              have HC421 := Aside0.mk (show y417.length ≤ c13 from by rw [hy13, hc13]; exact Nat.sub_le_sub_right hroom13 _)
              clear hr13 hC13 hroom13 hi013 hsz13 hc13
              have KY13 := Aside0.mk hy13
              have KA13 := Aside0.mk hA13
              clear hy13 hA13
              replace q13 := eq_true q13
              go_wp2
              repeat (go_quiet (fail); try go_wp2)
              go_ret3
              exact ⟨_, _, by first | rfl | (simp [errW_none, errW_some] <;> rfl) | (simp [*, errW_none, errW_some] <;> rfl), by (with_reducible repeat (first | apply Kd.V_alloc | apply Kd.V_drewN | apply Kd.V_drew)); exact HO416.out, by (with_reducible repeat (first | apply Kd.V_alloc | apply Kd.V_drewN | apply Kd.V_drew)); exact HO421.out, by repeat (first | (with_reducible first | exact HB.out | apply below_alloc | apply pw_below_drewN | apply below_drew1) | exact HB.out)⟩
          · rw [if_neg c9] at H
            exact absurd H (by simp)
        · rw [if_neg c8] at H
          exact absurd H (by simp)

/-! ### bsoncore_ReadValue: function 40 -/
def bsoncore_ReadValue.f (k : Nat) (l0 : List Int) (a1 : Int) : Option (Int × List Int × List Int × Bool) := (bsoncore_readValue.f k l0 a1).bind fun bt423 => (if bt423.2.2 = true then (some (a1, bt423.1, bt423.2.1, true)) else (some (0, ([] : List Int), l0, false)))
theorem bsoncore_ReadValue.mono : ∀ a0 a1 k, LeO (bsoncore_ReadValue.f k a0 a1) (bsoncore_ReadValue.f (k + 1) a0 a1) := by
  intro a0 a1 k
  unfold bsoncore_ReadValue.f
  repeat' first
      | (with_reducible exact bsoncore_readValue.mono _ _ _)
      | (with_reducible exact LeO.refl _)
      | (with_reducible exact LeO.none _)
      | (with_reducible refine LeO.ite ?_ ?_)
      | (with_reducible refine LeO.bind ?_ (fun _ => ?_))
      | exact bsoncore_readValue.mono _ _ _
      | exact LeO.none _
      | refine LeO.ite ?_ ?_
      | refine LeO.bind ?_ (fun _ => ?_)
set_option maxHeartbeats 8000000 in
set_option maxRecDepth 100000 in
theorem bsoncore_ReadValue.calls (k : Nat) (P0_ : Nat → Prop) (A0 : Option Addr) (c0 : Nat) (l0 : List Int) (a1 : Int) (r1 : Int) (r2 : List Int) (r3 : List Int) (r4 : Bool) (w : World) (hs0 : Kd.V (Kd.int .u8) 5 w w.heap.size (fun k_ => P0_ k_) (.slice A0 l0.length c0) l0) (h : bsoncore_ReadValue.f k l0 a1 = some (r1, r2, r3, r4)) :
    Calls Tryd.prog 40 #[.slice A0 l0.length c0, .int .u8 a1] w fun e w' => ∃ v1_ v2_ : Value, e = .returned (.tuple #[.agg #[.int .u8 r1, v1_], v2_, .bool r4]) ∧ Kd.V (Kd.int .u8) 5 w' w.heap.size (fun k_ => (P0_ k_ ∨ w.heap.size ≤ k_)) v1_ r2 ∧ Kd.V (Kd.int .u8) 5 w' w.heap.size (fun k_ => (P0_ k_ ∨ w.heap.size ≤ k_)) v2_ r3 ∧ Below w.heap.size w w' := by
  have hu64 := Tryd.underlying64
  have HO0 := Aside0.mk (show Kd.V (Kd.int .u8) 5 w w.heap.size (fun k_ => (P0_ k_ ∨ w.heap.size ≤ k_)) (.slice A0 l0.length c0) l0 from Kd.V_mono hs0 (fun k_ hk => .inl hk))
  have HB := Aside0.mk (Below.refl w.heap.size w)
  have H : ((bsoncore_readValue.f k l0 a1).bind fun bt423 => (if bt423.2.2 = true then (some (a1, bt423.1, bt423.2.1, true)) else (some (0, ([] : List Int), l0, false)))) = some (r1, r2, r3, r4) := h
  clear h
  replace H := Option.bind_eq_some_iff.mp H
  obtain ⟨⟨t423, t426, t429⟩, A30, H⟩ := H
  replace H : (if t429 = true then (some (a1, t423, t426, true)) else (some (0, ([] : List Int), l0, false))) = some (r1, r2, r3, r4) := H
  have A3 := Aside0.mk A30
  clear A30
  by_cases c4 : t429 = true
  · subst c4
    have H1 : (some (a1, t423, t426, true)) = some (r1, r2, r3, r4) := by rw [if_pos rfl] at H; exact H
    clear H
    have H := H1
    clear H1
    as_aux_lemma =>
      simp only [Option.some.injEq, Prod.mk.injEq] at H
      obtain ⟨rfl, rfl, rfl, rfl⟩ := H
      go_enter Tryd.func40, Tryd.ntmps40
      go_wp2_with (first | ((with_reducible refine gate_dst (N := 4) rfl ?_); refine box_event ?hg (N := 4) ?hd (cs := #[.int .u8 0, .slice none 0 0]) (t := 64) ?hr ?_; (case hd => rfl); (case hg => rfl); (case hr => first | (go_simp; done) | (go_simp; rfl)); intro gb422 hg w5 hbox hb; have n0_ := Aside0.mk (Kd.V_below (Kd.V_elderB (by (with_reducible repeat (first | apply Kd.V_alloc | apply Kd.V_drewN | apply Kd.V_drew)); exact HO0.out) gb422 (Nat.le_of_eq hg.symm)) hb); have n1_ := Aside0.mk (below_step (by repeat (first | (with_reducible first | exact HB.out | apply below_alloc | apply pw_below_drewN | apply below_drew1) | exact HB.out)) hb); have n2_ := Aside0.mk (hbox); have n3_ := Aside0.mk ((by rw [hg]; exact (below_size (by repeat (first | (with_reducible first | exact HB.out | apply below_alloc | apply pw_below_drewN | apply below_drew1) | exact HB.out))) : w.heap.size ≤ gb422)); have n4_ := Aside0.mk ((by rw [hg]; exact (below_size (by repeat (first | (with_reducible first | exact HB.out | apply below_alloc | apply pw_below_drewN | apply below_drew1) | exact HB.out))) : w.heap.size ≤ gb422)); clear HO0; clear HB; have HO0 := n0_; have HB := n1_; have BK422 := n2_; have GW422 := n3_; have GE422 := n4_; clear n0_ n1_ n2_ n3_ n4_; clear hb hbox hg) | ((with_reducible refine gate_callee (f := 51) rfl ?_); refine goesL_ (some 13) rfl rfl Tryd.func51 (by kernel_rfl) rfl #[.slice A0 l0.length c0, .int .u8 a1] rfl (by (try simp only [List.map_toArray, List.map_cons, List.map_nil]); first | done | rfl | (simp only [List.length_drop, List.length_take]; rfl)) ?_; (with_reducible refine (bsoncore_readValue.calls k (fun k_ => ((P0_ k_ ∨ w.heap.size ≤ k_) ∧ k_ ≠ gb422)) _ _ l0 a1 t423 t426 true _ ?side1 A3.out).mono ?_); (case side1 => exact HO0.out); rintro e w6 ⟨v424, v427, rfl, ho0, ho1, hb⟩; refine ⟨_, rfl, ?_⟩; have n0_ := Aside0.mk (Kd.V_below (by (with_reducible repeat (first | apply Kd.V_alloc | apply Kd.V_drewN | apply Kd.V_drew)); exact HO0.out) hb); have n1_ := Aside0.mk (Kd.V_lower (Kd.V_mono (ok' := fun k_ => (P0_ k_ ∨ w.heap.size ≤ k_) ∧ k_ ≠ gb422) ho0 (fun k_ hk_ => ⟨Or.elim hk_ (fun hs_ => hs_.1) (fun hn_ => (.inr (Nat.le_trans (below_size (by repeat (first | (with_reducible first | exact HB.out | apply below_alloc | apply pw_below_drewN | apply below_drew1 | refine below_set ?_ GE422.out) | exact HB.out))) hn_))), Or.elim hk_ (fun hs_ => hs_.2) (fun hn_ => (Kd.freshB (g := gb422) (o := .cells #[.int .u8 0, .slice none 0 0] 64 (0, 0)) (by (with_reducible repeat (first | refine blk_drewN ?_ _ | refine blk_drew ?_ | refine blk_alloc ?_ _)); exact BK422.out) k_ hn_))⟩)) (below_size (by repeat (first | (with_reducible first | exact HB.out | apply below_alloc | apply pw_below_drewN | apply below_drew1 | refine below_set ?_ GE422.out) | exact HB.out)))); have n2_ := Aside0.mk (Kd.V_lower (Kd.V_mono (ok' := fun k_ => (P0_ k_ ∨ w.heap.size ≤ k_) ∧ k_ ≠ gb422) ho1 (fun k_ hk_ => ⟨Or.elim hk_ (fun hs_ => hs_.1) (fun hn_ => (.inr (Nat.le_trans (below_size (by repeat (first | (with_reducible first | exact HB.out | apply below_alloc | apply pw_below_drewN | apply below_drew1 | refine below_set ?_ GE422.out) | exact HB.out))) hn_))), Or.elim hk_ (fun hs_ => hs_.2) (fun hn_ => (Kd.freshB (g := gb422) (o := .cells #[.int .u8 0, .slice none 0 0] 64 (0, 0)) (by (with_reducible repeat (first | refine blk_drewN ?_ _ | refine blk_drew ?_ | refine blk_alloc ?_ _)); exact BK422.out) k_ hn_))⟩)) (below_size (by repeat (first | (with_reducible first | exact HB.out | apply below_alloc | apply pw_below_drewN | apply below_drew1 | refine below_set ?_ GE422.out) | exact HB.out)))); have n3_ := Aside0.mk (blk_below (g := gb422) (o := .cells #[.int .u8 0, .slice none 0 0] 64 (0, 0)) (by (with_reducible repeat (first | refine blk_drewN ?_ _ | refine blk_drew ?_ | refine blk_alloc ?_ _)); exact BK422.out) hb); have n4_ := Aside0.mk (below_step (by repeat (first | (with_reducible first | exact HB.out | apply below_alloc | apply pw_below_drewN | apply below_drew1 | refine below_set ?_ GE422.out) | exact HB.out)) hb); clear HO0; clear BK422; clear HB; have HO0 := n0_; have HO425 := n1_; have HO428 := n2_; have BK422 := n3_; have HB := n4_; clear n0_ n1_ n2_ n3_ n4_; (try clear hb); (try clear hb2); (try clear hk); (try clear hi); (try clear ho0); (try clear ho1); obtain ⟨Ao7, co7, eo7⟩ := Kd.V_slice HO425.out; subst eo7; have hcz8_0 : w6.cell? ⟨gb422, 0, none⟩ = some (.int .u8 0) := (blk_cell BK422.out 0).trans rfl; have hcz8_1 : w6.cell? ⟨gb422, 1, none⟩ = some (.slice none 0 0) := (blk_cell BK422.out 1).trans rfl; have hfz8_0 := blk_frozen BK422.out 0; have hfz8_1 := blk_frozen BK422.out 1))
      refine bodyPost_ret (results_ctt rfl _ _ gb422 64 #[.int .u8 a1, .slice Ao7 t423.length co7] (0, 0) _ rfl (by (with_reducible repeat (first | refine blk_drewN ?_ _ | refine blk_drew ?_ | refine blk_alloc ?_ _)); refine blk_put (cs := #[.int .u8 a1, .slice none 0 0]) ?_ 1 _ rfl; (with_reducible repeat (first | refine blk_drewN ?_ _ | refine blk_drew ?_ | refine blk_alloc ?_ _)); refine blk_put (cs := #[.int .u8 0, .slice none 0 0]) ?_ 0 _ rfl; (with_reducible repeat (first | refine blk_drewN ?_ _ | refine blk_drew ?_ | refine blk_alloc ?_ _)); exact BK422.out) Tryd.underlying64 rfl (by kernel_rfl)) rfl ?_
      exact ⟨_, _, by first | rfl | (simp [errW_none, errW_some] <;> rfl) | (simp [*, errW_none, errW_some] <;> rfl), by (with_reducible repeat (first | apply Kd.V_alloc | apply Kd.V_drewN | apply Kd.V_drew)); exact Kd.V_mono (Kd.V_far (p := ⟨gb422, 1, none⟩) (Kd.V_far (p := ⟨gb422, 0, none⟩) (Kd.V_mono HO425.out (fun k_ hk => (⟨hk, hk.2⟩ : _ ∧ k_ ≠ gb422))) (fun _ hk => hk.2) (.int .u8 a1)) (fun _ hk => hk.2) (.slice Ao7 t423.length co7)) (fun _ hk => hk.1.1), by (with_reducible repeat (first | apply Kd.V_alloc | apply Kd.V_drewN | apply Kd.V_drew)); exact Kd.V_mono (Kd.V_far (p := ⟨gb422, 1, none⟩) (Kd.V_far (p := ⟨gb422, 0, none⟩) (Kd.V_mono HO428.out (fun k_ hk => (⟨hk, hk.2⟩ : _ ∧ k_ ≠ gb422))) (fun _ hk => hk.2) (.int .u8 a1)) (fun _ hk => hk.2) (.slice Ao7 t423.length co7)) (fun _ hk => hk.1.1), by repeat (first | (with_reducible first | exact HB.out | apply below_alloc | apply pw_below_drewN | apply below_drew1 | refine below_set ?_ GE422.out) | exact HB.out)⟩
  · replace c4 := Bool.eq_false_iff.mpr c4
    subst c4
    have H1 : (some (0, ([] : List Int), l0, false)) = some (r1, r2, r3, r4) := by rw [if_neg (show ¬ (false = true) by decide)] at H; exact H
    clear H
    have H := H1
    clear H1
    as_aux_lemma =>
      simp only [Option.some.injEq, Prod.mk.injEq] at H
      obtain ⟨rfl, rfl, rfl, rfl⟩ := H
      go_enter Tryd.func40, Tryd.ntmps40
      go_wp2_with (first | ((with_reducible refine gate_dst (N := 4) rfl ?_); refine box_event ?hg (N := 4) ?hd (cs := #[.int .u8 0, .slice none 0 0]) (t := 64) ?hr ?_; (case hd => rfl); (case hg => rfl); (case hr => first | (go_simp; done) | (go_simp; rfl)); intro gb422 hg w9 hbox hb; have n0_ := Aside0.mk (Kd.V_below (Kd.V_elderB (by (with_reducible repeat (first | apply Kd.V_alloc | apply Kd.V_drewN | apply Kd.V_drew)); exact HO0.out) gb422 (Nat.le_of_eq hg.symm)) hb); have n1_ := Aside0.mk (below_step (by repeat (first | (with_reducible first | exact HB.out | apply below_alloc | apply pw_below_drewN | apply below_drew1) | exact HB.out)) hb); have n2_ := Aside0.mk (hbox); have n3_ := Aside0.mk ((by rw [hg]; exact (below_size (by repeat (first | (with_reducible first | exact HB.out | apply below_alloc | apply pw_below_drewN | apply below_drew1) | exact HB.out))) : w.heap.size ≤ gb422)); have n4_ := Aside0.mk ((by rw [hg]; exact (below_size (by repeat (first | (with_reducible first | exact HB.out | apply below_alloc | apply pw_below_drewN | apply below_drew1) | exact HB.out))) : w.heap.size ≤ gb422)); clear HO0; clear HB; have HO0 := n0_; have HB := n1_; have BK422 := n2_; have GW422 := n3_; have GE422 := n4_; clear n0_ n1_ n2_ n3_ n4_; clear hb hbox hg) | ((with_reducible refine gate_callee (f := 51) rfl ?_); refine goesL_ (some 13) rfl rfl Tryd.func51 (by kernel_rfl) rfl #[.slice A0 l0.length c0, .int .u8 a1] rfl (by (try simp only [List.map_toArray, List.map_cons, List.map_nil]); first | done | rfl | (simp only [List.length_drop, List.length_take]; rfl)) ?_; (with_reducible refine (bsoncore_readValue.calls k (fun k_ => ((P0_ k_ ∨ w.heap.size ≤ k_) ∧ k_ ≠ gb422)) _ _ l0 a1 t423 t426 false _ ?side1 A3.out).mono ?_); (case side1 => exact HO0.out); rintro e w10 ⟨v424, v427, rfl, ho0, ho1, hb⟩; refine ⟨_, rfl, ?_⟩; have n0_ := Aside0.mk (Kd.V_below (by (with_reducible repeat (first | apply Kd.V_alloc | apply Kd.V_drewN | apply Kd.V_drew)); exact HO0.out) hb); have n1_ := Aside0.mk (Kd.V_lower (Kd.V_mono (ok' := fun k_ => (P0_ k_ ∨ w.heap.size ≤ k_) ∧ k_ ≠ gb422) ho0 (fun k_ hk_ => ⟨Or.elim hk_ (fun hs_ => hs_.1) (fun hn_ => (.inr (Nat.le_trans (below_size (by repeat (first | (with_reducible first | exact HB.out | apply below_alloc | apply pw_below_drewN | apply below_drew1 | refine below_set ?_ GE422.out) | exact HB.out))) hn_))), Or.elim hk_ (fun hs_ => hs_.2) (fun hn_ => (Kd.freshB (g := gb422) (o := .cells #[.int .u8 0, .slice none 0 0] 64 (0, 0)) (by (with_reducible repeat (first | refine blk_drewN ?_ _ | refine blk_drew ?_ | refine blk_alloc ?_ _)); exact BK422.out) k_ hn_))⟩)) (below_size (by repeat (first | (with_reducible first | exact HB.out | apply below_alloc | apply pw_below_drewN | apply below_drew1 | refine below_set ?_ GE422.out) | exact HB.out)))); have n2_ := Aside0.mk (Kd.V_lower (Kd.V_mono (ok' := fun k_ => (P0_ k_ ∨ w.heap.size ≤ k_) ∧ k_ ≠ gb422) ho1 (fun k_ hk_ => ⟨Or.elim hk_ (fun hs_ => hs_.1) (fun hn_ => (.inr (Nat.le_trans (below_size (by repeat (first | (with_reducible first | exact HB.out | apply below_alloc | apply pw_below_drewN | apply below_drew1 | refine below_set ?_ GE422.out) | exact HB.out))) hn_))), Or.elim hk_ (fun hs_ => hs_.2) (fun hn_ => (Kd.freshB (g := gb422) (o := .cells #[.int .u8 0, .slice none 0 0] 64 (0, 0)) (by (with_reducible repeat (first | refine blk_drewN ?_ _ | refine blk_drew ?_ | refine blk_alloc ?_ _)); exact BK422.out) k_ hn_))⟩)) (below_size (by repeat (first | (with_reducible first | exact HB.out | apply below_alloc | apply pw_below_drewN | apply below_drew1 | refine below_set ?_ GE422.out) | exact HB.out)))); have n3_ := Aside0.mk (blk_below (g := gb422) (o := .cells #[.int .u8 0, .slice none 0 0] 64 (0, 0)) (by (with_reducible repeat (first | refine blk_drewN ?_ _ | refine blk_drew ?_ | refine blk_alloc ?_ _)); exact BK422.out) hb); have n4_ := Aside0.mk (below_step (by repeat (first | (with_reducible first | exact HB.out | apply below_alloc | apply pw_below_drewN | apply below_drew1 | refine below_set ?_ GE422.out) | exact HB.out)) hb); clear HO0; clear BK422; clear HB; have HO0 := n0_; have HO425 := n1_; have HO428 := n2_; have BK422 := n3_; have HB := n4_; clear n0_ n1_ n2_ n3_ n4_; (try clear hb); (try clear hb2); (try clear hk); (try clear hi); (try clear ho0); (try clear ho1); have hcz11_0 : w10.cell? ⟨gb422, 0, none⟩ = some (.int .u8 0) := (blk_cell BK422.out 0).trans rfl; have hcz11_1 : w10.cell? ⟨gb422, 1, none⟩ = some (.slice none 0 0) := (blk_cell BK422.out 1).trans rfl; have hfz11_0 := blk_frozen BK422.out 0; have hfz11_1 := blk_frozen BK422.out 1))
      refine bodyPost_ret (results_ctt rfl _ _ gb422 64 #[.int .u8 0, .slice none 0 0] (0, 0) _ rfl (by (with_reducible repeat (first | refine blk_drewN ?_ _ | refine blk_drew ?_ | refine blk_alloc ?_ _)); refine blk_put (cs := #[.int .u8 0, .slice none 0 0]) ?_ 1 _ rfl; (with_reducible repeat (first | refine blk_drewN ?_ _ | refine blk_drew ?_ | refine blk_alloc ?_ _)); refine blk_put (cs := #[.int .u8 0, .slice none 0 0]) ?_ 0 _ rfl; (with_reducible repeat (first | refine blk_drewN ?_ _ | refine blk_drew ?_ | refine blk_alloc ?_ _)); exact BK422.out) Tryd.underlying64 rfl (by kernel_rfl)) rfl ?_
      exact ⟨_, _, by first | rfl | (simp [errW_none, errW_some] <;> rfl) | (simp [*, errW_none, errW_some] <;> rfl), Kd.V_nil _ _ _ _ _, by (with_reducible repeat (first | apply Kd.V_alloc | apply Kd.V_drewN | apply Kd.V_drew)); exact Kd.V_mono (Kd.V_far (p := ⟨gb422, 1, none⟩) (Kd.V_far (p := ⟨gb422, 0, none⟩) (Kd.V_mono HO0.out (fun k_ hk => (⟨hk, hk.2⟩ : _ ∧ k_ ≠ gb422))) (fun _ hk => hk.2) (.int .u8 0)) (fun _ hk => hk.2) (.slice none 0 0)) (fun _ hk => hk.1.1), by repeat (first | (with_reducible first | exact HB.out | apply below_alloc | apply pw_below_drewN | apply below_drew1 | refine below_set ?_ GE422.out) | exact HB.out)⟩

/-! ### bsoncore_NewInsufficientBytesError: function 41 -/
def bsoncore_NewInsufficientBytesError.f (l0 : List Int) (l1 : List Int) : Option (List Int × List Int) := some (l0, l1)
set_option maxHeartbeats 8000000 in
set_option maxRecDepth 100000 in
theorem bsoncore_NewInsufficientBytesError.calls (P0_ : Nat → Prop) (A0 : Option Addr) (c0 : Nat) (l0 : List Int) (P1_ : Nat → Prop) (A1 : Option Addr) (c1 : Nat) (l1 : List Int) (r1 : List Int) (r2 : List Int) (w : World) (hs0 : Kd.V (Kd.int .u8) 5 w w.heap.size (fun k_ => P0_ k_) (.slice A0 l0.length c0) l0) (hs1 : Kd.V (Kd.int .u8) 5 w w.heap.size (fun k_ => P1_ k_) (.slice A1 l1.length c1) l1) (h : bsoncore_NewInsufficientBytesError.f l0 l1 = some (r1, r2)) :
    Calls Tryd.prog 41 #[.slice A0 l0.length c0, .slice A1 l1.length c1] w fun e w' => ∃ v0_ v1_ : Value, e = .returned (.agg #[v0_, v1_]) ∧ Kd.V (Kd.int .u8) 5 w' w.heap.size (fun k_ => ((P0_ k_ ∨ P1_ k_) ∨ w.heap.size ≤ k_)) v0_ r1 ∧ Kd.V (Kd.int .u8) 5 w' w.heap.size (fun k_ => ((P0_ k_ ∨ P1_ k_) ∨ w.heap.size ≤ k_)) v1_ r2 ∧ Below w.heap.size w w' := by
  have hu79 := Tryd.underlying79
  have HO0 := Aside0.mk (show Kd.V (Kd.int .u8) 5 w w.heap.size (fun k_ => ((P0_ k_ ∨ P1_ k_) ∨ w.heap.size ≤ k_)) (.slice A0 l0.length c0) l0 from Kd.V_mono hs0 (fun k_ hk => .inl (.inl hk)))
  have HO1 := Aside0.mk (show Kd.V (Kd.int .u8) 5 w w.heap.size (fun k_ => ((P0_ k_ ∨ P1_ k_) ∨ w.heap.size ≤ k_)) (.slice A1 l1.length c1) l1 from Kd.V_mono hs1 (fun k_ hk => .inl (.inr hk)))
  have HB := Aside0.mk (Below.refl w.heap.size w)
  have H : (some (l0, l1)) = some (r1, r2) := h
  clear h
  as_aux_lemma =>
    simp only [Option.some.injEq, Prod.mk.injEq] at H
    obtain ⟨rfl, rfl⟩ := H
    go_enter Tryd.func41, Tryd.ntmps41
    go_wp2_with (first | ((with_reducible refine gate_dst (N := 4) rfl ?_); refine box_event ?hg (N := 4) ?hd (cs := #[.slice none 0 0, .slice none 0 0]) (t := 79) ?hr ?_; (case hd => rfl); (case hg => rfl); (case hr => first | (go_simp; done) | (go_simp; rfl)); intro gb430 hg w3 hbox hb; have n0_ := Aside0.mk (Kd.V_below (Kd.V_elderB (by (with_reducible repeat (first | apply Kd.V_alloc | apply Kd.V_drewN | apply Kd.V_drew)); exact HO0.out) gb430 (Nat.le_of_eq hg.symm)) hb); have n1_ := Aside0.mk (Kd.V_below (Kd.V_elderB (by (with_reducible repeat (first | apply Kd.V_alloc | apply Kd.V_drewN | apply Kd.V_drew)); exact HO1.out) gb430 (Nat.le_of_eq hg.symm)) hb); have n2_ := Aside0.mk (below_step (by repeat (first | (with_reducible first | exact HB.out | apply below_alloc | apply pw_below_drewN | apply below_drew1) | exact HB.out)) hb); have n3_ := Aside0.mk (hbox); have n4_ := Aside0.mk ((by rw [hg]; exact (below_size (by repeat (first | (with_reducible first | exact HB.out | apply below_alloc | apply pw_below_drewN | apply below_drew1) | exact HB.out))) : w.heap.size ≤ gb430)); have n5_ := Aside0.mk ((by rw [hg]; exact (below_size (by repeat (first | (with_reducible first | exact HB.out | apply below_alloc | apply pw_below_drewN | apply below_drew1) | exact HB.out))) : w.heap.size ≤ gb430)); clear HO0; clear HO1; clear HB; have HO0 := n0_; have HO1 := n1_; have HB := n2_; have BK430 := n3_; have GW430 := n4_; have GE430 := n5_; clear n0_ n1_ n2_ n3_ n4_ n5_; clear hb hbox hg; have hcz4_0 : w3.cell? ⟨gb430, 0, none⟩ = some (.slice none 0 0) := (blk_cell BK430.out 0).trans rfl; have hcz4_1 : w3.cell? ⟨gb430, 1, none⟩ = some (.slice none 0 0) := (blk_cell BK430.out 1).trans rfl; have hfz4_0 := blk_frozen BK430.out 0; have hfz4_1 := blk_frozen BK430.out 1))
    refine bodyPost_ret (results_cell_row rfl _ _ gb430 79 #[.slice A0 l0.length c0, .slice A1 l1.length c1] (0, 0) _ rfl (by (with_reducible repeat (first | refine blk_drewN ?_ _ | refine blk_drew ?_ | refine blk_alloc ?_ _)); refine blk_put (cs := #[.slice A0 l0.length c0, .slice none 0 0]) ?_ 1 _ rfl; (with_reducible repeat (first | refine blk_drewN ?_ _ | refine blk_drew ?_ | refine blk_alloc ?_ _)); refine blk_put (cs := #[.slice none 0 0, .slice none 0 0]) ?_ 0 _ rfl; (with_reducible repeat (first | refine blk_drewN ?_ _ | refine blk_drew ?_ | refine blk_alloc ?_ _)); exact BK430.out) Tryd.underlying79 rfl (by kernel_rfl)) rfl ?_
    exact ⟨_, _, by first | rfl | (simp [errW_none, errW_some] <;> rfl) | (simp [*, errW_none, errW_some] <;> rfl), by (with_reducible repeat (first | apply Kd.V_alloc | apply Kd.V_drewN | apply Kd.V_drew)); exact Kd.V_mono (Kd.V_far (p := ⟨gb430, 1, none⟩) (Kd.V_far (p := ⟨gb430, 0, none⟩) (Kd.V_mono HO0.out (fun k_ hk => (⟨hk, hk.2⟩ : _ ∧ k_ ≠ gb430))) (fun _ hk => hk.2) (.slice A0 l0.length c0)) (fun _ hk => hk.2) (.slice A1 l1.length c1)) (fun _ hk => hk.1.1), by (with_reducible repeat (first | apply Kd.V_alloc | apply Kd.V_drewN | apply Kd.V_drew)); exact Kd.V_mono (Kd.V_far (p := ⟨gb430, 1, none⟩) (Kd.V_far (p := ⟨gb430, 0, none⟩) (Kd.V_mono HO1.out (fun k_ hk => (⟨hk, hk.2⟩ : _ ∧ k_ ≠ gb430))) (fun _ hk => hk.2) (.slice A0 l0.length c0)) (fun _ hk => hk.2) (.slice A1 l1.length c1)) (fun _ hk => hk.1.1), by repeat (first | (with_reducible first | exact HB.out | apply below_alloc | apply pw_below_drewN | apply below_drew1 | refine below_set ?_ GE430.out) | exact HB.out)⟩

-- NOT PRINTED: function 27 (bsoncore_Element_ValueErr)

/-! ### impl_raw: function 28 -/
def impl_raw.f (a0_0 : Int) (l0_1 : List Int) : Option (Int × List Int) := (impl_own.f l0_1).bind fun t434 => (some (wrap64 (a0_0), t434))
def impl_raw.T1 : Bool × List (List Nat × List Nat) := (true, [([], []), ([0], [0]), ([1], [1]), ([], []), ([3], [3]), ([4], [4]), ([2, 5], [2, 5]), ([6, 5, 0, 1, 2, 3, 4, 5, 6], [6])])
def impl_raw.B1 : List Nat := [0, 1, 3, 0, 8, 24, 63, 127]
theorem impl_raw.tab1 : rtab .any (opsOf Tryd.f28 1) = impl_raw.T1 := by kernel_rfl
theorem impl_raw.bits1 : waitsOk impl_raw.T1.2 impl_raw.B1 = true := by kernel_rfl
set_option maxHeartbeats 8000000 in
set_option maxRecDepth 100000 in
theorem impl_raw.calls (a0_0 : Int) (A0_1 : Option Addr) (c0_1 : Nat) (l0_1 : List Int) (r1 : Int) (r2 : List Int) (w : World) (hr0_1 : Kd.C (Kd.int .u8) w A0_1 l0_1.length l0_1) (hc0_1 : l0_1.length ≤ c0_1) (h : impl_raw.f a0_0 l0_1 = some (r1, r2)) :
    Calls Tryd.prog 28 #[.agg #[.int .u8 a0_0, .slice A0_1 l0_1.length c0_1]] w fun e w' => ∃ v1_ : Value, e = .returned (.agg #[.int .i64 r1, v1_]) ∧ Kd.R (Kd.int .u8) 5 w' w.heap.size (fun _ => True) v1_ r2 ∧ Below w.heap.size w w' := by
  have hu64 := Tryd.underlying64
  have hu37 := Tryd.underlying37
  have HR0_1 := Aside0.mk hr0_1
  have HC0_1 := Aside0.mk hc0_1
  clear hr0_1 hc0_1
  have HB := Aside0.mk (Below.refl w.heap.size w)
  have H : ((impl_own.f l0_1).bind fun t434 => (some (wrap64 (a0_0), t434))) = some (r1, r2) := h
  clear h
  replace H := Option.bind_eq_some_iff.mp H
  obtain ⟨t434, A20, H⟩ := H
  replace H : (some (wrap64 (a0_0), t434)) = some (r1, r2) := H
  have A2 := Aside0.mk A20
  clear A20
  as_aux_lemma =>
    simp only [Option.some.injEq, Prod.mk.injEq] at H
    obtain ⟨rfl, rfl⟩ := H
    go_enter Tryd.func28, Tryd.ntmps28
    try go_wp2_with (first | ((with_reducible refine gate_dst (N := 1) rfl ?_); refine box_event ?hg (N := 1) ?hd (cs := #[.int .u8 a0_0, .slice A0_1 l0_1.length c0_1]) (t := 64) ?hr ?_; (case hd => rfl); (case hg => rfl); (case hr => first | (go_simp; done) | (go_simp; rfl)); intro gb432 hg w3 hbox hb; have n0_ := Aside0.mk (below_step (by repeat (first | (with_reducible first | exact HB.out | apply below_alloc | apply pw_below_drewN | apply below_drew1) | exact HB.out)) hb); have n1_ := Aside0.mk (hbox); have n2_ := Aside0.mk ((by rw [hg]; exact (below_size (by repeat (first | (with_reducible first | exact HB.out | apply below_alloc | apply pw_below_drewN | apply below_drew1) | exact HB.out))) : w.heap.size ≤ gb432)); have n3_ := Aside0.mk ((by rw [hg]; exact (below_size (by repeat (first | (with_reducible first | exact HB.out | apply below_alloc | apply pw_below_drewN | apply below_drew1) | exact HB.out))) : w.heap.size ≤ gb432)); clear HB; have HB := n0_; have BK432 := n1_; have GW432 := n2_; have GE432 := n3_; clear n0_ n1_ n2_ n3_; clear hb hbox hg) | ((with_reducible refine gate_dst (N := 2) rfl ?_); refine box_event ?hg (N := 2) ?hd (cs := #[.int .i64 0, .slice none 0 0]) (t := 37) ?hr ?_; (case hd => rfl); (case hg => rfl); (case hr => first | (go_simp; done) | (go_simp; rfl)); intro gb433 hg w4 hbox hb; have n0_ := Aside0.mk (blk_below (g := gb432) (o := .cells #[.int .u8 a0_0, .slice A0_1 l0_1.length c0_1] 64 (0, 0)) (by (with_reducible repeat (first | refine blk_drewN ?_ _ | refine blk_drew ?_ | refine blk_alloc ?_ _)); exact BK432.out) hb); have n1_ := Aside0.mk (below_step (by repeat (first | (with_reducible first | exact HB.out | apply below_alloc | apply pw_below_drewN | apply below_drew1 | refine below_set ?_ GE432.out) | exact HB.out)) hb); have n2_ := Aside0.mk (hbox); have n3_ := Aside0.mk ((by rw [hg]; exact (below_size (by repeat (first | (with_reducible first | exact HB.out | apply below_alloc | apply pw_below_drewN | apply below_drew1 | refine below_set ?_ GE432.out) | exact HB.out))) : w.heap.size ≤ gb433)); have n4_ := Aside0.mk ((by rw [hg]; exact (below_size (by repeat (first | (with_reducible first | exact HB.out | apply below_alloc | apply pw_below_drewN | apply below_drew1 | refine below_set ?_ GE432.out) | exact HB.out))) : w.heap.size ≤ gb433)); have n5_ := Aside0.mk ((by rw [hg]; exact Nat.ne_of_lt (blk_lt (g := gb432) (o := .cells #[.int .u8 a0_0, .slice A0_1 l0_1.length c0_1] 64 (0, 0)) (by (with_reducible repeat (first | refine blk_drewN ?_ _ | refine blk_drew ?_ | refine blk_alloc ?_ _)); exact BK432.out)) : gb432 ≠ gb433)); have n6_ := Aside0.mk ((by rw [hg]; exact Nat.ne_of_gt (blk_lt (g := gb432) (o := .cells #[.int .u8 a0_0, .slice A0_1 l0_1.length c0_1] 64 (0, 0)) (by (with_reducible repeat (first | refine blk_drewN ?_ _ | refine blk_drew ?_ | refine blk_alloc ?_ _)); exact BK432.out)) : gb433 ≠ gb432)); clear BK432; clear HB; have BK432 := n0_; have HB := n1_; have BK433 := n2_; have GW433 := n3_; have GE433 := n4_; have NB432_433 := n5_; have NB433_432 := n6_; clear n0_ n1_ n2_ n3_ n4_ n5_ n6_; clear hb hbox hg))
    have n0_ := Aside0.mk (blk_drew BK432.out)
    have n1_ := Aside0.mk (blk_drew BK433.out)
    have n2_ := Aside0.mk (below_drew1 HB.out)
    clear BK432
    clear BK433
    clear HB
    have BK432 := n0_
    have BK433 := n1_
    have HB := n2_
    clear n0_ n1_ n2_
    refine start_ (n := 8) (S := fun w' => w'.cell? ⟨gb432, 0, none⟩ = some (.int .u8 a0_0) ∧ w'.cell? ⟨gb432, 1, none⟩ = some (.slice A0_1 l0_1.length c0_1)) (ds := []) #[false, false, false, false, false, false, false, false] (by kernel_rfl) rfl rfl ⟨(blk_cell BK432.out 0).trans rfl, (blk_cell BK432.out 1).trans rfl⟩ (fun hHeld => ?_); refine with_tabW impl_raw.tab1 impl_raw.bits1 (fun HT_ HW_ => ?_)
    generalize w4.drew = w5 at BK432 BK433 HB hHeld ⊢
    refine pure_ (i := 0) (N := some 3) (v := ?_) (a' := ?_) #[true, false, false, false, false, false, false, false] rfl rfl (any_of HT_.out (by kernel_rfl)) (fun _ _ _ h => h) (Or.inl ⟨by rfl, ?_⟩) ?_ ?_
    rotate_left
    · intro w'
      go_simp
      with_reducible rfl
    rotate_left
    · simp only [Act.put, List.setIfInBounds_toArray, List.set_cons_zero, List.set_cons_succ, i64_w, i32_w]
      rfl
    refine pure_ (i := 3) (N := some 6) (v := ?_) (a' := ?_) #[true, false, false, true, false, false, false, false] rfl rfl (any_of HT_.out (by kernel_rfl)) (fun _ _ _ h => h) (Or.inl ⟨by rfl, ?_⟩) ?_ ?_
    rotate_left
    · intro w'
      go_simp
      with_reducible rfl
    rotate_left
    · simp only [Act.put, List.setIfInBounds_toArray, List.set_cons_zero, List.set_cons_succ, i64_w, i32_w]
      rfl
    refine take_ (i := 1) (N := some 4) (v := ?_) (a' := ?_) #[true, true, false, true, false, false, false, false] rfl rfl (take_ofW HT_.out HW_.out (by kernel_rfl)) (fun _ _ _ h => h) (Or.inl ⟨by rfl, ?_⟩) hHeld ?_ ?_
    rotate_left
    · rintro w' ⟨s0, s1⟩
      go_simp
      with_reducible rfl
    rotate_left
    · simp only [Act.put, List.setIfInBounds_toArray, List.set_cons_zero, List.set_cons_succ, i64_w, i32_w]
      rfl
    refine pure_ (i := 2) (N := some 5) (v := ?_) (a' := ?_) #[true, true, true, true, false, false, false, false] rfl rfl (any_of HT_.out (by kernel_rfl)) (fun _ _ _ h => h) (Or.inl ⟨by rfl, ?_⟩) ?_ ?_
    rotate_left
    · intro w'
      go_simp
      with_reducible rfl
    rotate_left
    · simp only [Act.put, List.setIfInBounds_toArray, List.set_cons_zero, List.set_cons_succ, i64_w, i32_w]
      rfl
    refine take_ (i := 4) (N := some 7) (v := ?_) (a' := ?_) #[true, true, true, true, true, false, false, false] rfl rfl (take_ofW HT_.out HW_.out (by kernel_rfl)) (fun _ _ _ h => h) (Or.inl ⟨by rfl, ?_⟩) hHeld ?_ ?_
    rotate_left
    · rintro w' ⟨s0, s1⟩
      go_simp
      with_reducible rfl
    rotate_left
    · simp only [Act.put, List.setIfInBounds_toArray, List.set_cons_zero, List.set_cons_succ, i64_w, i32_w]
      rfl
    refine one_ (i := 5) (N := some 8) #[true, true, true, true, true, true, false, false] rfl rfl (one_of HT_.out (by kernel_rfl)) (by decide) (fun K hK => ?_)
    refine goes_ Tryd.func26 (by kernel_rfl) rfl #[.slice A0_1 l0_1.length c0_1] (by rfl) rfl rfl (by (try simp only [List.map_toArray, List.map_cons, List.map_nil]); first | done | rfl | (simp only [List.length_drop, List.length_take]; rfl)) ?_
    with_reducible refine (impl_own.calls _ _ l0_1 t434 _ ?side1 ?side2 A2.out).mono ?_
    (case side1 => repeat (first | exact (Kd.C_below HR0_1.out HB.out) | (with_reducible refine Kd.C_alloc ?_ _) | (with_reducible refine Kd.C_drewN ?_ _) | (with_reducible refine Kd.C_drew ?_)))
    (case side2 => exact HC0_1.out)
    rintro e w6 ⟨v435, rfl, ho0, hb⟩
    refine ⟨_, rfl, ?_⟩
    have n0_ := Aside0.mk (Kd.R_lower ho0 (below_size (by repeat (first | (with_reducible first | exact HB.out | apply below_alloc | apply pw_below_drewN | apply below_drew1 | refine below_set ?_ GE432.out | refine below_set ?_ GE433.out) | exact HB.out))))
    have n1_ := Aside0.mk (blk_below (g := gb432) (o := .cells #[.int .u8 a0_0, .slice A0_1 l0_1.length c0_1] 64 (0, 0)) (by (with_reducible repeat (first | refine blk_drewN ?_ _ | refine blk_drew ?_ | refine blk_alloc ?_ _)); exact BK432.out) hb)
    have n2_ := Aside0.mk (blk_below (g := gb433) (o := .cells #[.int .i64 0, .slice none 0 0] 37 (0, 0)) (by (with_reducible repeat (first | refine blk_drewN ?_ _ | refine blk_drew ?_ | refine blk_alloc ?_ _)); exact BK433.out) hb)
    have n3_ := Aside0.mk (below_step (by repeat (first | (with_reducible first | exact HB.out | apply below_alloc | apply pw_below_drewN | apply below_drew1 | refine below_set ?_ GE432.out | refine below_set ?_ GE433.out) | exact HB.out)) hb)
    clear BK432
    clear BK433
    clear HB
    have HO436 := n0_
    have BK432 := n1_
    have BK433 := n2_
    have HB := n3_
    clear n0_ n1_ n2_ n3_
    (try clear hb)
    (try clear hb2)
    (try clear hk)
    (try clear hi)
    (try clear ho0)
    obtain ⟨Ao7, co7, eo7⟩ := Kd.R_slice HO436.out
    (first | subst eo7 | (injection eo7 with f1_ f2_ f3_; have f4_ := f1_.symm; have f5_ := f3_.symm; clear f1_ f2_ f3_; subst f4_; subst f5_))
    refine hK.out _ _ ⟨(blk_cell BK432.out 0).trans rfl, (blk_cell BK432.out 1).trans rfl⟩ (fun hHeld => ?_)
    clear hK K
    refine norm_ (a' := ?_) ?_ ?_
    rotate_left
    · show Act.put _ (some 8) _ = _
      simp only [Act.put, List.setIfInBounds_toArray, List.set_cons_zero, List.set_cons_succ, i64_w, i32_w]
      rfl
    refine pure_ (i := 6) (N := some 9) (v := ?_) (a' := ?_) #[true, true, true, true, true, true, true, false] rfl rfl (any_of HT_.out (by kernel_rfl)) (fun _ _ _ h => h) (Or.inl ⟨by rfl, ?_⟩) ?_ ?_
    rotate_left
    · intro w'
      go_simp
      with_reducible rfl
    rotate_left
    · simp only [Act.put, List.setIfInBounds_toArray, List.set_cons_zero, List.set_cons_succ, i64_w, i32_w]
      rfl
    refine one_ (i := 7) (N := none) #[true, true, true, true, true, true, true, true] rfl rfl (one_of HT_.out (by kernel_rfl)) (by decide) (fun K hK => ?_)
    have hs8 : w6.cell? ⟨gb433, 0, none⟩ = some (.int .i64 0) := (blk_cell BK433.out 0).trans rfl
    have hfs8 := blk_frozen BK433.out 0
    have hns8_0 := NB432_433.out
    have hms8_0 := NB433_432.out
    have hs9 : w6.cell? ⟨gb433, 1, none⟩ = some (.slice none 0 0) := (blk_cell BK433.out 1).trans rfl
    have hfs9 := blk_frozen BK433.out 1
    have hns9_0 := NB432_433.out
    have hms9_0 := NB433_432.out
    refine skip_ (w1 := ?_) (by rfl) rfl ?_ ?_
    rotate_left
    · go_simp
      rfl
    refine hK.out _ _ ⟨((cell_far (p := ⟨gb433, _, none⟩) NB432_433.out _).trans (((cell_far (p := ⟨gb433, _, none⟩) NB432_433.out _).trans (hHeld.1)))), ((cell_far (p := ⟨gb433, _, none⟩) NB432_433.out _).trans (((cell_far (p := ⟨gb433, _, none⟩) NB432_433.out _).trans (hHeld.2))))⟩ (fun hHeld => ?_)
    clear hK K
    refine done_ (done_of HT_.out (by kernel_rfl)) ?_
    try go_wp2
    refine bodyPost_ret (results_cell_row rfl _ _ gb433 37 #[.int .i64 (wrap64 (a0_0)), .slice Ao7 t434.length co7] (0, 0) _ rfl (by (with_reducible repeat (first | refine blk_drewN ?_ _ | refine blk_drew ?_ | refine blk_alloc ?_ _)); refine blk_put (cs := #[.int .i64 (wrap64 (a0_0)), .slice none 0 0]) ?_ 1 _ rfl; (with_reducible repeat (first | refine blk_drewN ?_ _ | refine blk_drew ?_ | refine blk_alloc ?_ _)); refine blk_put (cs := #[.int .i64 0, .slice none 0 0]) ?_ 0 _ rfl; (with_reducible repeat (first | refine blk_drewN ?_ _ | refine blk_drew ?_ | refine blk_alloc ?_ _)); exact BK433.out) Tryd.underlying37 rfl (by kernel_rfl)) rfl ?_
    exact ⟨_, by first | rfl | (simp [errW_none, errW_some] <;> rfl) | (simp [*, errW_none, errW_some] <;> rfl), by (with_reducible repeat (first | apply Kd.R_alloc | apply Kd.R_drewN | apply Kd.R_drew)); exact Kd.R_mono (Kd.R_far (p := ⟨gb433, 1, none⟩) (Kd.R_far (p := ⟨gb433, 0, none⟩) (Kd.R_types HO436.out BK433.out (by decide)) (fun _ hk => hk.2) (.int .i64 (wrap64 (a0_0)))) (fun _ hk => hk.2) (.slice Ao7 t434.length co7)) (fun _ hk => trivial), by repeat (first | (with_reducible first | exact HB.out | apply below_alloc | apply pw_below_drewN | apply below_drew1 | refine below_set ?_ GE432.out | refine below_set ?_ GE433.out) | exact HB.out)⟩

/-! ### impl_ElementValue: function 11 -/
set_option maxRecDepth 100000 in
set_option maxHeartbeats 4000000 in
theorem ve_calls (A : Option Addr) (c : Nat) (l : List Int) (w : World) (hC : Kd.C (Kd.int .u8) w A l.length l) (hc : l.length ≤ c) (hbig : l.length ≤ 1000000) (i : Nat) (hidx : Lib.indexByte (Lib.bytesOf (l.drop 1)) 0 = (i : Int)) (h1 : i + 1 < l.length) (x : Int) (hx : rd l 0 = x) (bs : List Int) (hbs : l.drop (i + 2) = bs) (k : Nat) (vb rm : List Int) (hrv : bsoncore_ReadValue.f k bs x = some (x, vb, rm, true)) :
    Calls Tryd.prog 27 #[.slice A l.length c] w fun e w' => ∃ A3 c3, e = .returned (.tuple #[.agg #[.int .u8 x, .slice A3 vb.length c3], .nilIface]) ∧ Kd.C (Kd.int .u8) w' A3 vb.length vb ∧ vb.length ≤ c3 ∧ Below w.heap.size w w' := by
  obtain ⟨i0, hi0, hz0⟩ := Option.map_eq_some_iff.1 info5
  simp only [Prod.mk.injEq] at hz0
  have hcut1 := cut_from (P := Tryd.prog) 57 5 .i64 Tryd.underlying57 hi0 1 hz0.2.1 A l.length c 1 (by omega) (by omega)
  have hcut2 := cut_from (P := Tryd.prog) 57 5 .i64 Tryd.underlying57 hi0 1 hz0.2.1 A l.length c ((i : Int) + 2) (by omega) (by omega)
  have hC1 := Kd.C_drop (m := (1 : Int).toNat) hC (by show 1 ≤ l.length; omega) hc
  have hC2 := Kd.C_drop (m := ((i : Int) + 2).toNat) hC (by omega) hc
  have e1 : ((i : Int) + 2).toNat = i + 2 := by omega
  have y1 : (l.drop (1 : Int).toNat).length = l.length - (1 : Int).toNat := List.length_drop
  have y2 : (l.drop ((i : Int) + 2).toNat).length = l.length - ((i : Int) + 2).toNat := List.length_drop
  rw [← y1] at hcut1
  rw [← y2] at hcut2
  obtain ⟨A1, hA1⟩ : ∃ A1, A1 = (if c = (1 : Int).toNat then A else A.map (·.add ((1 : Int).toNat * 1))) := ⟨_, rfl⟩
  obtain ⟨c1, hc1⟩ : ∃ c1, c1 = c - (1 : Int).toNat := ⟨_, rfl⟩
  obtain ⟨A2, hA2⟩ : ∃ A2, A2 = (if c = ((i : Int) + 2).toNat then A else A.map (·.add (((i : Int) + 2).toNat * 1))) := ⟨_, rfl⟩
  obtain ⟨c2, hc2⟩ : ∃ c2, c2 = c - ((i : Int) + 2).toNat := ⟨_, rfl⟩
  have hC1' : Kd.C (Kd.int .u8) w A1 (l.drop (1 : Int).toNat).length (l.drop (1 : Int).toNat) := by rw [hA1]; exact hC1
  have hC2' : Kd.C (Kd.int .u8) w A2 (l.drop ((i : Int) + 2).toNat).length (l.drop ((i : Int) + 2).toNat) := by rw [hA2]; exact hC2
  have hc1' : (l.drop (1 : Int).toNat).length ≤ c1 := by rw [y1, hc1]; exact Nat.sub_le_sub_right hc _
  have hc2' : (l.drop ((i : Int) + 2).toNat).length ≤ c2 := by rw [y2, hc2]; exact Nat.sub_le_sub_right hc _
  rw [← hA1, ← hc1] at hcut1
  rw [← hA2, ← hc2, e1, hbs] at hcut2
  rw [e1, hbs] at hC2' hc2'
  have hidx' : bytes_IndexByte.f (l.drop (1 : Int).toNat) 0 = some (i : Int) := congrArg some hidx
  change (∀ W, _ = Result.ok (Value.slice A1 (List.drop 1 l).length c1) W) at hcut1
  change Kd.C (Kd.int .u8) w A1 (l.drop 1).length (l.drop 1) at hC1'
  change (l.drop 1).length ≤ c1 at hc1'
  change bytes_IndexByte.f (l.drop 1) 0 = some (i : Int) at hidx'
  generalize hL1 : l.drop 1 = L1 at hcut1 hC1' hc1' hidx'
  obtain ⟨a, hA, hcell⟩ := Kd.at_int hC 0 (by omega) (by omega)
  rw [hx, show (0 : Int).toNat = 0 from rfl, Addr.add_zero'] at hcell
  subst hA
  have qi : (0 < l.length) = True := eq_true (by omega)
  clear hL1 hbs hA1 hA2 hc1 hc2 y1 y2 hC1 hC2 e1 hz0 hi0 hidx
  have d0 : decide ((l.length : Int) = 0) = false := decide_eq_false (by omega)
  have d0' : decide (l.length = 0) = false := decide_eq_false (by omega)
  have hne0 : l ≠ [] := by intro h; subst h; simp at h1
  have d1 : decide ((i : Int) = -1) = false := decide_eq_false (by omega)
  have hw : wrap64 ((i : Int) + 2) = (i : Int) + 2 := by unfold wrap64; omega
  have hw' : IntKind.i64.wrap ((i : Int) + 2) = (i : Int) + 2 := by rw [IntKind.wrap_i64]; omega
  go_enter Tryd.func27, Tryd.ntmps27
  go_wp2_with (go_at_call 39; refine (bytes_IndexByte.calls A1 c1 L1 0 i _ (Kd.C_alloc hC1' _) hc1' hidx').mono ?_; rintro e w1 ⟨rfl, hD⟩)
  have B0 : Below w.heap.size w w1 := below_step (below_alloc (Below.refl _ _) _) hD.below
  have hz1 : w1.heap[w.heap.size]? = some (.cells #[.int .u8 0, .slice none 0 0] 64 (0, 0)) := blk_below (blk_new w _) hD.below
  have hV1 : Kd.V (Kd.int .u8) 5 w1 w.heap.size (fun k => k < w.heap.size) (.slice A2 bs.length c2) bs := Kd.V_mk hc2' (Kd.F_below (Kd.C_F (Kd.heap_int _) hC2') B0)
  have ha1 : w1.cell? a = some (.int .u8 x) := pw_cell_below B0 hcell
  have hla : a.block < w.heap.size := World.block_lt_of_cell? w _ hcell
  refine start_ (n := 16) (S := fun W => W.cell? a = some (.int .u8 x)) (ds := []) #[false, false, false, false, false, false, false, false, false, false, false, false, false, false, false, false] (by kernel_rfl) rfl rfl ((pw_cell_below (below_drew1 (Below.refl _ w1)) ha1)) (fun hHeld => ?_)
  have B1 : Below w.heap.size w w1.drew := below_drew1 B0
  have hz2 : w1.drew.heap[w.heap.size]? = some (.cells #[.int .u8 0, .slice none 0 0] 64 (0, 0)) := hz1
  have hV2 : Kd.V (Kd.int .u8) 5 w1.drew w.heap.size (fun k => k < w.heap.size) (.slice A2 bs.length c2) bs := Kd.V_drew hV1
  have hs1 : w.heap.size < w1.drew.heap.size := (Array.getElem?_eq_some_iff.1 hz2).1
  generalize w1.drew = wd at B1 hz2 hV2 hs1 hHeld ⊢
  clear hz1 hV1 ha1 B0 hD
  refine pure_ (i := 0) (N := (some 21)) (v := ?_) (a' := ?_) #[true, false, false, false, false, false, false, false, false, false, false, false, false, false, false, false] rfl rfl (by kernel_rfl) (fun _ _ _ h => h) (Or.inl ⟨by rfl, ?_⟩) ?_ ?_
  rotate_left
  · intro w'
    go_simp
    with_reducible rfl
  rotate_left
  · simp only [Act.put, List.setIfInBounds_toArray, List.set_cons_zero, List.set_cons_succ, i64_w, i32_w]
    rfl
  refine pure_ (i := 1) (N := (some 22)) (v := ?_) (a' := ?_) #[true, true, false, false, false, false, false, false, false, false, false, false, false, false, false, false] rfl rfl (by kernel_rfl) (fun _ _ _ h => h) (Or.inl ⟨by rfl, ?_⟩) ?_ ?_
  rotate_left
  · intro w'
    go_simp
    with_reducible rfl
  rotate_left
  · simp only [Act.put, List.setIfInBounds_toArray, List.set_cons_zero, List.set_cons_succ, i64_w, i32_w]
    rfl
  refine pure_ (i := 2) (N := (some 23)) (v := ?_) (a' := ?_) #[true, true, true, false, false, false, false, false, false, false, false, false, false, false, false, false] rfl rfl (by kernel_rfl) (fun _ _ _ h => h) (Or.inl ⟨by rfl, ?_⟩) ?_ ?_
  rotate_left
  · intro w'
    go_simp
    with_reducible rfl
  rotate_left
  · simp only [Act.put, List.setIfInBounds_toArray, List.set_cons_zero, List.set_cons_succ, i64_w, i32_w]
    rfl
  refine pure_ (i := 3) (N := some 24) (v := .slice A2 bs.length c2) (a' := ?_) #[true, true, true, true, false, false, false, false, false, false, false, false, false, false, false, false] rfl rfl (by kernel_rfl) (fun _ _ _ h => h) (Or.inl ⟨by rfl, ?_⟩) ?_ ?_
  · intro w'
    simp [execOp, Act.eval, Sem.run_bind]
    have hx : (Tryd.prog).underlying 57 = some (.slice ((Tryd.prog).elem 57)) := by kernel_rfl
    rw [(run_sliceAt_slice (P := Tryd.prog) (w := w') 57 (.slice (some a) l.length c) (some (.int .i64 ((i : Int) + 2))) none none hx).trans (hcut2 w')]
    rfl
  rotate_left
  · simp only [Act.put, List.setIfInBounds_toArray, List.set_cons_zero, List.set_cons_succ, i64_w, i32_w]
    rfl
  refine pure_ (i := 4) (N := (some 25)) (v := ?_) (a' := ?_) #[true, true, true, true, true, false, false, false, false, false, false, false, false, false, false, false] rfl rfl (by kernel_rfl) (fun _ _ _ h => h) (Or.inl ⟨by rfl, ?_⟩) ?_ ?_
  rotate_left
  · intro w'
    go_simp
    with_reducible rfl
  rotate_left
  · simp only [Act.put, List.setIfInBounds_toArray, List.set_cons_zero, List.set_cons_succ, i64_w, i32_w]
    rfl
  refine pure_ (i := 5) (N := (some 26)) (v := ?_) (a' := ?_) #[true, true, true, true, true, true, false, false, false, false, false, false, false, false, false, false] rfl rfl (by kernel_rfl) (fun _ _ _ h => h) (Or.inl ⟨by rfl, ?_⟩) ?_ ?_
  rotate_left
  · intro w'
    go_simp
    with_reducible rfl
  rotate_left
  · simp only [Act.put, List.setIfInBounds_toArray, List.set_cons_zero, List.set_cons_succ, i64_w, i32_w]
    rfl
  refine take_ (i := 6) (N := some 27) (v := ?_) (a' := ?_) #[true, true, true, true, true, true, true, false, false, false, false, false, false, false, false, false] rfl rfl (by kernel_rfl) (fun _ _ _ h => h) (Or.inl ⟨by rfl, ?_⟩) hHeld ?_ ?_
  rotate_left
  · rintro w' h0
    go_simp
    with_reducible rfl
  rotate_left
  · simp only [Act.put, List.setIfInBounds_toArray, List.set_cons_zero, List.set_cons_succ, i64_w, i32_w]
    rfl
  refine join_ (σ := Nat × (Option Addr × Nat) × Value) 3 #[true, true, true, true, true, true, true, true, true, true, true, true, true, false, false, false] (fun s => [(28, .tuple #[.agg #[.int .u8 x, .slice s.2.1.1 vb.length s.2.1.2], s.2.2, .bool true]), (20, .tuple #[.agg #[.int .u8 x, .slice s.2.1.1 vb.length s.2.1.2], s.2.2, .bool true]), (29, .agg #[.int .u8 x, .slice s.2.1.1 vb.length s.2.1.2]), (30, s.2.2), (31, .bool true), (5, .pointer (some ⟨s.1, 0, none⟩))]) (fun s W => W.cell? a = some (.int .u8 x) ∧ Below w.heap.size w W ∧ W.heap[w.heap.size]? = some (.cells #[.int .u8 0, .slice none 0 0] 64 (0, 0)) ∧ W.heap[s.1]? = some (.cells #[.int .u8 0, .slice none 0 0] 64 (0, 0)) ∧ w.heap.size < s.1 ∧ Kd.V (Kd.int .u8) 5 W w.heap.size (fun k => k ≠ s.1 ∧ k ≠ w.heap.size) (.slice s.2.1.1 vb.length s.2.1.2) vb) (fun s W hF => ?_) (fun hj => ?_)
  rotate_left
  · refine two_ (i := 7) (j := 12) (Ni := some 28) (Nj := some 5) #[true, true, true, true, true, true, true, true, false, false, false, false, false, false, false, false] #[true, true, true, true, true, true, true, false, false, false, false, false, true, false, false, false] rfl rfl rfl rfl (by kernel_rfl) (by decide) (by decide) (fun K_ hK => ?_) (fun K_ hK => ?_)
    · refine goes_ Tryd.func40 (by kernel_rfl) rfl #[.slice A2 bs.length c2, .int .u8 x] (by rfl) rfl rfl (by (try simp only [List.map_toArray, List.map_cons, List.map_nil]); first | done | rfl) ?_
      refine (bsoncore_ReadValue.calls k (fun k => k < w.heap.size) A2 c2 bs x x vb rm true wd (Kd.V_mk (Kd.V_reads' hV2).2.1 (Kd.V_F hV2)) hrv).mono ?_
      rintro e w2 ⟨v1, v2, rfl, hv1, hv2, hb2⟩
      obtain ⟨A3, c3, rfl⟩ := Kd.V_slice hv1
      refine ⟨_, rfl, ?_⟩
      refine hK.out _ _ (pw_cell_below hb2 hHeld) (fun hHeld2 => ?_)
      clear hK K_
      refine norm_ (a' := ?_) ?_ ?_
      rotate_left
      · show Act.put _ (some 28) _ = _
        simp only [Act.put, List.setIfInBounds_toArray, List.set_cons_zero, List.set_cons_succ, i64_w, i32_w]
        rfl
      refine pure_ (i := 8) (N := (some 20)) (v := ?_) (a' := ?_) #[true, true, true, true, true, true, true, true, true, false, false, false, false, false, false, false] rfl rfl (by kernel_rfl) (fun _ _ _ h => h) (Or.inl ⟨by rfl, ?_⟩) ?_ ?_
      rotate_left
      · intro w'
        go_simp
        with_reducible rfl
      rotate_left
      · simp only [Act.put, List.setIfInBounds_toArray, List.set_cons_zero, List.set_cons_succ, i64_w, i32_w]
        rfl
      refine pure_ (i := 9) (N := (some 29)) (v := ?_) (a' := ?_) #[true, true, true, true, true, true, true, true, true, true, false, false, false, false, false, false] rfl rfl (by kernel_rfl) (fun _ _ _ h => h) (Or.inl ⟨by rfl, ?_⟩) ?_ ?_
      rotate_left
      · intro w'
        go_simp
        with_reducible rfl
      rotate_left
      · simp only [Act.put, List.setIfInBounds_toArray, List.set_cons_zero, List.set_cons_succ, i64_w, i32_w]
        rfl
      refine pure_ (i := 10) (N := (some 30)) (v := ?_) (a' := ?_) #[true, true, true, true, true, true, true, true, true, true, true, false, false, false, false, false] rfl rfl (by kernel_rfl) (fun _ _ _ h => h) (Or.inl ⟨by rfl, ?_⟩) ?_ ?_
      rotate_left
      · intro w'
        go_simp
        with_reducible rfl
      rotate_left
      · simp only [Act.put, List.setIfInBounds_toArray, List.set_cons_zero, List.set_cons_succ, i64_w, i32_w]
        rfl
      refine pure_ (i := 11) (N := (some 31)) (v := ?_) (a' := ?_) #[true, true, true, true, true, true, true, true, true, true, true, true, false, false, false, false] rfl rfl (by kernel_rfl) (fun _ _ _ h => h) (Or.inl ⟨by rfl, ?_⟩) ?_ ?_
      rotate_left
      · intro w'
        go_simp
        with_reducible rfl
      rotate_left
      · simp only [Act.put, List.setIfInBounds_toArray, List.set_cons_zero, List.set_cons_succ, i64_w, i32_w]
        rfl
      refine one_ (i := 12) (N := some 5) #[true, true, true, true, true, true, true, true, true, true, true, true, true, false, false, false] rfl rfl (by kernel_rfl) (by decide) (fun K_ hK => ?_)
      refine value_ (v := .pointer (some ⟨w2.heap.size, 0, none⟩)) (w1 := w2.alloc (.cells #[.int .u8 0, .slice none 0 0] 64)) (by rfl) rfl ?_ ?_
      · go_simp
      refine hK.out _ _ (pw_cell_below (below_alloc (Below.refl _ _) _) hHeld2) (fun hHeld3 => ?_)
      refine norm_ rfl (hj (w2.heap.size, (A3, c3), v2) _ ⟨hHeld3, below_alloc (below_step B1 hb2) _, blk_alloc (blk_below hz2 hb2) _, blk_new w2 _, Nat.lt_of_lt_of_le hs1 hb2.size, Kd.V_alloc (Kd.V_mono (Kd.V_bound hv1) (fun k hk => ⟨by omega, by have := hk.1; omega⟩)) _⟩)
    · refine value_ (v := .pointer (some ⟨wd.heap.size, 0, none⟩)) (w1 := wd.alloc (.cells #[.int .u8 0, .slice none 0 0] 64)) (by rfl) rfl ?_ ?_
      · go_simp
      refine hK.out _ _ (pw_cell_below (below_alloc (Below.refl _ _) _) hHeld) (fun hHeld2 => ?_)
      clear hK K_
      refine one_ (i := 7) (N := some 28) #[true, true, true, true, true, true, true, true, false, false, false, false, true, false, false, false] rfl rfl (by kernel_rfl) (by decide) (fun K_ hK => ?_)
      refine goes_ Tryd.func40 (by kernel_rfl) rfl #[.slice A2 bs.length c2, .int .u8 x] (by rfl) rfl rfl (by (try simp only [List.map_toArray, List.map_cons, List.map_nil]); first | done | rfl) ?_
      refine (bsoncore_ReadValue.calls k (fun k => k < w.heap.size) A2 c2 bs x x vb rm true (wd.alloc (.cells #[.int .u8 0, .slice none 0 0] 64)) (Kd.V_mk (Kd.V_reads' hV2).2.1 (Kd.F_alloc (Kd.V_F hV2) _)) hrv).mono ?_
      rintro e w2 ⟨v1, v2, rfl, hv1, hv2, hb2⟩
      obtain ⟨A3, c3, rfl⟩ := Kd.V_slice hv1
      refine ⟨_, rfl, ?_⟩
      have hsa : (wd.alloc (.cells #[.int .u8 0, .slice none 0 0] 64)).heap.size = wd.heap.size + 1 := by simp
      refine hK.out _ _ (pw_cell_below hb2 hHeld2) (fun hHeld3 => ?_)
      refine norm_ (a' := ?_) ?_ ?_
      rotate_left
      · show Act.put _ (some 28) _ = _
        simp only [Act.put, List.setIfInBounds_toArray, List.set_cons_zero, List.set_cons_succ, i64_w, i32_w]
        rfl
      refine pure_ (i := 8) (N := (some 20)) (v := ?_) (a' := ?_) #[true, true, true, true, true, true, true, true, true, false, false, false, true, false, false, false] rfl rfl (by kernel_rfl) (fun _ _ _ h => h) (Or.inl ⟨by rfl, ?_⟩) ?_ ?_
      rotate_left
      · intro w'
        go_simp
        with_reducible rfl
      rotate_left
      · simp only [Act.put, List.setIfInBounds_toArray, List.set_cons_zero, List.set_cons_succ, i64_w, i32_w]
        rfl
      refine pure_ (i := 9) (N := (some 29)) (v := ?_) (a' := ?_) #[true, true, true, true, true, true, true, true, true, true, false, false, true, false, false, false] rfl rfl (by kernel_rfl) (fun _ _ _ h => h) (Or.inl ⟨by rfl, ?_⟩) ?_ ?_
      rotate_left
      · intro w'
        go_simp
        with_reducible rfl
      rotate_left
      · simp only [Act.put, List.setIfInBounds_toArray, List.set_cons_zero, List.set_cons_succ, i64_w, i32_w]
        rfl
      refine pure_ (i := 10) (N := (some 30)) (v := ?_) (a' := ?_) #[true, true, true, true, true, true, true, true, true, true, true, false, true, false, false, false] rfl rfl (by kernel_rfl) (fun _ _ _ h => h) (Or.inl ⟨by rfl, ?_⟩) ?_ ?_
      rotate_left
      · intro w'
        go_simp
        with_reducible rfl
      rotate_left
      · simp only [Act.put, List.setIfInBounds_toArray, List.set_cons_zero, List.set_cons_succ, i64_w, i32_w]
        rfl
      refine pure_ (i := 11) (N := (some 31)) (v := ?_) (a' := ?_) #[true, true, true, true, true, true, true, true, true, true, true, true, true, false, false, false] rfl rfl (by kernel_rfl) (fun _ _ _ h => h) (Or.inl ⟨by rfl, ?_⟩) ?_ ?_
      rotate_left
      · intro w'
        go_simp
        with_reducible rfl
      rotate_left
      · simp only [Act.put, List.setIfInBounds_toArray, List.set_cons_zero, List.set_cons_succ, i64_w, i32_w]
        rfl
      refine norm_ rfl (hj (wd.heap.size, (A3, c3), v2) _ ⟨hHeld3, below_step (below_alloc B1 _) hb2, blk_below (blk_alloc hz2 _) hb2, blk_below (blk_new wd _) hb2, hs1, Kd.V_mono (Kd.V_bound hv1) (fun k hk => ⟨by have := hk.1; omega, by have := hk.1; omega⟩)⟩)
  obtain ⟨hHeld2, B2, hz3, hg3, hlt, hv⟩ := hF
  obtain ⟨g, ⟨A3, c3⟩, v2⟩ := s
  change W.heap[g]? = _ at hg3
  change w.heap.size < g at hlt
  refine norm_ (a' := ?_) ?_ ?_
  rotate_left
  · simp only [putAll, Act.put, List.setIfInBounds_toArray, List.set_cons_zero, List.set_cons_succ]
    rfl
  refine one_ (i := 13) (N := none) #[true, true, true, true, true, true, true, true, true, true, true, true, true, true, false, false] rfl rfl (by kernel_rfl) (by decide) (fun K_ hK => ?_)
  have x0 : W.cell? ⟨g, 0, none⟩ = some (.int .u8 0) := (blk_cell hg3 0).trans rfl
  have f0 := blk_frozen hg3 0
  have x1 : W.cell? ⟨g, 1, none⟩ = some (.slice none 0 0) := (blk_cell hg3 1).trans rfl
  have f1 := blk_frozen hg3 1
  refine skip_ (w1 := ?_) (by rfl) rfl ?_ ?_
  rotate_left
  · go_simp
    rfl
  refine hK.out _ _ ((cell_far (p := ⟨g, _, none⟩) (by simp; omega) _).trans ((cell_far (p := ⟨g, _, none⟩) (by simp; omega) _).trans hHeld2)) (fun hHeld3 => ?_)
  clear hK K_
  have hg5 : ((W.setCell ⟨g, 0, none⟩ (.int .u8 x)).setCell ⟨g, 1, none⟩ (.slice A3 vb.length c3)).heap[g]? = some (.cells #[.int .u8 x, .slice A3 vb.length c3] 64 (0, 0)) := blk_put (blk_put hg3 0 _ rfl) 1 _ rfl
  have hz5 : ((W.setCell ⟨g, 0, none⟩ (.int .u8 x)).setCell ⟨g, 1, none⟩ (.slice A3 vb.length c3)).heap[w.heap.size]? = some (.cells #[.int .u8 0, .slice none 0 0] 64 (0, 0)) := by rw [Below.heap_setCell _ _ _ _ (by simp; omega), Below.heap_setCell _ _ _ _ (by simp; omega)]; exact hz3
  have B5 := below_set (g := g) (j := 1) (v := .slice A3 vb.length c3) (below_set (g := g) (j := 0) (v := .int .u8 x) B2 (Nat.le_of_lt hlt)) (Nat.le_of_lt hlt)
  have hv5 : Kd.V (Kd.int .u8) 5 ((W.setCell ⟨g, 0, none⟩ (.int .u8 x)).setCell ⟨g, 1, none⟩ (.slice A3 vb.length c3)) w.heap.size (fun k => k ≠ g ∧ k ≠ w.heap.size) (.slice A3 vb.length c3) vb := Kd.V_far (p := ⟨g, 1, none⟩) (Kd.V_far (p := ⟨g, 0, none⟩) hv (fun _ hk => hk.1) _) (fun _ hk => hk.1) _
  generalize (W.setCell ⟨g, 0, none⟩ (.int .u8 x)).setCell ⟨g, 1, none⟩ (.slice A3 vb.length c3) = W5 at hg5 hz5 B5 hv5 hHeld3 ⊢
  clear hg3 hz3 B2 hv hHeld2 hHeld x0 x1 f0 f1
  refine pure_ (i := 14) (N := (some 6)) (v := ?_) (a' := ?_) #[true, true, true, true, true, true, true, true, true, true, true, true, true, true, true, false] rfl rfl (by kernel_rfl) (fun _ _ _ h => h) (Or.inl ⟨by rfl, ?_⟩) ?_ ?_
  rotate_left
  · intro w'
    go_simp
    with_reducible rfl
  rotate_left
  · simp only [Act.put, List.setIfInBounds_toArray, List.set_cons_zero, List.set_cons_succ, i64_w, i32_w]
    rfl
  refine pure_ (i := 15) (N := (some 7)) (v := ?_) (a' := ?_) #[true, true, true, true, true, true, true, true, true, true, true, true, true, true, true, true] rfl rfl (by kernel_rfl) (fun _ _ _ h => h) (Or.inl ⟨by rfl, ?_⟩) ?_ ?_
  rotate_left
  · intro w'
    go_simp
    with_reducible rfl
  rotate_left
  · simp only [Act.put, List.setIfInBounds_toArray, List.set_cons_zero, List.set_cons_succ, i64_w, i32_w]
    rfl
  refine done_ (by kernel_rfl) ?_
  have x0 : W5.cell? ⟨g, 0, none⟩ = some (.int .u8 x) := (blk_cell hg5 0).trans rfl
  have x1 : W5.cell? ⟨g, 1, none⟩ = some (.slice A3 vb.length c3) := (blk_cell hg5 1).trans rfl
  have y0 : W5.cell? ⟨w.heap.size, 0, none⟩ = some (.int .u8 0) := (blk_cell hz5 0).trans rfl
  have y1 : W5.cell? ⟨w.heap.size, 1, none⟩ = some (.slice none 0 0) := (blk_cell hz5 1).trans rfl
  have g0 := blk_frozen hz5 0
  have g1 := blk_frozen hz5 1
  have hu64 := Tryd.underlying64
  go_wp2
  have hv6 := Kd.V_far (p := ⟨w.heap.size, 1, none⟩) (Kd.V_far (p := ⟨w.heap.size, 0, none⟩) hv5 (fun _ hk => hk.2) (.int .u8 x)) (fun _ hk => hk.2) (.slice A3 vb.length c3)
  refine bodyPost_ret (results_ct rfl _ _ w.heap.size 64 #[.int .u8 x, .slice A3 vb.length c3] (0, 0) _ rfl (blk_put (blk_put hz5 0 _ rfl) 1 _ rfl) Tryd.underlying64 rfl (by kernel_rfl)) rfl ?_
  exact ⟨A3, c3, rfl, (Kd.V_reads' hv6).2.2, (Kd.V_reads' hv6).2.1, below_set (below_set B5 (Nat.le_refl _)) (Nat.le_refl _)⟩
set_option maxRecDepth 100000 in
set_option maxHeartbeats 4000000 in
theorem ev_calls (A : Option Addr) (c : Nat) (l : List Int) (w : World) (hC : Kd.C (Kd.int .u8) w A l.length l) (hc : l.length ≤ c) (hbig : l.length ≤ 1000000) (i : Nat) (hidx : Lib.indexByte (Lib.bytesOf (l.drop 1)) 0 = (i : Int)) (h1 : i + 1 < l.length) (x : Int) (hx : rd l 0 = x) (bs : List Int) (hbs : l.drop (i + 2) = bs) (k : Nat) (vb rm : List Int) (hrv : bsoncore_ReadValue.f k bs x = some (x, vb, rm, true)) (hraw : impl_raw.f x vb = some (wrap64 x, vb)) :
    Calls Tryd.prog 11 #[.slice A l.length c] w fun e w' => ∃ v, e = .returned (.tuple #[.agg #[.int .i64 (wrap64 x), v], .int .i64 0]) ∧ Kd.R (Kd.int .u8) 5 w' w.heap.size (fun _ => True) v vb ∧ Below w.heap.size w w' := by
  have B0 : ∀ o, Below w.heap.size w (w.alloc o) := fun o => below_alloc (Below.refl _ _) o
  go_enter Tryd.func11, Tryd.ntmps11
  go_wp2_with (first | (go_at_call 27; refine (ve_calls A c l _ (Kd.C_alloc hC _) hc hbig i hidx h1 x hx bs hbs k vb rm hrv).mono ?_; rintro e w1 ⟨A3, c3, rfl, hC3, hc3, hb⟩; have hz1 := blk_below (blk_new w _) hb; have B1 := below_step (B0 _) hb; clear hb; have y0 := (blk_cell hz1 0).trans rfl; have y1 := (blk_cell hz1 1).trans rfl) | (go_at_call 28; refine (impl_raw.calls x A3 c3 vb (wrap64 x) vb _ (Kd.C_alloc hC3 _) hc3 hraw).mono ?_; rintro e w3 ⟨v, rfl, hR, hb3⟩; have hz3 := blk_below (blk_alloc hz1 _) hb3; have B3 := below_step (below_alloc B1 _) hb3; have hs3 : w.heap.size < (w1.alloc (.cells #[.int .u8 x, .slice A3 vb.length c3] 64)).heap.size := Nat.lt_of_lt_of_le (Array.getElem?_eq_some_iff.1 hz1).1 (by simp); obtain ⟨Ao, co, rfl⟩ := Kd.R_slice hR) | (go_at_call 24; refine (code_nil _).mono ?_; rintro e w4 ⟨rfl, hb4⟩; have hz4 := blk_below hz3 hb4; have B4 := below_step B3 hb4; have hR4 := Kd.R_below hR hb4; clear y0 y1; have y0 := (blk_cell hz4 0).trans rfl; have y1 := (blk_cell hz4 1).trans rfl; have g0 := blk_frozen hz4 0; have g1 := blk_frozen hz4 1))
  try go_wp2
  have hRf := Kd.R_far (p := ⟨w.heap.size, 1, none⟩) (Kd.R_far (p := ⟨w.heap.size, 0, none⟩) (Kd.R_mono (Kd.R_bound hR4) (fun k hk => (show k ≠ w.heap.size by have := hk.2.1; omega))) (fun _ hk => hk) (.int .i64 (wrap64 x))) (fun _ hk => hk) (.slice Ao vb.length co)
  refine bodyPost_ret (results_ct rfl _ _ w.heap.size 37 #[.int .i64 (wrap64 x), .slice Ao vb.length co] (0, 0) _ rfl (blk_put (blk_put hz4 0 _ rfl) 1 _ rfl) Tryd.underlying37 rfl (by kernel_rfl)) rfl ?_
  exact ⟨_, rfl, Kd.R_mono (Kd.R_lower hRf (Nat.le_of_lt hs3)) (fun _ _ => trivial), below_set (below_set B4 (Nat.le_refl _)) (Nat.le_refl _)⟩
def impl_ElementValue.f (k : Nat) (l0 : List Int) : Option (Int × List Int × Int) := if elemOk l0 = true then (bsoncore_ReadValue.f k (l0.drop ((Lib.indexByte (Lib.bytesOf (l0.drop 1)) 0).toNat + 2)) (rd l0 0)).bind fun t => if t.1 = rd l0 0 ∧ t.2.2.2 = true then (impl_raw.f t.1 t.2.1).bind fun u => if u.1 = wrap64 t.1 ∧ u.2 = t.2.1 then some (u.1, u.2, 0) else none else none else none
theorem impl_ElementValue.mono : ∀ a0 k, LeO (impl_ElementValue.f k a0) (impl_ElementValue.f (k + 1) a0) := by
  intro a0 k
  unfold impl_ElementValue.f
  refine LeO.ite ?_ (LeO.refl _)
  exact LeO.bind (bsoncore_ReadValue.mono _ _ k) (fun _ => LeO.refl _)
theorem impl_ElementValue.calls (k : Nat) (A0 : Option Addr) (c0 : Nat) (l0 : List Int) (r1 : Int) (r2 : List Int) (r3 : Int) (w : World) (hr0 : Kd.C (Kd.int .u8) w A0 l0.length l0) (hc0 : l0.length ≤ c0) (h : impl_ElementValue.f k l0 = some (r1, r2, r3)) :
    Calls Tryd.prog 11 #[.slice A0 l0.length c0] w fun e w' => ∃ v1_ : Value, e = .returned (.tuple #[.agg #[.int .i64 r1, v1_], .int .i64 r3]) ∧ Kd.R (Kd.int .u8) 5 w' w.heap.size (fun _ => True) v1_ r2 ∧ Below w.heap.size w w' := by
  unfold impl_ElementValue.f at h
  by_cases ho : elemOk l0 = true
  · rw [if_pos ho] at h
    obtain ⟨i, hbig, hidx, h1, _⟩ := elem_ok ho
    rw [hidx, Int.toNat_natCast] at h
    obtain ⟨⟨t1, t2, t3, t4⟩, ht, h⟩ := Option.bind_eq_some_iff.mp h
    dsimp only at h
    by_cases hq : t1 = rd l0 0 ∧ t4 = true
    · rw [if_pos hq] at h
      obtain ⟨rfl, rfl⟩ := hq
      obtain ⟨⟨u1, u2⟩, hu, h⟩ := Option.bind_eq_some_iff.mp h
      dsimp only at h
      by_cases hp : u1 = wrap64 (rd l0 0) ∧ u2 = t2
      · rw [if_pos hp] at h
        obtain ⟨hp1, hp2⟩ := hp
        simp only [Option.some.injEq, Prod.mk.injEq] at h
        obtain ⟨e1, e2, e3⟩ := h
        subst hp1 hp2 e1 e2 e3
        exact ev_calls A0 c0 l0 w hr0 hc0 hbig i hidx h1 (rd l0 0) rfl _ rfl k u2 t3 ht hu
      · rw [if_neg hp] at h; cases h
    · rw [if_neg hq] at h; cases h
  · rw [if_neg ho] at h; cases h

/-! ### laws_docSameRaw: function 12 -/
def laws_docSameRaw.f (a0_0 : Int) (l0_1 : List Int) (a1 : Int) (l2 : List Int) : Option (Bool) := if a0_0 = a1 then (some ((strOfNums l0_1).toList == (strOfNums l2).toList)) else (some false)
set_option maxHeartbeats 8000000 in
set_option maxRecDepth 100000 in
theorem laws_docSameRaw.calls (a0_0 : Int) (A0_1 : Option Addr) (c0_1 : Nat) (l0_1 : List Int) (a1 : Int) (A2 : Option Addr) (c2 : Nat) (l2 : List Int) (r : Bool) (w : World) (hr0_1 : Kd.C (Kd.int .u8) w A0_1 l0_1.length l0_1) (hc0_1 : l0_1.length ≤ c0_1) (hr2 : Kd.C (Kd.int .u8) w A2 l2.length l2) (hc2 : l2.length ≤ c2) (h : laws_docSameRaw.f a0_0 l0_1 a1 l2 = some r) :
    Calls Tryd.prog 12 #[.agg #[.int .i64 a0_0, .slice A0_1 l0_1.length c0_1], .int .i64 a1, .slice A2 l2.length c2] w fun e w' => e = .returned (.bool r) ∧ Below w.heap.size w w' := by
  have hu37 := Tryd.underlying37
  have HR0_1 := Aside0.mk hr0_1
  have HC0_1 := Aside0.mk hc0_1
  clear hr0_1 hc0_1
  have HR2 := Aside0.mk hr2
  have HC2 := Aside0.mk hc2
  clear hr2 hc2
  have HB := Aside0.mk (Below.refl w.heap.size w)
  have H : (if a0_0 = a1 then (some ((strOfNums l0_1).toList == (strOfNums l2).toList)) else (some false)) = some r := h
  clear h
  by_cases c4 : a0_0 = a1
  · rw [if_pos c4] at H
    have c4b0 : (a0_0 == a1) = true := beq_iff_eq.mpr c4
    have c4b1 : (a0_0 != a1) = false := bne_eq_false_iff_eq.mpr c4
    clear c4
    as_aux_lemma =>
      obtain rfl := Option.some.inj H
      go_enter Tryd.func12, Tryd.ntmps12
      go_wp2_with (first | ((with_reducible refine gate_dst (N := 3) rfl ?_); refine box_event ?hg (N := 3) ?hd (cs := #[.int .i64 a0_0, .slice A0_1 l0_1.length c0_1]) (t := 37) ?hr ?_; (case hd => rfl); (case hg => rfl); (case hr => first | (go_simp; done) | (go_simp; rfl)); intro gb437 hg w5 hbox hb; have n0_ := Aside0.mk (below_step (by repeat (first | (with_reducible first | exact HB.out | apply below_alloc | apply pw_below_drewN | apply below_drew1) | exact HB.out)) hb); have n1_ := Aside0.mk (hbox); have n2_ := Aside0.mk ((by rw [hg]; exact (below_size (by repeat (first | (with_reducible first | exact HB.out | apply below_alloc | apply pw_below_drewN | apply below_drew1) | exact HB.out))) : w.heap.size ≤ gb437)); have n3_ := Aside0.mk ((by rw [hg]; exact (below_size (by repeat (first | (with_reducible first | exact HB.out | apply below_alloc | apply pw_below_drewN | apply below_drew1) | exact HB.out))) : w.heap.size ≤ gb437)); clear HB; have HB := n0_; have BK437 := n1_; have GW437 := n2_; have GE437 := n3_; clear n0_ n1_ n2_ n3_; clear hb hbox hg; have hcz6_0 : w5.cell? ⟨gb437, 0, none⟩ = some (.int .i64 a0_0) := (blk_cell BK437.out 0).trans rfl; have hcz6_1 : w5.cell? ⟨gb437, 1, none⟩ = some (.slice A0_1 l0_1.length c0_1) := (blk_cell BK437.out 1).trans rfl; have hfz6_0 := blk_frozen BK437.out 0; have hfz6_1 := blk_frozen BK437.out 1; have hcv7 := Kd.C_string (P := Tryd.prog) (A := A0_1) (c := c0_1) Tryd.underlying23 Tryd.underlying5 Tryd.underlying9 (Kd.C_below HR0_1.out HB.out); have hcv8 := Kd.C_string (P := Tryd.prog) (A := A2) (c := c2) Tryd.underlying23 Tryd.underlying5 Tryd.underlying9 (Kd.C_below HR2.out HB.out)))
      go_ret
      exact ⟨by first | rfl | (simp [errW_none, errW_some] <;> rfl) | (simp [*, errW_none, errW_some] <;> rfl), by repeat (first | (with_reducible first | exact HB.out | apply below_alloc | apply pw_below_drewN | apply below_drew1 | refine below_set ?_ GE437.out) | exact HB.out)⟩
  · rw [if_neg c4] at H
    have c4b0 : (a0_0 == a1) = false := beq_eq_false_iff_ne.mpr c4
    have c4b1 : (a0_0 != a1) = true := bne_iff_ne.mpr c4
    as_aux_lemma =>
      obtain rfl := Option.some.inj H
      go_enter Tryd.func12, Tryd.ntmps12
      go_wp2_with (first | ((with_reducible refine gate_dst (N := 3) rfl ?_); refine box_event ?hg (N := 3) ?hd (cs := #[.int .i64 a0_0, .slice A0_1 l0_1.length c0_1]) (t := 37) ?hr ?_; (case hd => rfl); (case hg => rfl); (case hr => first | (go_simp; done) | (go_simp; rfl)); intro gb437 hg w9 hbox hb; have n0_ := Aside0.mk (below_step (by repeat (first | (with_reducible first | exact HB.out | apply below_alloc | apply pw_below_drewN | apply below_drew1) | exact HB.out)) hb); have n1_ := Aside0.mk (hbox); have n2_ := Aside0.mk ((by rw [hg]; exact (below_size (by repeat (first | (with_reducible first | exact HB.out | apply below_alloc | apply pw_below_drewN | apply below_drew1) | exact HB.out))) : w.heap.size ≤ gb437)); have n3_ := Aside0.mk ((by rw [hg]; exact (below_size (by repeat (first | (with_reducible first | exact HB.out | apply below_alloc | apply pw_below_drewN | apply below_drew1) | exact HB.out))) : w.heap.size ≤ gb437)); clear HB; have HB := n0_; have BK437 := n1_; have GW437 := n2_; have GE437 := n3_; clear n0_ n1_ n2_ n3_; clear hb hbox hg; have hcz10_0 : w9.cell? ⟨gb437, 0, none⟩ = some (.int .i64 a0_0) := (blk_cell BK437.out 0).trans rfl; have hcz10_1 : w9.cell? ⟨gb437, 1, none⟩ = some (.slice A0_1 l0_1.length c0_1) := (blk_cell BK437.out 1).trans rfl; have hfz10_0 := blk_frozen BK437.out 0; have hfz10_1 := blk_frozen BK437.out 1))
      go_ret
      exact ⟨by first | rfl | (simp [errW_none, errW_some] <;> rfl) | (simp [*, errW_none, errW_some] <;> rfl), by repeat (first | (with_reducible first | exact HB.out | apply below_alloc | apply pw_below_drewN | apply below_drew1 | refine below_set ?_ GE437.out) | exact HB.out)⟩

/-! ### bytes_Equal: function 42 -/
def bytes_Equal.f (l0 : List Int) (l1 : List Int) : Option (Bool) := some ((strOfNums l0).toList == (strOfNums l1).toList)
set_option maxHeartbeats 8000000 in
set_option maxRecDepth 100000 in
theorem bytes_Equal.calls (A0 : Option Addr) (c0 : Nat) (l0 : List Int) (A1 : Option Addr) (c1 : Nat) (l1 : List Int) (r : Bool) (w : World) (hr0 : Kd.C (Kd.int .u8) w A0 l0.length l0) (hc0 : l0.length ≤ c0) (hr1 : Kd.C (Kd.int .u8) w A1 l1.length l1) (hc1 : l1.length ≤ c1) (h : bytes_Equal.f l0 l1 = some r) :
    Calls Tryd.prog 42 #[.slice A0 l0.length c0, .slice A1 l1.length c1] w fun e w' => e = .returned (.bool r) ∧ Drawn0 w w' := by
  have HR0 := Aside0.mk hr0
  have HC0 := Aside0.mk hc0
  clear hr0 hc0
  have HR1 := Aside0.mk hr1
  have HC1 := Aside0.mk hc1
  clear hr1 hc1
  have H : (some ((strOfNums l0).toList == (strOfNums l1).toList)) = some r := h
  clear h
  as_aux_lemma =>
    obtain rfl := Option.some.inj H
    have hcv3 := Kd.C_string (P := Tryd.prog) (A := A0) (c := c0) Tryd.underlying23 Tryd.underlying5 Tryd.underlying9 HR0.out
    have hcv4 := Kd.C_string (P := Tryd.prog) (A := A1) (c := c1) Tryd.underlying23 Tryd.underlying5 Tryd.underlying9 HR1.out
    go_enter Tryd.func42, Tryd.ntmps42
    go_wp2
    go_ret
    exact ⟨by first | rfl | (simp; done) | (simp [*]; done), by repeat (first | exact Drawn0.refl _ | apply Drawn0.step)⟩

end Go.Proofs.YtndpbbgniflckaaDoor.PEl
