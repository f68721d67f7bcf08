/- Printed by a program of this session (a turned copy of the printer of the kit): contracts of functions of the translation, each with the Lean function that it computes. Conditions: as each theorem states them. -/
import Derived.Test.YtlcgakpnpdkjjaaDoorPBzx0
import Derived.Test.YtlcgakpnpdkjjaaDoorPBzx8
import Derived.Test.YtlcgakpnpdkjjaaDoorPBzx9
namespace Go.Proofs.YtlcgakpnpdkjjaaDoor.PBz
open Go.RowKit Go.Proofs.YtlcgakpnpdkjjaaDoorW.PrintWords Go.Proofs.YtlcgakpnpdkjjaaDoorW.PrintLast Go.Proofs.YtlcgakpnpdkjjaaDoorW.PrintMore
attribute [local go_sem] max2_int min2_int max_two min_two max_three min_three max_four min_four   -- for this text's walks alone
set_option linter.unusedVariables false
set_option linter.unusedSimpArgs false

/-! ### bsoncore_readValue: function 63 -/
def bsoncore_readValue.j0 : Nat → List Int → Int → Bool → Option (List Int × List Int × Bool)
  | 0, _, _, _ => none
  | k + 1, x0, x7, x23 => if x23 = true then (some (([] : List Int), x0, false)) else (if 0 ≤ x7 then (if x7 ≤ (x0.length : Int) then (some ((x0.take (x7 : Int).toNat), (x0.drop (x7 : Int).toNat), true)) else (none)) else (none))
def bsoncore_readValue.f (k : Nat) (l0 : List Int) (a1 : Int) : Option (List Int × List Int × Bool) := (bsoncore_valueLength.f k l0 a1).bind fun bt417 => (if bt417.2 = true then (bsoncore_readValue.j0 k l0 bt417.1 (decide ((wrap64 (bt417.1)) > (l0.length : Int)))) else (bsoncore_readValue.j0 k l0 bt417.1 true))
theorem bsoncore_readValue.mono_l : ∀ k, (∀ y0 y1 y2, LeO (bsoncore_readValue.j0 k y0 y1 y2) (bsoncore_readValue.j0 (k + 1) y0 y1 y2))
  | 0 => fun _ _ _ r h => by simp [bsoncore_readValue.j0] at h
  | k + 1 => by
    have ih0 := bsoncore_readValue.mono_l k
    · intro y0 y1 y2
      unfold bsoncore_readValue.j0
      repeat' first
      | (with_reducible exact ih0 _ _ _)
      | (with_reducible exact bsoncore_valueLength.mono _ _ _)
      | (with_reducible exact LeO.refl _)
      | (with_reducible exact LeO.none _)
      | (with_reducible refine LeO.ite ?_ ?_)
      | (with_reducible refine LeO.bind ?_ (fun _ => ?_))
      | exact ih0 _ _ _
      | exact bsoncore_valueLength.mono _ _ _
      | exact LeO.none _
      | refine LeO.ite ?_ ?_
      | refine LeO.bind ?_ (fun _ => ?_)
theorem bsoncore_readValue.mono : ∀ a0 a1 k, LeO (bsoncore_readValue.f k a0 a1) (bsoncore_readValue.f (k + 1) a0 a1) := by
  intro a0 a1 k
  have ih0 := bsoncore_readValue.mono_l k
  unfold bsoncore_readValue.f
  repeat' first
      | (with_reducible exact ih0 _ _ _)
      | (with_reducible exact bsoncore_valueLength.mono _ _ _)
      | (with_reducible exact LeO.refl _)
      | (with_reducible exact LeO.none _)
      | (with_reducible refine LeO.ite ?_ ?_)
      | (with_reducible refine LeO.bind ?_ (fun _ => ?_))
      | exact ih0 _ _ _
      | exact bsoncore_valueLength.mono _ _ _
      | exact LeO.none _
      | refine LeO.ite ?_ ?_
      | refine LeO.bind ?_ (fun _ => ?_)
set_option maxHeartbeats 8000000 in
set_option maxRecDepth 100000 in
theorem bsoncore_readValue.calls (k : Nat) (P0_ : Nat → Prop) (A0 : Option Addr) (c0 : Nat) (l0 : List Int) (a1 : Int) (r1 : List Int) (r2 : List Int) (r3 : Bool) (w : World) (hs0 : Kd.V (Kd.int .u8) 5 w w.heap.size (fun k_ => P0_ k_) (.slice A0 l0.length c0) l0) (h : bsoncore_readValue.f k l0 a1 = some (r1, r2, r3)) :
    Calls Tryd.prog 63 #[.slice A0 l0.length c0, .int .u8 a1] w fun e w' => ∃ v0_ v1_ : Value, e = .returned (.tuple #[v0_, v1_, .bool r3]) ∧ Kd.V (Kd.int .u8) 5 w' w.heap.size (fun k_ => (P0_ k_ ∨ w.heap.size ≤ k_)) v0_ r1 ∧ Kd.V (Kd.int .u8) 5 w' w.heap.size (fun k_ => (P0_ k_ ∨ w.heap.size ≤ k_)) v1_ r2 ∧ Below w.heap.size w w' := by
  have HO0 := Aside0.mk (show Kd.V (Kd.int .u8) 5 w w.heap.size (fun k_ => (P0_ k_ ∨ w.heap.size ≤ k_)) (.slice A0 l0.length c0) l0 from Kd.V_mono hs0 (fun k_ hk => .inl hk))
  have HB := Aside0.mk (Below.refl w.heap.size w)
  have H : ((bsoncore_valueLength.f k l0 a1).bind fun bt417 => (if bt417.2 = true then (bsoncore_readValue.j0 k l0 bt417.1 (decide ((wrap64 (bt417.1)) > (l0.length : Int)))) else (bsoncore_readValue.j0 k l0 bt417.1 true))) = some (r1, r2, r3) := h
  clear h
  replace H := Option.bind_eq_some_iff.mp H
  obtain ⟨⟨t417, t418⟩, A30, H⟩ := H
  replace H : (if t418 = true then (bsoncore_readValue.j0 k l0 t417 (decide ((wrap64 (t417)) > (l0.length : Int)))) else (bsoncore_readValue.j0 k l0 t417 true)) = some (r1, r2, r3) := H
  have A3 := Aside0.mk A30
  clear A30
  have HC4 := Aside0.mk H
  clear H
  go_enter Tryd.func63, Tryd.ntmps63
  go_upto_region 2 with (first | (go_at_call 58; (with_reducible refine (bsoncore_valueLength.calls k _ _ l0 a1 t417 t418 _ ?side1 ?side2 A3.out).mono ?_); (case side1 => repeat (first | exact (Kd.V_reads' HO0.out).2.2 | (with_reducible refine Kd.C_alloc ?_ _) | (with_reducible refine Kd.C_drewN ?_ _) | (with_reducible refine Kd.C_drew ?_))); (case side2 => exact (Kd.V_reads' HO0.out).2.1); rintro e w5 ⟨rfl, hb⟩; have n0_ := Aside0.mk (Kd.V_below (HW.zV HO0.out) hb); have n1_ := Aside0.mk (below_step HW.zb hb); clear HO0; clear HB; have HO0 := n0_; have HB := n1_; clear n0_ n1_; (try clear hb); (try clear hb2); (try clear hk); (try clear hi)))
  repeat (go_quiet (first | (go_at_call 58; (with_reducible refine (bsoncore_valueLength.calls k _ _ l0 a1 t417 t418 _ ?side1 ?side2 A3.out).mono ?_); (case side1 => repeat (first | exact (Kd.V_reads' HO0.out).2.2 | (with_reducible refine Kd.C_alloc ?_ _) | (with_reducible refine Kd.C_drewN ?_ _) | (with_reducible refine Kd.C_drew ?_))); (case side2 => exact (Kd.V_reads' HO0.out).2.1); rintro e w5 ⟨rfl, hb⟩; have n0_ := Aside0.mk (Kd.V_below (HW.zV HO0.out) hb); have n1_ := Aside0.mk (below_step HW.zb hb); clear HO0; clear HB; have HO0 := n0_; have HB := n1_; clear n0_ n1_; (try clear hb); (try clear hb2); (try clear hk); (try clear hi))); go_upto_region 2 with (first | (go_at_call 58; (with_reducible refine (bsoncore_valueLength.calls k _ _ l0 a1 t417 t418 _ ?side1 ?side2 A3.out).mono ?_); (case side1 => repeat (first | exact (Kd.V_reads' HO0.out).2.2 | (with_reducible refine Kd.C_alloc ?_ _) | (with_reducible refine Kd.C_drewN ?_ _) | (with_reducible refine Kd.C_drew ?_))); (case side2 => exact (Kd.V_reads' HO0.out).2.1); rintro e w5 ⟨rfl, hb⟩; have n0_ := Aside0.mk (Kd.V_below (HW.zV HO0.out) hb); have n1_ := Aside0.mk (below_step HW.zb hb); clear HO0; clear HB; have HO0 := n0_; have HB := n1_; clear n0_ n1_; (try clear hb); (try clear hb2); (try clear hk); (try clear hi))))
  (try simp only [Act.put, List.setIfInBounds_toArray, List.set_cons_zero, List.set_cons_succ])
  go_cut [23] (fun v23 wc => ∃ (kq : Nat) (x23_3 : Bool), v23 = .bool x23_3 ∧ Aside0 (bsoncore_readValue.j0 kq l0 t417 x23_3 = some (r1, r2, r3)) ∧ Aside0 (kq ≤ k) ∧ Aside0 (Kd.V (Kd.int .u8) 5 wc w.heap.size (fun k_ => (P0_ k_ ∨ w.heap.size ≤ k_)) (.slice A0 l0.length c0) l0) ∧ Aside0 (Below w.heap.size w wc))
  case first =>
    have H := HC4.out
    clear HC4
    by_cases c6 : t418 = true
    · subst c6
      have H1 : (bsoncore_readValue.j0 k l0 t417 (decide ((wrap64 (t417)) > (l0.length : Int)))) = some (r1, r2, r3) := by rw [if_pos rfl] at H; exact H
      clear H
      have H := H1
      clear H1
      as_aux_lemma =>
        have H' := Aside0.mk H
        clear H
        go_wp2
        repeat (go_quiet (fail); try go_wp2)
        go_meet
        case rel => exact ⟨_, (decide ((wrap64 (t417)) > (l0.length : Int))), (by first | rfl | (simp; done) | (simp [*]; done)), H', ⟨by first | omega | exact Nat.le_refl _⟩, ⟨HW.zV HO0.out⟩, ⟨HW.zb⟩⟩
    replace c6 := Bool.eq_false_iff.mpr c6
    subst c6
    have H1 : (bsoncore_readValue.j0 k l0 t417 true) = some (r1, r2, r3) := by rw [if_neg (show ¬ (false = true) by decide)] at H; exact H
    clear H
    have H := H1
    clear H1
    as_aux_lemma =>
      have H' := Aside0.mk H
      clear H
      go_wp2
      repeat (go_quiet (fail); try go_wp2)
      go_meet
      case rel => exact ⟨_, (true), (by first | rfl | (simp; done) | (simp [*]; done)), H', ⟨by first | omega | exact Nat.le_refl _⟩, ⟨HW.zV HO0.out⟩, ⟨HW.zb⟩⟩
  case rest =>
    clear HC4
    try clear p2
    try clear c6
    try clear p6
    obtain ⟨kq, x23_3, rfl, HA, HJ3, HO_0, HB⟩ := hcut
    cases kq with
    | zero => exact absurd HA.out (by simp [bsoncore_readValue.j0])
    | succ kj3 =>
      have H := HA.out
      clear HA
      simp only [bsoncore_readValue.j0] at H
      by_cases c7 : x23_3 = true
      · subst c7
        have H1 : (some (([] : List Int), l0, false)) = some (r1, r2, r3) := by rw [if_pos rfl] at H; exact H
        clear H
        have H := H1
        clear H1
        as_aux_lemma =>
          simp only [Option.some.injEq, Prod.mk.injEq] at H
          obtain ⟨rfl, rfl, rfl⟩ := H
          go_wp2
          repeat (go_quiet (fail); try go_wp2)
          go_ret3
          exact ⟨_, _, by first | rfl | (simp [errW_none, errW_some] <;> rfl) | (simp [*, errW_none, errW_some] <;> rfl), Kd.V_nil _ _ _ _ _, HW.zV HO_0.out, HW.zb⟩
      replace c7 := Bool.eq_false_iff.mpr c7
      subst c7
      have H1 : (if 0 ≤ t417 then (if t417 ≤ (l0.length : Int) then (some ((l0.take (t417 : Int).toNat), (l0.drop (t417 : Int).toNat), true)) else (none)) else (none)) = some (r1, r2, r3) := by rw [if_neg (show ¬ (false = true) by decide)] at H; exact H
      clear H
      have H := H1
      clear H1
      by_cases c8 : 0 ≤ t417
      rotate_left
      · rw [if_neg c8] at H
        exact absurd H (by simp)
      rw [if_pos c8] at H
      have c8b0 := eq_true c8
      have c8b1 : decide (0 ≤ t417) = true := decide_eq_true c8
      clear c8
      by_cases c9 : t417 ≤ (l0.length : Int)
      rotate_left
      · rw [if_neg c9] at H
        exact absurd H (by simp)
      rw [if_pos c9] at H
      have c9b0 := eq_true c9
      have c9b1 : decide (t417 ≤ (l0.length : Int)) = true := decide_eq_true c9
      clear c9
      obtain ⟨y419, hy419⟩ : ∃ y_ : List Int, y_ = (l0.take (t417 : Int).toNat) := ⟨_, rfl⟩
      replace H : (some (y419, (l0.drop (t417 : Int).toNat), true)) = some (r1, r2, r3) := by first | (rw [hy419]; with_reducible exact H) | (have H2_ := (Option.bind_some _ _).symm.trans H; rw [hy419]; with_reducible exact H2_) | (have H2_ := (Option.bind_some _ _).symm.trans H; with_reducible exact H2_) | with_reducible exact H | (rw [hy419]; exact H) | exact H
      have Ny419 := Aside0.mk hy419
      clear hy419
      have c10b0 := eq_true (of_decide_eq_true (by first | (with_reducible assumption) | assumption) : 0 ≤ t417)
      have c11b0 := eq_true (of_decide_eq_true (by first | (with_reducible assumption) | assumption) : t417 ≤ (l0.length : Int))
      obtain ⟨y424, hy424⟩ : ∃ y_ : List Int, y_ = (l0.drop (t417 : Int).toNat) := ⟨_, rfl⟩
      replace H : (some (y419, y424, true)) = some (r1, r2, r3) := by first | (rw [hy424]; with_reducible exact H) | (have H2_ := (Option.bind_some _ _).symm.trans H; rw [hy424]; with_reducible exact H2_) | (have H2_ := (Option.bind_some _ _).symm.trans H; with_reducible exact H2_) | with_reducible exact H | (rw [hy424]; exact H) | exact H
      have Ny424 := Aside0.mk hy424
      clear hy424
      as_aux_lemma =>
        simp only [Option.some.injEq, Prod.mk.injEq] at H
        obtain ⟨rfl, rfl, rfl⟩ := H
        have q12 : (t417 : Int) ≤ ((l0.length : Int) : Int) := of_decide_eq_true (by first | (with_reducible assumption) | assumption)
        obtain ⟨i012, hi012, _, hsz12, _⟩ := info_parts info5
        have hroom12 : l0.length ≤ c0 := (Kd.V_reads' HO_0.out).2.1
        have hC12 : Kd.F (Kd.int .u8) _ _ A0 l0.length l0 := (Kd.V_at (base := w.heap.size) HO_0.out).2.2
        have hcut12 := cut_to (P := Tryd.prog) 23 5 .i32 Tryd.underlying23 hi012 A0 l0.length c0 t417 (of_decide_eq_true (by first | (with_reducible assumption) | assumption)) q12 hroom12
        have hr12 := Kd.F_take (m := (t417 : Int).toNat) hC12 (by omega)
        have hy12 : y419.length = (t417 : Int).toNat := (by rw [Ny419.out, List.length_take]; omega)
        rw [← Ny419.out] at hr12
        rw [← hy12] at hcut12
        have HO423 := Aside0.mk (show Kd.V (Kd.int .u8) 5 _ w.heap.size _ (.slice A0 y419.length c0) y419 from Kd.V_mk (by omega) hr12)
        have HC423 := Aside0.mk (show y419.length ≤ c0 from by omega)
        clear hr12 hC12 hroom12 hi012 hsz12
        have KY12 := Aside0.mk hy12
        clear hy12
        replace q12 := eq_true q12
        have q13 : (t417 : Int) ≤ ((l0.length : Int) : Int) := of_decide_eq_true (by first | (with_reducible assumption) | assumption)
        obtain ⟨i013, hi013, _, hsz13, _⟩ := info_parts info5
        have hroom13 : l0.length ≤ c0 := (Kd.V_reads' HO_0.out).2.1
        have hC13 : Kd.F (Kd.int .u8) _ _ A0 l0.length l0 := (Kd.V_at (base := w.heap.size) HO_0.out).2.2
        have q013 : (0 : Int) ≤ (t417 : Int) := of_decide_eq_true (by first | (with_reducible assumption) | assumption)
        have hcut13 := cut_from (P := Tryd.prog) 23 5 .i32 Tryd.underlying23 hi013 1 hsz13 A0 l0.length c0 t417 q013 q13
        have hr13 := Kd.F_cut (m := (t417 : Int).toNat) (c := c0) hC13 (by omega) hroom13
        obtain ⟨A13, hA13⟩ : ∃ A1, A1 = (if c0 = (t417 : Int).toNat then A0 else (A0 : Option Addr).map (·.add ((t417 : Int).toNat * 1))) := ⟨_, rfl⟩
        obtain ⟨c13, hc13⟩ : ∃ c1, c1 = c0 - (t417 : Int).toNat := ⟨_, rfl⟩
        have hy13 : y424.length = l0.length - (t417 : Int).toNat := (by rw [Ny424.out, List.length_drop] <;> omega)
        rw [show (l0).drop (t417 : Int).toNat = y424 from Ny424.out.symm] at hr13
        replace hr13 : Kd.F (Kd.int .u8) _ _ A13 y424.length y424 := (by rw [hA13]; exact hr13)
        rw [← hy13, ← hA13, ← hc13] at hcut13
        have HO428 := Aside0.mk (show Kd.V (Kd.int .u8) 5 _ w.heap.size _ (.slice A13 y424.length c13) y424 from Kd.V_mk (by rw [hy13, hc13]; exact Nat.sub_le_sub_right hroom13 _) hr13)
        have HC428 := Aside0.mk (show y424.length ≤ c13 from by rw [hy13, hc13]; exact Nat.sub_le_sub_right hroom13 _)
        clear hr13 hC13 hroom13 hi013 hsz13 hc13
        have KY13 := Aside0.mk hy13
        have KA13 := Aside0.mk hA13
        clear hy13 hA13
        replace q13 := eq_true q13
        go_wp2
        repeat (go_quiet (fail); try go_wp2)
        go_ret3
        exact ⟨_, _, by first | rfl | (simp [errW_none, errW_some] <;> rfl) | (simp [*, errW_none, errW_some] <;> rfl), HW.zV HO423.out, HW.zV HO428.out, HW.zb⟩

/-! ### bsoncore_ReadValue: function 56 -/
def bsoncore_ReadValue.f (k : Nat) (l0 : List Int) (a1 : Int) : Option (Int × List Int × List Int × Bool) := (bsoncore_readValue.f k l0 a1).bind fun bt430 => (if bt430.2.2 = true then (some (a1, bt430.1, bt430.2.1, true)) else (some (0, ([] : List Int), l0, false)))
theorem bsoncore_ReadValue.mono : ∀ a0 a1 k, LeO (bsoncore_ReadValue.f k a0 a1) (bsoncore_ReadValue.f (k + 1) a0 a1) := by
  intro a0 a1 k
  unfold bsoncore_ReadValue.f
  repeat' first
      | (with_reducible exact bsoncore_readValue.mono _ _ _)
      | (with_reducible exact LeO.refl _)
      | (with_reducible exact LeO.none _)
      | (with_reducible refine LeO.ite ?_ ?_)
      | (with_reducible refine LeO.bind ?_ (fun _ => ?_))
      | exact bsoncore_readValue.mono _ _ _
      | exact LeO.none _
      | refine LeO.ite ?_ ?_
      | refine LeO.bind ?_ (fun _ => ?_)
set_option maxHeartbeats 8000000 in
set_option maxRecDepth 100000 in
theorem bsoncore_ReadValue.calls (k : Nat) (P0_ : Nat → Prop) (A0 : Option Addr) (c0 : Nat) (l0 : List Int) (a1 : Int) (r1 : Int) (r2 : List Int) (r3 : List Int) (r4 : Bool) (w : World) (hs0 : Kd.V (Kd.int .u8) 5 w w.heap.size (fun k_ => P0_ k_) (.slice A0 l0.length c0) l0) (h : bsoncore_ReadValue.f k l0 a1 = some (r1, r2, r3, r4)) :
    Calls Tryd.prog 56 #[.slice A0 l0.length c0, .int .u8 a1] w fun e w' => ∃ v1_ v2_ : Value, e = .returned (.tuple #[.agg #[.int .u8 r1, v1_], v2_, .bool r4]) ∧ Kd.V (Kd.int .u8) 5 w' w.heap.size (fun k_ => (P0_ k_ ∨ w.heap.size ≤ k_)) v1_ r2 ∧ Kd.V (Kd.int .u8) 5 w' w.heap.size (fun k_ => (P0_ k_ ∨ w.heap.size ≤ k_)) v2_ r3 ∧ Below w.heap.size w w' := by
  have hu77 := Tryd.underlying77
  have HO0 := Aside0.mk (show Kd.V (Kd.int .u8) 5 w w.heap.size (fun k_ => (P0_ k_ ∨ w.heap.size ≤ k_)) (.slice A0 l0.length c0) l0 from Kd.V_mono hs0 (fun k_ hk => .inl hk))
  have HB := Aside0.mk (Below.refl w.heap.size w)
  have H : ((bsoncore_readValue.f k l0 a1).bind fun bt430 => (if bt430.2.2 = true then (some (a1, bt430.1, bt430.2.1, true)) else (some (0, ([] : List Int), l0, false)))) = some (r1, r2, r3, r4) := h
  clear h
  replace H := Option.bind_eq_some_iff.mp H
  obtain ⟨⟨t430, t433, t436⟩, A30, H⟩ := H
  replace H : (if t436 = true then (some (a1, t430, t433, true)) else (some (0, ([] : List Int), l0, false))) = some (r1, r2, r3, r4) := H
  have A3 := Aside0.mk A30
  clear A30
  by_cases c4 : t436 = true
  · subst c4
    have H1 : (some (a1, t430, t433, true)) = some (r1, r2, r3, r4) := by rw [if_pos rfl] at H; exact H
    clear H
    have H := H1
    clear H1
    as_aux_lemma =>
      simp only [Option.some.injEq, Prod.mk.injEq] at H
      obtain ⟨rfl, rfl, rfl, rfl⟩ := H
      go_enter Tryd.func56, Tryd.ntmps56
      go_wp2_with (first | ((with_reducible refine gate_dst (N := 4) rfl ?_); refine box_event ?hg (N := 4) ?hd (cs := #[.int .u8 0, .slice none 0 0]) (t := 77) ?hr ?_; (case hd => rfl); (case hg => rfl); (case hr => first | (go_simp; done) | (go_simp; rfl)); intro gb429 hg w5 hbox hb; have n0_ := Aside0.mk (Kd.V_below (Kd.V_elderB (HW.zV HO0.out) gb429 (Nat.le_of_eq hg.symm)) hb); have n1_ := Aside0.mk (below_step HW.zb hb); have n2_ := Aside0.mk (hbox); have n4_ := Aside0.mk ((by rw [hg]; exact (below_size HW.zb) : w.heap.size ≤ gb429)); clear HO0; clear HB; have HO0 := n0_; have HB := n1_; have BK429 := n2_; have GE429 := n4_; clear n0_ n1_ n2_ n4_; clear hb hbox hg) | ((with_reducible refine gate_callee (f := 63) rfl ?_); refine HW.gz (some 13) rfl rfl Tryd.func63 (by kernel_rfl) rfl #[.slice A0 l0.length c0, .int .u8 a1] rfl ?_; (with_reducible refine (bsoncore_readValue.calls k (fun k_ => ((P0_ k_ ∨ w.heap.size ≤ k_) ∧ k_ ≠ gb429)) _ _ l0 a1 t430 t433 true _ ?side1 A3.out).mono ?_); (case side1 => exact HO0.out); rintro e w6 ⟨v431, v434, rfl, ho0, ho1, hb⟩; refine ⟨_, rfl, ?_⟩; have n0_ := Aside0.mk (Kd.V_below (HW.zV HO0.out) hb); have n1_ := Aside0.mk (Kd.V_lower (Kd.V_mono (ok' := fun k_ => (P0_ k_ ∨ w.heap.size ≤ k_) ∧ k_ ≠ gb429) ho0 (fun k_ hk_ => ⟨Or.elim hk_ (fun hs_ => hs_.1) (fun hn_ => (.inr (Nat.le_trans (below_size HW.zb) hn_))), Or.elim hk_ (fun hs_ => hs_.2) (fun hn_ => (Kd.freshB (g := gb429) (o := .cells #[.int .u8 0, .slice none 0 0] 77 (0, 0)) (HW.zB BK429.out) k_ hn_))⟩)) (below_size HW.zb)); have n2_ := Aside0.mk (Kd.V_lower (Kd.V_mono (ok' := fun k_ => (P0_ k_ ∨ w.heap.size ≤ k_) ∧ k_ ≠ gb429) ho1 (fun k_ hk_ => ⟨Or.elim hk_ (fun hs_ => hs_.1) (fun hn_ => (.inr (Nat.le_trans (below_size HW.zb) hn_))), Or.elim hk_ (fun hs_ => hs_.2) (fun hn_ => (Kd.freshB (g := gb429) (o := .cells #[.int .u8 0, .slice none 0 0] 77 (0, 0)) (HW.zB BK429.out) k_ hn_))⟩)) (below_size HW.zb)); have n3_ := Aside0.mk (blk_below (g := gb429) (o := .cells #[.int .u8 0, .slice none 0 0] 77 (0, 0)) (HW.zB BK429.out) hb); have n4_ := Aside0.mk (below_step HW.zb hb); clear HO0; clear BK429; clear HB; have HO0 := n0_; have HO432 := n1_; have HO435 := n2_; have BK429 := n3_; have HB := n4_; clear n0_ n1_ n2_ n3_ n4_; (try clear hb); (try clear hb2); (try clear hk); (try clear hi); (try clear ho0); (try clear ho1); obtain ⟨Ao7, co7, eo7⟩ := Kd.V_slice HO432.out; subst eo7; have hcz8_0 := HW.zc BK429.out 0 (.int .u8 0); have hcz8_1 := HW.zc BK429.out 1 (.slice none 0 0); have hfz9_0 := blk_frozen BK429.out 0; have hfz9_1 := blk_frozen BK429.out 1))
      refine bodyPost_ret (results_ctt rfl _ _ gb429 77 #[.int .u8 a1, .slice Ao7 t430.length co7] (0, 0) _ rfl (by (with_reducible repeat (first | refine blk_drewN ?_ _ | refine blk_drew ?_ | refine blk_alloc ?_ _)); refine blk_put (cs := #[.int .u8 a1, .slice none 0 0]) ?_ 1 _ rfl; (with_reducible repeat (first | refine blk_drewN ?_ _ | refine blk_drew ?_ | refine blk_alloc ?_ _)); refine blk_put (cs := #[.int .u8 0, .slice none 0 0]) ?_ 0 _ rfl; (with_reducible repeat (first | refine blk_drewN ?_ _ | refine blk_drew ?_ | refine blk_alloc ?_ _)); exact BK429.out) Tryd.underlying77 rfl (by kernel_rfl)) rfl ?_
      exact ⟨_, _, by first | rfl | (simp [errW_none, errW_some] <;> rfl) | (simp [*, errW_none, errW_some] <;> rfl), by (with_reducible repeat (first | apply Kd.V_alloc | apply Kd.V_drewN | apply Kd.V_drew)); exact Kd.V_mono (Kd.V_far (p := ⟨gb429, 1, none⟩) (Kd.V_far (p := ⟨gb429, 0, none⟩) (Kd.V_mono HO432.out (fun k_ hk => (⟨hk, hk.2⟩ : _ ∧ k_ ≠ gb429))) (fun _ hk => hk.2) (.int .u8 a1)) (fun _ hk => hk.2) (.slice Ao7 t430.length co7)) (fun _ hk => hk.1.1), by (with_reducible repeat (first | apply Kd.V_alloc | apply Kd.V_drewN | apply Kd.V_drew)); exact Kd.V_mono (Kd.V_far (p := ⟨gb429, 1, none⟩) (Kd.V_far (p := ⟨gb429, 0, none⟩) (Kd.V_mono HO435.out (fun k_ hk => (⟨hk, hk.2⟩ : _ ∧ k_ ≠ gb429))) (fun _ hk => hk.2) (.int .u8 a1)) (fun _ hk => hk.2) (.slice Ao7 t430.length co7)) (fun _ hk => hk.1.1), HW.zb⟩
  replace c4 := Bool.eq_false_iff.mpr c4
  subst c4
  have H1 : (some (0, ([] : List Int), l0, false)) = some (r1, r2, r3, r4) := by rw [if_neg (show ¬ (false = true) by decide)] at H; exact H
  clear H
  have H := H1
  clear H1
  as_aux_lemma =>
    simp only [Option.some.injEq, Prod.mk.injEq] at H
    obtain ⟨rfl, rfl, rfl, rfl⟩ := H
    go_enter Tryd.func56, Tryd.ntmps56
    go_wp2_with (first | ((with_reducible refine gate_dst (N := 4) rfl ?_); refine box_event ?hg (N := 4) ?hd (cs := #[.int .u8 0, .slice none 0 0]) (t := 77) ?hr ?_; (case hd => rfl); (case hg => rfl); (case hr => first | (go_simp; done) | (go_simp; rfl)); intro gb429 hg w10 hbox hb; have n0_ := Aside0.mk (Kd.V_below (Kd.V_elderB (HW.zV HO0.out) gb429 (Nat.le_of_eq hg.symm)) hb); have n1_ := Aside0.mk (below_step HW.zb hb); have n2_ := Aside0.mk (hbox); have n4_ := Aside0.mk ((by rw [hg]; exact (below_size HW.zb) : w.heap.size ≤ gb429)); clear HO0; clear HB; have HO0 := n0_; have HB := n1_; have BK429 := n2_; have GE429 := n4_; clear n0_ n1_ n2_ n4_; clear hb hbox hg) | ((with_reducible refine gate_callee (f := 63) rfl ?_); refine HW.gz (some 13) rfl rfl Tryd.func63 (by kernel_rfl) rfl #[.slice A0 l0.length c0, .int .u8 a1] rfl ?_; (with_reducible refine (bsoncore_readValue.calls k (fun k_ => ((P0_ k_ ∨ w.heap.size ≤ k_) ∧ k_ ≠ gb429)) _ _ l0 a1 t430 t433 false _ ?side1 A3.out).mono ?_); (case side1 => exact HO0.out); rintro e w11 ⟨v431, v434, rfl, ho0, ho1, hb⟩; refine ⟨_, rfl, ?_⟩; have n0_ := Aside0.mk (Kd.V_below (HW.zV HO0.out) hb); have n3_ := Aside0.mk (blk_below (g := gb429) (o := .cells #[.int .u8 0, .slice none 0 0] 77 (0, 0)) (HW.zB BK429.out) hb); have n4_ := Aside0.mk (below_step HW.zb hb); clear HO0; clear BK429; clear HB; have HO0 := n0_; have BK429 := n3_; have HB := n4_; clear n0_ n3_ n4_; (try clear hb); (try clear hb2); (try clear hk); (try clear hi); (try clear ho0); (try clear ho1); have hcz12_0 := HW.zc BK429.out 0 (.int .u8 0); have hcz12_1 := HW.zc BK429.out 1 (.slice none 0 0); have hfz13_0 := blk_frozen BK429.out 0; have hfz13_1 := blk_frozen BK429.out 1))
    refine bodyPost_ret (results_ctt rfl _ _ gb429 77 #[.int .u8 0, .slice none 0 0] (0, 0) _ rfl (by (with_reducible repeat (first | refine blk_drewN ?_ _ | refine blk_drew ?_ | refine blk_alloc ?_ _)); refine blk_put (cs := #[.int .u8 0, .slice none 0 0]) ?_ 1 _ rfl; (with_reducible repeat (first | refine blk_drewN ?_ _ | refine blk_drew ?_ | refine blk_alloc ?_ _)); refine blk_put (cs := #[.int .u8 0, .slice none 0 0]) ?_ 0 _ rfl; (with_reducible repeat (first | refine blk_drewN ?_ _ | refine blk_drew ?_ | refine blk_alloc ?_ _)); exact BK429.out) Tryd.underlying77 rfl (by kernel_rfl)) rfl ?_
    exact ⟨_, _, by first | rfl | (simp [errW_none, errW_some] <;> rfl) | (simp [*, errW_none, errW_some] <;> rfl), Kd.V_nil _ _ _ _ _, by (with_reducible repeat (first | apply Kd.V_alloc | apply Kd.V_drewN | apply Kd.V_drew)); exact Kd.V_mono (Kd.V_far (p := ⟨gb429, 1, none⟩) (Kd.V_far (p := ⟨gb429, 0, none⟩) (Kd.V_mono HO0.out (fun k_ hk => (⟨hk, hk.2⟩ : _ ∧ k_ ≠ gb429))) (fun _ hk => hk.2) (.int .u8 0)) (fun _ hk => hk.2) (.slice none 0 0)) (fun _ hk => hk.1.1), HW.zb⟩

/-! ### bsoncore_Element_ValueErr: function 37 -/
def bsoncore_Element_ValueErr.f (k : Nat) (l0 : List Int) : Option (Int × List Int × Option Int) := if (l0.length : Int) = 0 then (none) else (if 1 ≤ (l0.length : Int) then ((bytes_IndexByte.f (l0.drop 1) 0).bind fun t443 => (if t443 = (-1) then (none) else (if 0 ≤ (wrap64 (t443 + 2)) then (if (wrap64 (t443 + 2)) ≤ (l0.length : Int) then (if 0 < (l0.length : Int) then ((bsoncore_ReadValue.f k (l0.drop ((wrap64 (t443 + 2)) : Int).toNat) (rd l0 0)).bind fun bt450 => (if bt450.2.2.2 = true then (some (bt450.1, bt450.2.1, none)) else (none))) else (none)) else (none)) else (none)))) else (none))
theorem bsoncore_Element_ValueErr.mono : ∀ a0 k, LeO (bsoncore_Element_ValueErr.f k a0) (bsoncore_Element_ValueErr.f (k + 1) a0) := by
  intro a0 k
  unfold bsoncore_Element_ValueErr.f
  repeat' first
      | (with_reducible exact bsoncore_ReadValue.mono _ _ _)
      | (with_reducible exact LeO.refl _)
      | (with_reducible exact LeO.none _)
      | (with_reducible refine LeO.ite ?_ ?_)
      | (with_reducible refine LeO.bind ?_ (fun _ => ?_))
      | exact bsoncore_ReadValue.mono _ _ _
      | exact LeO.none _
      | refine LeO.ite ?_ ?_
      | refine LeO.bind ?_ (fun _ => ?_)
def bsoncore_Element_ValueErr.T6 : Bool × List (List Nat × List Nat) := (true, [([], []), ([], []), ([1], [1]), ([0, 2], [0, 2]), ([], []), ([4], [4]), ([5], [5]), ([3, 6], [3, 6]), ([7], [7]), ([8], [8]), ([8], [8]), ([8], [8]), ([], []), ([12, 9, 7, 0, 1, 2, 3, 4, 5, 6, 7, 8, 9, 12], [9, 12]), ([10, 13, 0, 1, 2, 3, 4, 5, 6, 7, 8, 9, 10, 12, 13], [10]), ([11, 14, 0, 1, 2, 3, 4, 5, 6, 7, 8, 9, 10, 11, 12, 13, 14], [11])])
def bsoncore_Element_ValueErr.B6 : List Nat := [0, 0, 2, 7, 0, 16, 48, 127, 255, 511, 511, 511, 0, 5119, 14335, 32767]
theorem bsoncore_Element_ValueErr.tab6 : rtab .any (opsOf Tryd.f37 6) = bsoncore_Element_ValueErr.T6 := by kernel_rfl
theorem bsoncore_Element_ValueErr.bits6 : waitsOk bsoncore_Element_ValueErr.T6.2 bsoncore_Element_ValueErr.B6 = true := by kernel_rfl
set_option maxHeartbeats 8000000 in
set_option maxRecDepth 100000 in
theorem bsoncore_Element_ValueErr.calls (k : Nat) (P0_ : Nat → Prop) (A0 : Option Addr) (c0 : Nat) (l0 : List Int) (r1 : Int) (r2 : List Int) (r3 : Option Int) (w : World) (hs0 : Kd.V (Kd.int .u8) 5 w w.heap.size (fun k_ => P0_ k_) (.slice A0 l0.length c0) l0) (h : bsoncore_Element_ValueErr.f k l0 = some (r1, r2, r3)) :
    Calls Tryd.prog 37 #[.slice A0 l0.length c0] w fun e w' => ∃ v1_ : Value, e = .returned (.tuple #[.agg #[.int .u8 r1, v1_], errW r3]) ∧ Kd.V (Kd.int .u8) 5 w' w.heap.size (fun k_ => (P0_ k_ ∨ w.heap.size ≤ k_)) v1_ r2 ∧ Below w.heap.size w w' := by
  have hu77 := Tryd.underlying77
  have hu56 := Tryd.underlying56
  have HO0 := Aside0.mk (show Kd.V (Kd.int .u8) 5 w w.heap.size (fun k_ => (P0_ k_ ∨ w.heap.size ≤ k_)) (.slice A0 l0.length c0) l0 from Kd.V_mono hs0 (fun k_ hk => .inl hk))
  have HB := Aside0.mk (Below.refl w.heap.size w)
  have H : (if (l0.length : Int) = 0 then (none) else (if 1 ≤ (l0.length : Int) then ((bytes_IndexByte.f (l0.drop 1) 0).bind fun t443 => (if t443 = (-1) then (none) else (if 0 ≤ (wrap64 (t443 + 2)) then (if (wrap64 (t443 + 2)) ≤ (l0.length : Int) then (if 0 < (l0.length : Int) then ((bsoncore_ReadValue.f k (l0.drop ((wrap64 (t443 + 2)) : Int).toNat) (rd l0 0)).bind fun bt450 => (if bt450.2.2.2 = true then (some (bt450.1, bt450.2.1, none)) else (none))) else (none)) else (none)) else (none)))) else (none))) = some (r1, r2, r3) := h
  clear h
  by_cases c2 : (l0.length : Int) = 0
  · rw [if_pos c2] at H
    exact absurd H (by simp)
  rw [if_neg c2] at H
  have c2b0 : ((l0.length : Int) == 0) = false := beq_eq_false_iff_ne.mpr c2
  have c2b1 : ((l0.length : Int) != 0) = true := bne_iff_ne.mpr c2
  have c2b2 : ¬ (l0 = []) := fun h_ => c2 (by rw [h_]; rfl)
  by_cases c3 : 1 ≤ (l0.length : Int)
  rotate_left
  · rw [if_neg c3] at H
    exact absurd H (by simp)
  rw [if_pos c3] at H
  have c3b0 := eq_true c3
  have c3b1 : decide (1 ≤ (l0.length : Int)) = true := decide_eq_true c3
  clear c3
  obtain ⟨y438, hy438⟩ : ∃ y_ : List Int, y_ = (l0.drop 1) := ⟨_, rfl⟩
  replace H : ((bytes_IndexByte.f y438 0).bind fun t443 => (if t443 = (-1) then (none) else (if 0 ≤ (wrap64 (t443 + 2)) then (if (wrap64 (t443 + 2)) ≤ (l0.length : Int) then (if 0 < (l0.length : Int) then ((bsoncore_ReadValue.f k (l0.drop ((wrap64 (t443 + 2)) : Int).toNat) (rd l0 0)).bind fun bt450 => (if bt450.2.2.2 = true then (some (bt450.1, bt450.2.1, none)) else (none))) else (none)) else (none)) else (none)))) = some (r1, r2, r3) := by first | (rw [hy438]; with_reducible exact H) | (have H2_ := (Option.bind_some _ _).symm.trans H; rw [hy438]; with_reducible exact H2_) | (have H2_ := (Option.bind_some _ _).symm.trans H; with_reducible exact H2_) | with_reducible exact H | (rw [hy438]; exact H) | exact H
  have Ny438 := Aside0.mk hy438
  clear hy438
  replace H := Option.bind_eq_some_iff.mp H
  obtain ⟨t443, A40, H⟩ := H
  replace H : (if t443 = (-1) then (none) else (if 0 ≤ (wrap64 (t443 + 2)) then (if (wrap64 (t443 + 2)) ≤ (l0.length : Int) then (if 0 < (l0.length : Int) then ((bsoncore_ReadValue.f k (l0.drop ((wrap64 (t443 + 2)) : Int).toNat) (rd l0 0)).bind fun bt450 => (if bt450.2.2.2 = true then (some (bt450.1, bt450.2.1, none)) else (none))) else (none)) else (none)) else (none))) = some (r1, r2, r3) := H
  have A4 := Aside0.mk A40
  clear A40
  by_cases c5 : t443 = (-1)
  · rw [if_pos c5] at H
    exact absurd H (by simp)
  rw [if_neg c5] at H
  have c5b0 : (t443 == (-1)) = false := beq_eq_false_iff_ne.mpr c5
  have c5b1 : (t443 != (-1)) = true := bne_iff_ne.mpr c5
  obtain ⟨ji6, hji6⟩ : ∃ j_ : Int, (wrap64 (t443 + 2)) = j_ := ⟨_, rfl⟩
  replace H : (if 0 ≤ (ji6) then (if (ji6) ≤ (l0.length : Int) then (if 0 < (l0.length : Int) then ((bsoncore_ReadValue.f k (l0.drop ((ji6) : Int).toNat) (rd l0 0)).bind fun bt450 => (if bt450.2.2.2 = true then (some (bt450.1, bt450.2.1, none)) else (none))) else (none)) else (none)) else (none)) = some (r1, r2, r3) := by first | (rw [hji6] at H; exact H) | (simp only [hji6] at H ⊢; exact H)
  (try rw [hji6] at A4)
  have hji6w : (IntKind.i64.wrap (t443 + 2)) = ji6 := (i64_w _).trans hji6
  by_cases c7 : 0 ≤ (ji6)
  rotate_left
  · rw [if_neg c7] at H
    exact absurd H (by simp)
  rw [if_pos c7] at H
  have c7b0 := eq_true c7
  have c7b1 : decide (0 ≤ (ji6)) = true := decide_eq_true c7
  clear c7
  by_cases c8 : (ji6) ≤ (l0.length : Int)
  rotate_left
  · rw [if_neg c8] at H
    exact absurd H (by simp)
  rw [if_pos c8] at H
  have c8b0 := eq_true c8
  have c8b1 : decide ((ji6) ≤ (l0.length : Int)) = true := decide_eq_true c8
  clear c8
  obtain ⟨y444, hy444⟩ : ∃ y_ : List Int, y_ = (l0.drop ((ji6) : Int).toNat) := ⟨_, rfl⟩
  replace H : (if 0 < (l0.length : Int) then ((bsoncore_ReadValue.f k y444 (rd l0 0)).bind fun bt450 => (if bt450.2.2.2 = true then (some (bt450.1, bt450.2.1, none)) else (none))) else (none)) = some (r1, r2, r3) := by first | (rw [hy444]; with_reducible exact H) | (have H2_ := (Option.bind_some _ _).symm.trans H; rw [hy444]; with_reducible exact H2_) | (have H2_ := (Option.bind_some _ _).symm.trans H; with_reducible exact H2_) | with_reducible exact H | (rw [hy444]; exact H) | exact H
  have Ny444 := Aside0.mk hy444
  clear hy444
  by_cases c9 : 0 < (l0.length : Int)
  rotate_left
  · rw [if_neg c9] at H
    exact absurd H (by simp)
  rw [if_pos c9] at H
  have c9b0 : decide (0 < (l0.length : Int)) = true := decide_eq_true c9
  have c9b1 : decide (0 < l0.length) = true := decide_eq_true (by omega)
  clear c9
  replace H := Option.bind_eq_some_iff.mp H
  obtain ⟨⟨t450, t451, t454, t457⟩, A100, H⟩ := H
  replace H : (if t457 = true then (some (t450, t451, none)) else (none)) = some (r1, r2, r3) := H
  have A10 := Aside0.mk A100
  clear A100
  by_cases c11 : t457 = true
  rotate_left
  · replace c11 := Bool.eq_false_iff.mpr c11
    subst c11
    have H1 : (none) = some (r1, r2, r3) := by rw [if_neg (show ¬ (false = true) by decide)] at H; exact H
    clear H
    have H := H1
    clear H1
    exact absurd H (by simp)
  subst c11
  have H1 : (some (t450, t451, none)) = some (r1, r2, r3) := by rw [if_pos rfl] at H; exact H
  clear H
  have H := H1
  clear H1
  as_aux_lemma =>
    simp only [Option.some.injEq, Prod.mk.injEq] at H
    obtain ⟨rfl, rfl, rfl⟩ := H
    go_enter Tryd.func37, Tryd.ntmps37
    try go_wp2_with (first | ((with_reducible refine gate_dst (N := 2) rfl ?_); refine box_event ?hg (N := 2) ?hd (cs := #[.int .u8 0, .slice none 0 0]) (t := 77) ?hr ?_; (case hd => rfl); (case hg => rfl); (case hr => first | (go_simp; done) | (go_simp; rfl)); intro gb437 hg w12 hbox hb; have n0_ := Aside0.mk (Kd.V_below (Kd.V_elderB (HW.zV HO0.out) gb437 (Nat.le_of_eq hg.symm)) hb); have n1_ := Aside0.mk (below_step HW.zb hb); have n2_ := Aside0.mk (hbox); have n4_ := Aside0.mk ((by rw [hg]; exact (below_size HW.zb) : w.heap.size ≤ gb437)); clear HO0; clear HB; have HO0 := n0_; have HB := n1_; have BK437 := n2_; have GE437 := n4_; clear n0_ n1_ n2_ n4_; clear hb hbox hg; have q13 : (1 : Int) ≤ ((l0.length : Int) : Int) := of_decide_eq_true (by first | (with_reducible assumption) | assumption); obtain ⟨i013, hi013, _, hsz13, _⟩ := info_parts info5; have hroom13 : l0.length ≤ c0 := (Kd.V_reads' HO0.out).2.1; have hC13 : Kd.F (Kd.int .u8) _ _ A0 l0.length l0 := (Kd.V_at (base := w.heap.size) HO0.out).2.2; have hcut13 := cut_from (P := Tryd.prog) 92 5 .i64 Tryd.underlying92 hi013 1 hsz13 A0 l0.length c0 1 (by omega) q13; have hr13 := Kd.F_cut (m := (1 : Int).toNat) (c := c0) hC13 (by omega) hroom13; obtain ⟨A13, hA13⟩ : ∃ A1, A1 = (if c0 = (1 : Int).toNat then A0 else (A0 : Option Addr).map (·.add ((1 : Int).toNat * 1))) := ⟨_, rfl⟩; obtain ⟨c13, hc13⟩ : ∃ c1, c1 = c0 - (1 : Int).toNat := ⟨_, rfl⟩; have hy13 : y438.length = l0.length - (1 : Int).toNat := (by rw [Ny438.out, List.length_drop] <;> omega); rw [show (l0).drop (1 : Int).toNat = y438 from Ny438.out.symm] at hr13; replace hr13 : Kd.F (Kd.int .u8) _ _ A13 y438.length y438 := (by rw [hA13]; exact hr13); rw [← hy13, ← hA13, ← hc13] at hcut13; have HO442 := Aside0.mk (show Kd.V (Kd.int .u8) 5 _ w.heap.size _ (.slice A13 y438.length c13) y438 from Kd.V_mk (by rw [hy13, hc13]; exact Nat.sub_le_sub_right hroom13 _) hr13); have HC442 := Aside0.mk (show y438.length ≤ c13 from by rw [hy13, hc13]; exact Nat.sub_le_sub_right hroom13 _); clear hr13 hC13 hroom13 hi013 hsz13 hc13; have KY13 := Aside0.mk hy13; have KA13 := Aside0.mk hA13; clear hy13 hA13; replace q13 := eq_true q13) | ((with_reducible refine gate_callee (f := 55) rfl ?_); refine HW.gz (some 15) rfl rfl Tryd.func55 (by kernel_rfl) rfl #[.slice A13 y438.length c13, .int .u8 0] rfl ?_; (with_reducible refine (bytes_IndexByte.calls _ _ y438 0 t443 _ ?side1 ?side2 A4.out).mono ?_); (case side1 => repeat (first | exact (Kd.V_reads' HO442.out).2.2 | (with_reducible refine Kd.C_alloc ?_ _) | (with_reducible refine Kd.C_drewN ?_ _) | (with_reducible refine Kd.C_drew ?_))); (case side2 => exact (Kd.V_reads' HO442.out).2.1); rintro e w' ⟨rfl, ⟨nd, rfl⟩⟩; refine ⟨_, rfl, ?_⟩; (try (rw [drewN_self w12]; generalize hq_ : World.drewN w12 _ = w12; have n0_ : Aside0 (Kd.V (Kd.int .u8) 5 w12 w.heap.size (fun k_ => (P0_ k_ ∨ w.heap.size ≤ k_) ∧ k_ ≠ gb437) (.slice A0 l0.length c0) l0) := ⟨by rw [← hq_]; exact (HW.zV HO0.out)⟩; have n1_ : Aside0 (Kd.V (Kd.int .u8) 5 w12 w.heap.size (fun k_ => (P0_ k_ ∨ w.heap.size ≤ k_) ∧ k_ ≠ gb437) (.slice A13 y438.length c13) y438) := ⟨by rw [← hq_]; exact (HW.zV HO442.out)⟩; have n2_ : Aside0 (w12.heap[gb437]? = some (.cells #[.int .u8 0, .slice none 0 0] 77 (0, 0))) := ⟨by rw [← hq_]; exact (HW.zB BK437.out)⟩; have n3_ : Aside0 (Below w.heap.size w w12) := ⟨by rw [← hq_]; exact HW.zb⟩; clear HO0 HO442 BK437 HB hq_; have HO0 := n0_; have HO442 := n1_; have BK437 := n2_; have HB := n3_; clear n0_ n1_ n2_ n3_))))
    have n0_ := Aside0.mk (Kd.V_drew HO0.out)
    have n1_ := Aside0.mk (Kd.V_drew HO442.out)
    have n2_ := Aside0.mk (blk_drew BK437.out)
    have n3_ := Aside0.mk (below_drew1 HB.out)
    clear HO0
    clear HO442
    clear BK437
    clear HB
    have HO0 := n0_
    have HO442 := n1_
    have BK437 := n2_
    have HB := n3_
    clear n0_ n1_ n2_ n3_
    have q15 : ((ji6) : Int) ≤ ((l0.length : Int) : Int) := of_decide_eq_true (by first | (with_reducible assumption) | assumption)
    obtain ⟨i015, hi015, _, hsz15, _⟩ := info_parts info5
    have hroom15 : l0.length ≤ c0 := (Kd.V_reads' HO0.out).2.1
    have hC15 : Kd.F (Kd.int .u8) _ _ A0 l0.length l0 := (Kd.V_at (base := w.heap.size) HO0.out).2.2
    have q015 : (0 : Int) ≤ ((ji6) : Int) := of_decide_eq_true (by first | (with_reducible assumption) | assumption)
    have hcut15 := cut_from (P := Tryd.prog) 92 5 .i64 Tryd.underlying92 hi015 1 hsz15 A0 l0.length c0 (ji6) q015 q15
    have hr15 := Kd.F_cut (m := ((ji6) : Int).toNat) (c := c0) hC15 (by omega) hroom15
    obtain ⟨A15, hA15⟩ : ∃ A1, A1 = (if c0 = ((ji6) : Int).toNat then A0 else (A0 : Option Addr).map (·.add (((ji6) : Int).toNat * 1))) := ⟨_, rfl⟩
    obtain ⟨c15, hc15⟩ : ∃ c1, c1 = c0 - ((ji6) : Int).toNat := ⟨_, rfl⟩
    have hy15 : y444.length = l0.length - ((ji6) : Int).toNat := (by rw [Ny444.out, List.length_drop] <;> omega)
    rw [show (l0).drop ((ji6) : Int).toNat = y444 from Ny444.out.symm] at hr15
    replace hr15 : Kd.F (Kd.int .u8) _ _ A15 y444.length y444 := (by rw [hA15]; exact hr15)
    rw [← hy15, ← hA15, ← hc15] at hcut15
    have HO448 := Aside0.mk (show Kd.V (Kd.int .u8) 5 _ w.heap.size _ (.slice A15 y444.length c15) y444 from Kd.V_mk (by rw [hy15, hc15]; exact Nat.sub_le_sub_right hroom15 _) hr15)
    have HC448 := Aside0.mk (show y444.length ≤ c15 from by rw [hy15, hc15]; exact Nat.sub_le_sub_right hroom15 _)
    clear hr15 hC15 hroom15 hi015 hsz15 hc15
    have KY15 := Aside0.mk hy15
    have KA15 := Aside0.mk hA15
    clear hy15 hA15
    replace q15 := eq_true q15
    have p449 : 0 ≤ (0 : Int) := (by omega)
    have q449 : 0 < (l0.length : Int) := of_decide_eq_true (by first | (with_reducible assumption) | assumption)
    obtain ⟨ad449, e449, hx449_0⟩ := Kd.at_int (Kd.V_reads' HO0.out).2.2 0 p449 q449
    cases e449
    have qi449 : (0 < l0.length) = True := eq_true (by omega)
    (try rw [show ((0 : Int)).toNat = 0 from rfl] at hx449_0)
    (try rw [Addr.add_zero'] at hx449_0)
    replace p449 := eq_true p449
    replace q449 := eq_true q449
    refine start_ (n := 16) (S := fun w' => w'.cell? ad449 = some (.int .u8 (rd l0 0))) (ds := []) #[false, false, false, false, false, false, false, false, false, false, false, false, false, false, false, false] (by kernel_rfl) rfl rfl (hx449_0) (fun hHeld => ?_); refine with_tabW bsoncore_Element_ValueErr.tab6 bsoncore_Element_ValueErr.bits6 (fun HT_ HW_ => ?_)
    generalize w12.drew = w14 at HO0 HO442 BK437 HB HO448 hx449_0 hHeld ⊢
    refine HW.pz (i := 0) (N := some 21) #[true, false, false, false, false, false, false, false, false, false, false, false, false, false, false, false] ?_ (hc := any_of HT_.out (by kernel_rfl))
    refine HW.pz (i := 1) (N := some 22) #[true, true, false, false, false, false, false, false, false, false, false, false, false, false, false, false] ?_ (hc := any_of HT_.out (by kernel_rfl))
    refine HW.pz (i := 2) (N := some 23) #[true, true, true, false, false, false, false, false, false, false, false, false, false, false, false, false] ?_ (hc := any_of HT_.out (by kernel_rfl))
    refine HW.pz (i := 3) (N := some 24) #[true, true, true, true, false, false, false, false, false, false, false, false, false, false, false, false] ?_ (hc := any_of HT_.out (by kernel_rfl))
    refine HW.pz (i := 4) (N := some 25) #[true, true, true, true, true, false, false, false, false, false, false, false, false, false, false, false] ?_ (hc := any_of HT_.out (by kernel_rfl))
    refine HW.pz (i := 5) (N := some 26) #[true, true, true, true, true, true, false, false, false, false, false, false, false, false, false, false] ?_ (hc := any_of HT_.out (by kernel_rfl))
    refine take_ (i := 6) (N := some 27) (v := ?_) (a' := ?_) #[true, true, true, true, true, true, true, false, false, false, false, false, false, false, false, false] rfl rfl (take_ofW HT_.out HW_.out (by kernel_rfl)) (fun _ _ _ h => h) (Or.inl ⟨by rfl, ?_⟩) hHeld ?_ ?_
    rotate_left
    · intro w' s0
      go_simp
      with_reducible rfl
    rotate_left
    · simp only [Act.put, List.setIfInBounds_toArray, List.set_cons_zero, List.set_cons_succ, i64_w, i32_w]
      rfl
    refine join_ (σ := Value × Value × Nat) 3 #[true, true, true, true, true, true, true, true, true, true, true, true, true, false, false, false] (fun s_ => [(28, .tuple #[.agg #[.int .u8 t450, s_.1], s_.2.1, .bool true]), (5, .pointer (some ⟨s_.2.2, 0, none⟩)), (20, .tuple #[.agg #[.int .u8 t450, s_.1], s_.2.1, .bool true]), (29, .agg #[.int .u8 t450, s_.1]), (30, s_.2.1), (31, .bool true)]) (fun s_ w' => (w'.cell? ad449 = some (.int .u8 (rd l0 0))) ∧ (Kd.V (Kd.int .u8) 5 w' w.heap.size (fun k_ => (P0_ k_ ∨ w.heap.size ≤ k_) ∧ k_ ≠ gb437 ∧ k_ ≠ s_.2.2) (.slice (some ad449) l0.length c0) l0) ∧ (Kd.V (Kd.int .u8) 5 w' w.heap.size (fun k_ => (P0_ k_ ∨ w.heap.size ≤ k_) ∧ k_ ≠ gb437 ∧ k_ ≠ s_.2.2) (.slice A13 y438.length c13) y438) ∧ (Kd.V (Kd.int .u8) 5 w' w.heap.size (fun k_ => (P0_ k_ ∨ w.heap.size ≤ k_) ∧ k_ ≠ gb437 ∧ k_ ≠ s_.2.2) (.slice A15 y444.length c15) y444) ∧ (Kd.V (Kd.int .u8) 5 w' w.heap.size (fun k_ => (P0_ k_ ∨ w.heap.size ≤ k_) ∧ k_ ≠ gb437 ∧ k_ ≠ s_.2.2) s_.1 t451) ∧ (Kd.V (Kd.int .u8) 5 w' w.heap.size (fun k_ => (P0_ k_ ∨ w.heap.size ≤ k_) ∧ k_ ≠ gb437 ∧ k_ ≠ s_.2.2) s_.2.1 t454) ∧ (w'.heap[gb437]? = some (.cells #[.int .u8 0, .slice none 0 0] 77 (0, 0))) ∧ (w'.heap[s_.2.2]? = some (.cells #[.int .u8 0, .slice none 0 0] 77 (0, 0))) ∧ (w.heap.size ≤ s_.2.2) ∧ (w.heap.size ≤ s_.2.2) ∧ (gb437 ≠ s_.2.2) ∧ (s_.2.2 ≠ gb437) ∧ (Below w.heap.size w w')) ?_ ?_
    rotate_left
    · intro hCont
      refine two_ (i := 7) (j := 12) (Ni := some 28) (Nj := some 5) #[true, true, true, true, true, true, true, true, false, false, false, false, false, false, false, false] #[true, true, true, true, true, true, true, false, false, false, false, false, true, false, false, false] rfl rfl rfl rfl (two_of HT_.out (by kernel_rfl)) (by decide) (by decide) (fun K hK => ?_) (fun K hK => ?_)
      · skip
        refine goes_ Tryd.func56 (by kernel_rfl) rfl #[.slice A15 y444.length c15, .int .u8 (rd l0 0)] (by rfl) rfl rfl (by (try simp only [List.map_toArray, List.map_cons, List.map_nil]); first | done | rfl | (simp only [List.length_drop, List.length_take]; rfl)) ?_
        with_reducible refine (bsoncore_ReadValue.calls k (fun k_ => ((P0_ k_ ∨ w.heap.size ≤ k_) ∧ k_ ≠ gb437)) _ _ y444 (rd l0 0) t450 t451 t454 true _ ?side1 A10.out).mono ?_
        (case side1 => exact HO448.out)
        rintro e w16 ⟨v452, v455, rfl, ho0, ho1, hb⟩
        have HS0_ := (hb.cell (World.block_lt_of_cell? _ _ (hHeld))).trans (hHeld)
        refine ⟨_, rfl, ?_⟩
        have n0_ := Aside0.mk (Kd.V_below (HW.zV HO0.out) hb)
        have n1_ := Aside0.mk (Kd.V_below (HW.zV HO442.out) hb)
        have n2_ := Aside0.mk (Kd.V_below (HW.zV HO448.out) hb)
        have n3_ := Aside0.mk (Kd.V_lower (Kd.V_mono (ok' := fun k_ => (P0_ k_ ∨ w.heap.size ≤ k_) ∧ k_ ≠ gb437) ho0 (fun k_ hk_ => ⟨Or.elim hk_ (fun hs_ => hs_.1) (fun hn_ => (.inr (Nat.le_trans (below_size HW.zb) hn_))), Or.elim hk_ (fun hs_ => hs_.2) (fun hn_ => (Kd.freshB (g := gb437) (o := .cells #[.int .u8 0, .slice none 0 0] 77 (0, 0)) (HW.zB BK437.out) k_ hn_))⟩)) (below_size HW.zb))
        have n4_ := Aside0.mk (Kd.V_lower (Kd.V_mono (ok' := fun k_ => (P0_ k_ ∨ w.heap.size ≤ k_) ∧ k_ ≠ gb437) ho1 (fun k_ hk_ => ⟨Or.elim hk_ (fun hs_ => hs_.1) (fun hn_ => (.inr (Nat.le_trans (below_size HW.zb) hn_))), Or.elim hk_ (fun hs_ => hs_.2) (fun hn_ => (Kd.freshB (g := gb437) (o := .cells #[.int .u8 0, .slice none 0 0] 77 (0, 0)) (HW.zB BK437.out) k_ hn_))⟩)) (below_size HW.zb))
        have n5_ := Aside0.mk (blk_below (g := gb437) (o := .cells #[.int .u8 0, .slice none 0 0] 77 (0, 0)) (HW.zB BK437.out) hb)
        have n6_ := Aside0.mk (below_step HW.zb hb)
        clear HO0
        clear HO442
        clear HO448
        clear BK437
        clear HB
        have HO0 := n0_
        have HO442 := n1_
        have HO448 := n2_
        have HO453 := n3_
        have HO456 := n4_
        have BK437 := n5_
        have HB := n6_
        clear n0_ n1_ n2_ n3_ n4_ n5_ n6_
        (try clear hb)
        (try clear hb2)
        (try clear hk)
        (try clear hi)
        (try clear ho0)
        (try clear ho1)
        refine hK.out _ _ (HS0_) (fun hHeld => ?_)
        clear hK K
        refine HW.nz (N := (some 28)) ?_
        refine HW.pz (i := 8) (N := some 20) #[true, true, true, true, true, true, true, true, true, false, false, false, false, false, false, false] ?_ (hc := any_of HT_.out (by kernel_rfl))
        refine HW.pz (i := 9) (N := some 29) #[true, true, true, true, true, true, true, true, true, true, false, false, false, false, false, false] ?_ (hc := any_of HT_.out (by kernel_rfl))
        refine HW.pz (i := 10) (N := some 30) #[true, true, true, true, true, true, true, true, true, true, true, false, false, false, false, false] ?_ (hc := any_of HT_.out (by kernel_rfl))
        refine HW.pz (i := 11) (N := some 31) #[true, true, true, true, true, true, true, true, true, true, true, true, false, false, false, false] ?_ (hc := any_of HT_.out (by kernel_rfl))
        refine one_ (i := 12) (N := some 5) #[true, true, true, true, true, true, true, true, true, true, true, true, true, false, false, false] rfl rfl (one_of HT_.out (by kernel_rfl)) (by decide) (fun K hK => ?_)
        refine box_step ?hg (N := 5) ?hd (cs := #[.int .u8 0, .slice none 0 0]) (t := 77) ?hr ?_; (case hd => rfl); (case hg => rfl); (case hr => first | (go_simp; done) | (go_simp; rfl))
        intro gb458 hg w17 hbox hb
        have HS0_ := (hb.cell (World.block_lt_of_cell? _ _ (hHeld))).trans (hHeld)
        have n0_ := Aside0.mk (Kd.V_below (Kd.V_elderB (HW.zV HO0.out) gb458 (Nat.le_of_eq hg.symm)) hb)
        have n1_ := Aside0.mk (Kd.V_below (Kd.V_elderB (HW.zV HO442.out) gb458 (Nat.le_of_eq hg.symm)) hb)
        have n2_ := Aside0.mk (Kd.V_below (Kd.V_elderB (HW.zV HO448.out) gb458 (Nat.le_of_eq hg.symm)) hb)
        have n3_ := Aside0.mk (Kd.V_below (Kd.V_elderB (HW.zV HO453.out) gb458 (Nat.le_of_eq hg.symm)) hb)
        have n4_ := Aside0.mk (Kd.V_below (Kd.V_elderB (HW.zV HO456.out) gb458 (Nat.le_of_eq hg.symm)) hb)
        have n5_ := Aside0.mk (blk_below (g := gb437) (o := .cells #[.int .u8 0, .slice none 0 0] 77 (0, 0)) (HW.zB BK437.out) hb)
        have n6_ := Aside0.mk (below_step HW.zb hb)
        have n7_ := Aside0.mk (hbox)
        have n8_ := Aside0.mk ((by rw [hg]; exact (below_size HW.zb) : w.heap.size ≤ gb458))
        have n9_ := Aside0.mk ((by rw [hg]; exact (below_size HW.zb) : w.heap.size ≤ gb458))
        have n10_ := Aside0.mk ((by rw [hg]; exact Nat.ne_of_lt (blk_lt (g := gb437) (o := .cells #[.int .u8 0, .slice none 0 0] 77 (0, 0)) (HW.zB BK437.out)) : gb437 ≠ gb458))
        have n11_ := Aside0.mk ((by rw [hg]; exact Nat.ne_of_gt (blk_lt (g := gb437) (o := .cells #[.int .u8 0, .slice none 0 0] 77 (0, 0)) (HW.zB BK437.out)) : gb458 ≠ gb437))
        clear HO0
        clear HO442
        clear HO448
        clear HO453
        clear HO456
        clear BK437
        clear HB
        have HO0 := n0_
        have HO442 := n1_
        have HO448 := n2_
        have HO453 := n3_
        have HO456 := n4_
        have BK437 := n5_
        have HB := n6_
        have BK458 := n7_
        have GW458 := n8_
        have GE458 := n9_
        have NB437_458 := n10_
        have NB458_437 := n11_
        clear n0_ n1_ n2_ n3_ n4_ n5_ n6_ n7_ n8_ n9_ n10_ n11_
        clear hb hbox hg
        refine hK.out _ _ (HS0_) (fun hHeld => ?_)
        clear hK K
        refine HW.nz (N := (some 5)) ?_
        exact norm_ (by simp only [putAll, Act.put, List.setIfInBounds_toArray, List.set_cons_zero, List.set_cons_succ, errW_none]) (hCont (v452, v455, gb458) _ ⟨hHeld, (HW.zV (Kd.V_mono HO0.out (fun _ hk => ⟨hk.1.1, ⟨hk.1.2, hk.2⟩⟩))), (HW.zV (Kd.V_mono HO442.out (fun _ hk => ⟨hk.1.1, ⟨hk.1.2, hk.2⟩⟩))), (HW.zV (Kd.V_mono HO448.out (fun _ hk => ⟨hk.1.1, ⟨hk.1.2, hk.2⟩⟩))), (HW.zV (Kd.V_mono HO453.out (fun _ hk => ⟨hk.1.1, ⟨hk.1.2, hk.2⟩⟩))), (HW.zV (Kd.V_mono HO456.out (fun _ hk => ⟨hk.1.1, ⟨hk.1.2, hk.2⟩⟩))), (HW.zB BK437.out), (HW.zB BK458.out), GW458.out, GE458.out, NB437_458.out, NB458_437.out, HW.zb⟩)
      skip
      refine box_step ?hg (N := 5) ?hd (cs := #[.int .u8 0, .slice none 0 0]) (t := 77) ?hr ?_; (case hd => rfl); (case hg => rfl); (case hr => first | (go_simp; done) | (go_simp; rfl))
      intro gb458 hg w16 hbox hb
      have HS0_ := (hb.cell (World.block_lt_of_cell? _ _ (hHeld))).trans (hHeld)
      have n0_ := Aside0.mk (Kd.V_below (Kd.V_elderB (HW.zV HO0.out) gb458 (Nat.le_of_eq hg.symm)) hb)
      have n1_ := Aside0.mk (Kd.V_below (Kd.V_elderB (HW.zV HO442.out) gb458 (Nat.le_of_eq hg.symm)) hb)
      have n2_ := Aside0.mk (Kd.V_below (Kd.V_elderB (HW.zV HO448.out) gb458 (Nat.le_of_eq hg.symm)) hb)
      have n3_ := Aside0.mk (blk_below (g := gb437) (o := .cells #[.int .u8 0, .slice none 0 0] 77 (0, 0)) (HW.zB BK437.out) hb)
      have n4_ := Aside0.mk (below_step HW.zb hb)
      have n5_ := Aside0.mk (hbox)
      have n6_ := Aside0.mk ((by rw [hg]; exact (below_size HW.zb) : w.heap.size ≤ gb458))
      have n7_ := Aside0.mk ((by rw [hg]; exact (below_size HW.zb) : w.heap.size ≤ gb458))
      have n8_ := Aside0.mk ((by rw [hg]; exact Nat.ne_of_lt (blk_lt (g := gb437) (o := .cells #[.int .u8 0, .slice none 0 0] 77 (0, 0)) (HW.zB BK437.out)) : gb437 ≠ gb458))
      have n9_ := Aside0.mk ((by rw [hg]; exact Nat.ne_of_gt (blk_lt (g := gb437) (o := .cells #[.int .u8 0, .slice none 0 0] 77 (0, 0)) (HW.zB BK437.out)) : gb458 ≠ gb437))
      clear HO0
      clear HO442
      clear HO448
      clear BK437
      clear HB
      have HO0 := n0_
      have HO442 := n1_
      have HO448 := n2_
      have BK437 := n3_
      have HB := n4_
      have BK458 := n5_
      have GW458 := n6_
      have GE458 := n7_
      have NB437_458 := n8_
      have NB458_437 := n9_
      clear n0_ n1_ n2_ n3_ n4_ n5_ n6_ n7_ n8_ n9_
      clear hb hbox hg
      refine hK.out _ _ (HS0_) (fun hHeld => ?_)
      clear hK K
      refine HW.nz (N := (some 5)) ?_
      refine one_ (i := 7) (N := some 28) #[true, true, true, true, true, true, true, true, false, false, false, false, true, false, false, false] rfl rfl (one_of HT_.out (by kernel_rfl)) (by decide) (fun K hK => ?_)
      refine goes_ Tryd.func56 (by kernel_rfl) rfl #[.slice A15 y444.length c15, .int .u8 (rd l0 0)] (by rfl) rfl rfl (by (try simp only [List.map_toArray, List.map_cons, List.map_nil]); first | done | rfl | (simp only [List.length_drop, List.length_take]; rfl)) ?_
      with_reducible refine (bsoncore_ReadValue.calls k (fun k_ => (((P0_ k_ ∨ w.heap.size ≤ k_) ∧ k_ ≠ gb437) ∧ k_ ≠ gb458)) _ _ y444 (rd l0 0) t450 t451 t454 true _ ?side1 A10.out).mono ?_
      (case side1 => exact HO448.out)
      rintro e w17 ⟨v452, v455, rfl, ho0, ho1, hb⟩
      have HS0_ := (hb.cell (World.block_lt_of_cell? _ _ (hHeld))).trans (hHeld)
      refine ⟨_, rfl, ?_⟩
      have n0_ := Aside0.mk (Kd.V_below (HW.zV HO0.out) hb)
      have n1_ := Aside0.mk (Kd.V_below (HW.zV HO442.out) hb)
      have n2_ := Aside0.mk (Kd.V_below (HW.zV HO448.out) hb)
      have n3_ := Aside0.mk (Kd.V_lower (Kd.V_mono (ok' := fun k_ => (P0_ k_ ∨ w.heap.size ≤ k_) ∧ k_ ≠ gb437 ∧ k_ ≠ gb458) ho0 (fun k_ hk_ => ⟨Or.elim hk_ (fun hs_ => hs_.1.1) (fun hn_ => (.inr (Nat.le_trans (below_size HW.zb) hn_))), Or.elim hk_ (fun hs_ => hs_.1.2) (fun hn_ => (Kd.freshB (g := gb437) (o := .cells #[.int .u8 0, .slice none 0 0] 77 (0, 0)) (HW.zB BK437.out) k_ hn_)), Or.elim hk_ (fun hs_ => hs_.2) (fun hn_ => (Kd.freshB (g := gb458) (o := .cells #[.int .u8 0, .slice none 0 0] 77 (0, 0)) (HW.zB BK458.out) k_ hn_))⟩)) (below_size HW.zb))
      have n4_ := Aside0.mk (Kd.V_lower (Kd.V_mono (ok' := fun k_ => (P0_ k_ ∨ w.heap.size ≤ k_) ∧ k_ ≠ gb437 ∧ k_ ≠ gb458) ho1 (fun k_ hk_ => ⟨Or.elim hk_ (fun hs_ => hs_.1.1) (fun hn_ => (.inr (Nat.le_trans (below_size HW.zb) hn_))), Or.elim hk_ (fun hs_ => hs_.1.2) (fun hn_ => (Kd.freshB (g := gb437) (o := .cells #[.int .u8 0, .slice none 0 0] 77 (0, 0)) (HW.zB BK437.out) k_ hn_)), Or.elim hk_ (fun hs_ => hs_.2) (fun hn_ => (Kd.freshB (g := gb458) (o := .cells #[.int .u8 0, .slice none 0 0] 77 (0, 0)) (HW.zB BK458.out) k_ hn_))⟩)) (below_size HW.zb))
      have n5_ := Aside0.mk (blk_below (g := gb437) (o := .cells #[.int .u8 0, .slice none 0 0] 77 (0, 0)) (HW.zB BK437.out) hb)
      have n6_ := Aside0.mk (blk_below (g := gb458) (o := .cells #[.int .u8 0, .slice none 0 0] 77 (0, 0)) (HW.zB BK458.out) hb)
      have n7_ := Aside0.mk (below_step HW.zb hb)
      clear HO0
      clear HO442
      clear HO448
      clear BK437
      clear BK458
      clear HB
      have HO0 := n0_
      have HO442 := n1_
      have HO448 := n2_
      have HO453 := n3_
      have HO456 := n4_
      have BK437 := n5_
      have BK458 := n6_
      have HB := n7_
      clear n0_ n1_ n2_ n3_ n4_ n5_ n6_ n7_
      (try clear hb)
      (try clear hb2)
      (try clear hk)
      (try clear hi)
      (try clear ho0)
      (try clear ho1)
      refine hK.out _ _ (HS0_) (fun hHeld => ?_)
      clear hK K
      refine HW.nz (N := (some 28)) ?_
      refine HW.pz (i := 8) (N := some 20) #[true, true, true, true, true, true, true, true, true, false, false, false, true, false, false, false] ?_ (hc := any_of HT_.out (by kernel_rfl))
      refine HW.pz (i := 9) (N := some 29) #[true, true, true, true, true, true, true, true, true, true, false, false, true, false, false, false] ?_ (hc := any_of HT_.out (by kernel_rfl))
      refine HW.pz (i := 10) (N := some 30) #[true, true, true, true, true, true, true, true, true, true, true, false, true, false, false, false] ?_ (hc := any_of HT_.out (by kernel_rfl))
      refine HW.pz (i := 11) (N := some 31) #[true, true, true, true, true, true, true, true, true, true, true, true, true, false, false, false] ?_ (hc := any_of HT_.out (by kernel_rfl))
      exact norm_ (by simp only [putAll, Act.put, List.setIfInBounds_toArray, List.set_cons_zero, List.set_cons_succ, errW_none]) (hCont (v452, v455, gb458) _ ⟨hHeld, (HW.zV (Kd.V_mono HO0.out (fun _ hk => ⟨hk.1.1, ⟨hk.1.2, hk.2⟩⟩))), (HW.zV (Kd.V_mono HO442.out (fun _ hk => ⟨hk.1.1, ⟨hk.1.2, hk.2⟩⟩))), (HW.zV (Kd.V_mono HO448.out (fun _ hk => ⟨hk.1.1, ⟨hk.1.2, hk.2⟩⟩))), (HW.zV HO453.out), (HW.zV HO456.out), (HW.zB BK437.out), (HW.zB BK458.out), GW458.out, GE458.out, NB437_458.out, NB458_437.out, HW.zb⟩)
    rintro ⟨v452, v455, gb458⟩ w18 ⟨hS_, h0_, h1_, h2_, h3_, h4_, h5_, h6_, h7_, h8_, h9_, h10_, h11_⟩
    have n0_ : Aside0 (Kd.V (Kd.int .u8) 5 w18 w.heap.size (fun k_ => (P0_ k_ ∨ w.heap.size ≤ k_) ∧ k_ ≠ gb437 ∧ k_ ≠ gb458) (.slice (some ad449) l0.length c0) l0) := ⟨h0_⟩
    have n1_ : Aside0 (Kd.V (Kd.int .u8) 5 w18 w.heap.size (fun k_ => (P0_ k_ ∨ w.heap.size ≤ k_) ∧ k_ ≠ gb437 ∧ k_ ≠ gb458) (.slice A13 y438.length c13) y438) := ⟨h1_⟩
    have n2_ : Aside0 (Kd.V (Kd.int .u8) 5 w18 w.heap.size (fun k_ => (P0_ k_ ∨ w.heap.size ≤ k_) ∧ k_ ≠ gb437 ∧ k_ ≠ gb458) (.slice A15 y444.length c15) y444) := ⟨h2_⟩
    have n3_ : Aside0 (Kd.V (Kd.int .u8) 5 w18 w.heap.size (fun k_ => (P0_ k_ ∨ w.heap.size ≤ k_) ∧ k_ ≠ gb437 ∧ k_ ≠ gb458) v452 t451) := ⟨h3_⟩
    have n4_ : Aside0 (Kd.V (Kd.int .u8) 5 w18 w.heap.size (fun k_ => (P0_ k_ ∨ w.heap.size ≤ k_) ∧ k_ ≠ gb437 ∧ k_ ≠ gb458) v455 t454) := ⟨h4_⟩
    have n5_ : Aside0 (w18.heap[gb437]? = some (.cells #[.int .u8 0, .slice none 0 0] 77 (0, 0))) := ⟨h5_⟩
    have n6_ : Aside0 (w18.heap[gb458]? = some (.cells #[.int .u8 0, .slice none 0 0] 77 (0, 0))) := ⟨h6_⟩
    have n7_ : Aside0 (w.heap.size ≤ gb458) := ⟨h7_⟩
    have n8_ : Aside0 (w.heap.size ≤ gb458) := ⟨h8_⟩
    have n9_ : Aside0 (gb437 ≠ gb458) := ⟨h9_⟩
    have n10_ : Aside0 (gb458 ≠ gb437) := ⟨h10_⟩
    have n11_ : Aside0 (Below w.heap.size w w18) := ⟨h11_⟩
    clear HO0
    clear HO442
    clear BK437
    clear HB
    clear h0_ h1_ h2_ h3_ h4_ h5_ h6_ h7_ h8_ h9_ h10_ h11_
    have HO0 := n0_
    have HO442 := n1_
    have HO448 := n2_
    have HO453 := n3_
    have HO456 := n4_
    have BK437 := n5_
    have BK458 := n6_
    have GW458 := n7_
    have GE458 := n8_
    have NB437_458 := n9_
    have NB458_437 := n10_
    have HB := n11_
    clear n0_ n1_ n2_ n3_ n4_ n5_ n6_ n7_ n8_ n9_ n10_ n11_
    have hHeld : w18.cell? ad449 = some (.int .u8 (rd l0 0)) := hS_
    obtain ⟨Ao20, co20, eo20⟩ := Kd.V_slice HO453.out
    (first | subst eo20 | (injection eo20 with f1_ f2_ f3_; have f4_ := f1_.symm; have f5_ := f3_.symm; clear f1_ f2_ f3_; subst f4_; subst f5_))
    refine norm_ (a' := ?_) ?_ ?_
    rotate_left
    · simp only [putAll, Act.put, List.setIfInBounds_toArray, List.set_cons_zero, List.set_cons_succ, errW_none]
      rfl
    refine one_ (i := 13) (N := none) #[true, true, true, true, true, true, true, true, true, true, true, true, true, true, false, false] rfl rfl (one_of HT_.out (by kernel_rfl)) (by decide) (fun K hK => ?_)
    have hs19 : w18.cell? ⟨gb458, 0, none⟩ = some (.int .u8 0) := (blk_cell BK458.out 0).trans rfl
    have hfs19 := blk_frozen BK458.out 0
    have hns19_0 := NB437_458.out
    have hms19_0 := NB458_437.out
    have hs21 : w18.cell? ⟨gb458, 1, none⟩ = some (.slice none 0 0) := (blk_cell BK458.out 1).trans rfl
    have hfs21 := blk_frozen BK458.out 1
    have hns21_0 := NB437_458.out
    have hms21_0 := NB458_437.out
    refine skip_ (w1 := ?_) (by rfl) rfl ?_ ?_
    rotate_left
    · go_simp
      rfl
    refine hK.out _ _ (((cell_far (p := ⟨gb458, _, none⟩) (by first | exact Kd.own_blk (Kd.V_away HO0.out (fun _ hk => hk.2.2)) | (rw [add_block]; exact Kd.own_blk (Kd.V_away HO0.out (fun _ hk => hk.2.2))) | (show (Addr.add _ _).block ≠ _; rw [add_block]; exact Kd.own_blk (Kd.V_away HO0.out (fun _ hk => hk.2.2))) | (dsimp only; exact Kd.own_blk (Kd.V_away HO0.out (fun _ hk => hk.2.2)))) _).trans (((cell_far (p := ⟨gb458, _, none⟩) (by first | exact Kd.own_blk (Kd.V_away HO0.out (fun _ hk => hk.2.2)) | (rw [add_block]; exact Kd.own_blk (Kd.V_away HO0.out (fun _ hk => hk.2.2))) | (show (Addr.add _ _).block ≠ _; rw [add_block]; exact Kd.own_blk (Kd.V_away HO0.out (fun _ hk => hk.2.2))) | (dsimp only; exact Kd.own_blk (Kd.V_away HO0.out (fun _ hk => hk.2.2)))) _).trans (hHeld))))) (fun hHeld => ?_)
    clear hK K
    refine HW.pz (i := 14) (N := some 6) #[true, true, true, true, true, true, true, true, true, true, true, true, true, true, true, false] ?_ (hc := any_of HT_.out (by kernel_rfl))
    refine HW.pz (i := 15) (N := some 7) #[true, true, true, true, true, true, true, true, true, true, true, true, true, true, true, true] ?_ (hc := any_of HT_.out (by kernel_rfl))
    refine done_ (done_of HT_.out (by kernel_rfl)) ?_
    have hnb22 := NB458_437.out
    have hnc22 := NB437_458.out
    have hcz23_0 := HW.zc BK458.out 0 (.int .u8 0)
    have hcz23_1 := HW.zc BK458.out 1 (.slice none 0 0)
    have hfz24_0 := blk_frozen BK458.out 0
    have hfz24_1 := blk_frozen BK458.out 1
    have hcz25_0 := HW.zc BK437.out 0 (.int .u8 0)
    have hcz25_1 := HW.zc BK437.out 1 (.slice none 0 0)
    have hfz26_0 := blk_frozen BK437.out 0
    have hfz26_1 := blk_frozen BK437.out 1
    try go_wp2
    refine bodyPost_ret (results_ct rfl _ _ gb437 77 #[.int .u8 t450, .slice Ao20 t451.length co20] (0, 0) _ rfl (by (with_reducible repeat (first | refine blk_drewN ?_ _ | refine blk_drew ?_ | refine blk_alloc ?_ _)); refine blk_put (cs := #[.int .u8 t450, .slice none 0 0]) ?_ 1 _ rfl; (with_reducible repeat (first | refine blk_drewN ?_ _ | refine blk_drew ?_ | refine blk_alloc ?_ _)); refine blk_put (cs := #[.int .u8 0, .slice none 0 0]) ?_ 0 _ rfl; (with_reducible repeat (first | refine blk_drewN ?_ _ | refine blk_drew ?_ | refine blk_alloc ?_ _)); refine blk_far ?_ NB437_458.out _; (with_reducible repeat (first | refine blk_drewN ?_ _ | refine blk_drew ?_ | refine blk_alloc ?_ _)); refine blk_far ?_ NB437_458.out _; (with_reducible repeat (first | refine blk_drewN ?_ _ | refine blk_drew ?_ | refine blk_alloc ?_ _)); exact BK437.out) Tryd.underlying77 rfl (by kernel_rfl)) rfl ?_
    exact ⟨_, by first | rfl | (simp [errW_none, errW_some] <;> rfl) | (simp only [← hji6]; first | rfl | (simp [errW_none, errW_some] <;> rfl)) | (simp [*, errW_none, errW_some] <;> rfl), by (with_reducible repeat (first | apply Kd.V_alloc | apply Kd.V_drewN | apply Kd.V_drew)); exact Kd.V_mono (Kd.V_far (p := ⟨gb437, 1, none⟩) (Kd.V_far (p := ⟨gb437, 0, none⟩) (Kd.V_far (p := ⟨gb458, 1, none⟩) (Kd.V_far (p := ⟨gb458, 0, none⟩) (Kd.V_mono (Kd.V_mono HO453.out (fun k_ hk => (⟨hk, hk.2.2⟩ : _ ∧ k_ ≠ gb458))) (fun k_ hk => (⟨hk, hk.1.2.1⟩ : _ ∧ k_ ≠ gb437))) (fun _ hk => hk.1.2) (.int .u8 t450)) (fun _ hk => hk.1.2) (.slice Ao20 t451.length co20)) (fun _ hk => hk.2) (.int .u8 t450)) (fun _ hk => hk.2) (.slice Ao20 t451.length co20)) (fun _ hk => hk.1.1.1), HW.zb⟩

end Go.Proofs.YtlcgakpnpdkjjaaDoor.PBz
