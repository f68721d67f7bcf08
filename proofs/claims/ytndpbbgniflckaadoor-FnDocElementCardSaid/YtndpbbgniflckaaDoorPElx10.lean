/- Printed by a program of this session (a turned copy of the printer of the kit): contracts of functions of the translation, each with the Lean function that it computes. Conditions: as each theorem states them. -/
import Derived.Test.YtndpbbgniflckaaDoorPElx0
import Derived.Test.YtndpbbgniflckaaDoorPElx7
import Derived.Test.YtndpbbgniflckaaDoorPElx9
namespace Go.Proofs.YtndpbbgniflckaaDoor.PEl
open Go.RowKit Go.Proofs.YtndpbbgniflckaaDoorW.PrintWords Go.Proofs.YtndpbbgniflckaaDoorW.PrintLast Go.Proofs.YtndpbbgniflckaaDoorW.PrintMore
attribute [local go_sem] max2_int min2_int max_two min_two max_three min_three max_four min_four   -- for this text's walks alone
set_option linter.unusedVariables false
set_option linter.unusedSimpArgs false

/-! ### bsoncore_Element_CompareKey: function 33 -/
def bsoncore_Element_CompareKey.j0 : Nat → List Int → List Int → Int → Option (Bool)
  | 0, _, _, _ => none
  | k + 1, x0, x1, x5 => if 1 ≤ (wrap64 (x5 + 1)) then (if (wrap64 (x5 + 1)) ≤ (x0.length : Int) then ((bytes_Equal.f ((x0.take ((wrap64 (x5 + 1)) : Int).toNat).drop 1) x1).bind fun t447 => (some t447)) else (none)) else (none)
def bsoncore_Element_CompareKey.f (k : Nat) (l0 : List Int) (l1 : List Int) : Option (Bool) := if (l0.length : Int) < 2 then (some false) else (if 1 ≤ (l0.length : Int) then ((bytes_IndexByte.f (l0.drop 1) 0).bind fun t439 => (if t439 = (-1) then (some false) else ((bytes_IndexByte.f l1 0).bind fun t440 => (if t440 > (-1) then (if 0 ≤ t440 then (if t440 ≤ (l1.length : Int) then (bsoncore_Element_CompareKey.j0 k l0 (l1.take (t440 : Int).toNat) t439) else (none)) else (none)) else (bsoncore_Element_CompareKey.j0 k l0 l1 t439))))) else (none))
theorem bsoncore_Element_CompareKey.mono_l : ∀ k, (∀ y0 y1 y2, LeO (bsoncore_Element_CompareKey.j0 k y0 y1 y2) (bsoncore_Element_CompareKey.j0 (k + 1) y0 y1 y2))
  | 0 => fun _ _ _ r h => by simp [bsoncore_Element_CompareKey.j0] at h
  | k + 1 => by
    have ih0 := bsoncore_Element_CompareKey.mono_l k
    · intro y0 y1 y2
      unfold bsoncore_Element_CompareKey.j0
      repeat' first
      | (with_reducible exact ih0 _ _ _)
      | (with_reducible exact LeO.refl _)
      | (with_reducible exact LeO.none _)
      | (with_reducible refine LeO.ite ?_ ?_)
      | (with_reducible refine LeO.bind ?_ (fun _ => ?_))
      | exact ih0 _ _ _
      | exact LeO.none _
      | refine LeO.ite ?_ ?_
      | refine LeO.bind ?_ (fun _ => ?_)
theorem bsoncore_Element_CompareKey.mono : ∀ a0 a1 k, LeO (bsoncore_Element_CompareKey.f k a0 a1) (bsoncore_Element_CompareKey.f (k + 1) a0 a1) := by
  intro a0 a1 k
  have ih0 := bsoncore_Element_CompareKey.mono_l k
  unfold bsoncore_Element_CompareKey.f
  repeat' first
      | (with_reducible exact ih0 _ _ _)
      | (with_reducible exact LeO.refl _)
      | (with_reducible exact LeO.none _)
      | (with_reducible refine LeO.ite ?_ ?_)
      | (with_reducible refine LeO.bind ?_ (fun _ => ?_))
      | exact ih0 _ _ _
      | exact LeO.none _
      | refine LeO.ite ?_ ?_
      | refine LeO.bind ?_ (fun _ => ?_)
set_option maxHeartbeats 8000000 in
set_option maxRecDepth 100000 in
theorem bsoncore_Element_CompareKey.calls (k : Nat) (A0 : Option Addr) (c0 : Nat) (l0 : List Int) (P1_ : Nat → Prop) (A1 : Option Addr) (c1 : Nat) (l1 : List Int) (r : Bool) (w : World) (hr0 : Kd.C (Kd.int .u8) w A0 l0.length l0) (hc0 : l0.length ≤ c0) (hs1 : Kd.V (Kd.int .u8) 5 w w.heap.size (fun k_ => P1_ k_) (.slice A1 l1.length c1) l1) (h : bsoncore_Element_CompareKey.f k l0 l1 = some r) :
    Calls Tryd.prog 33 #[.slice A0 l0.length c0, .slice A1 l1.length c1] w fun e w' => e = .returned (.bool r) ∧ Below w.heap.size w w' := by
  have HR0 := Aside0.mk hr0
  have HC0 := Aside0.mk hc0
  clear hr0 hc0
  have HO1 := Aside0.mk (show Kd.V (Kd.int .u8) 5 w w.heap.size (fun k_ => (P1_ k_ ∨ w.heap.size ≤ k_)) (.slice A1 l1.length c1) l1 from Kd.V_mono hs1 (fun k_ hk => .inl hk))
  have HB := Aside0.mk (Below.refl w.heap.size w)
  have H : (if (l0.length : Int) < 2 then (some false) else (if 1 ≤ (l0.length : Int) then ((bytes_IndexByte.f (l0.drop 1) 0).bind fun t439 => (if t439 = (-1) then (some false) else ((bytes_IndexByte.f l1 0).bind fun t440 => (if t440 > (-1) then (if 0 ≤ t440 then (if t440 ≤ (l1.length : Int) then (bsoncore_Element_CompareKey.j0 k l0 (l1.take (t440 : Int).toNat) t439) else (none)) else (none)) else (bsoncore_Element_CompareKey.j0 k l0 l1 t439))))) else (none))) = some r := h
  clear h
  by_cases c3 : (l0.length : Int) < 2
  · rw [if_pos c3] at H
    have c3b0 : decide ((l0.length : Int) < 2) = true := decide_eq_true c3
    have c3b1 : decide (l0.length < 2) = true := decide_eq_true (by omega)
    clear c3
    as_aux_lemma =>
      obtain rfl := Option.some.inj H
      go_enter Tryd.func33, Tryd.ntmps33
      go_wp2
      go_ret
      exact ⟨by first | rfl | (simp [errW_none, errW_some] <;> rfl) | (simp [*, errW_none, errW_some] <;> rfl), by repeat (first | (with_reducible first | exact HB.out | apply below_alloc | apply pw_below_drewN | apply below_drew1) | exact HB.out)⟩
  · rw [if_neg c3] at H
    have c3b0 : decide ((l0.length : Int) < 2) = false := decide_eq_false c3
    have c3b1 : decide (l0.length < 2) = false := decide_eq_false (by omega)
    clear c3
    by_cases c4 : 1 ≤ (l0.length : Int)
    · rw [if_pos c4] at H
      have c4b0 := eq_true c4
      have c4b1 : decide (1 ≤ (l0.length : Int)) = true := decide_eq_true c4
      clear c4
      replace H := Option.bind_eq_some_iff.mp H
      obtain ⟨t439, A50, H⟩ := H
      replace H : (if t439 = (-1) then (some false) else ((bytes_IndexByte.f l1 0).bind fun t440 => (if t440 > (-1) then (if 0 ≤ t440 then (if t440 ≤ (l1.length : Int) then (bsoncore_Element_CompareKey.j0 k l0 (l1.take (t440 : Int).toNat) t439) else (none)) else (none)) else (bsoncore_Element_CompareKey.j0 k l0 l1 t439)))) = some r := H
      have A5 := Aside0.mk A50
      clear A50
      by_cases c6 : t439 = (-1)
      · rw [if_pos c6] at H
        have c6b0 : (t439 == (-1)) = true := beq_iff_eq.mpr c6
        have c6b1 : (t439 != (-1)) = false := bne_eq_false_iff_eq.mpr c6
        clear c6
        as_aux_lemma =>
          obtain rfl := Option.some.inj H
          obtain ⟨i07, hi07, _, hsz7, _⟩ := info_parts info5
          obtain ⟨A7, hcut7, hA7, hC7⟩ := print_drop_of (P := Tryd.prog) (Value.int .u8) 0 57 5 .i64 Tryd.underlying57 hi07 hsz7 A0 c0 l0 1 (by omega) (of_decide_eq_true (by first | (with_reducible assumption) | assumption)) HC0.out
          have HR438 := Aside0.mk (Kd.C_of_reads (h1 := fun _ => rfl) (hA7 _ (Kd.reads_of_C HR0.out)))
          have HC438 := Aside0.mk hC7
          clear hA7 hC7 hi07 hsz7
          go_enter Tryd.func33, Tryd.ntmps33
          go_wp2_with (first | ((with_reducible refine gate_callee (f := 39) rfl ?_); refine goesL_ (some 12) rfl rfl Tryd.func39 (by kernel_rfl) rfl #[.slice A7 (l0.drop 1).length (c0 - 1), .int .u8 0] rfl (by (try simp only [List.map_toArray, List.map_cons, List.map_nil]); first | done | (rw [show (l0.drop 1).length = (l0.length - 1) from List.length_drop] <;> rfl) | rfl | (simp only [List.length_drop, List.length_take]; rfl)) ?_; (with_reducible refine (bytes_IndexByte.calls _ _ (l0.drop 1) 0 t439 _ ?side1 ?side2 A5.out).mono ?_); (case side1 => repeat (first | exact HR438.out | (with_reducible refine Kd.C_alloc ?_ _) | (with_reducible refine Kd.C_drewN ?_ _) | (with_reducible refine Kd.C_drew ?_))); (case side2 => exact HC438.out); rintro e w' ⟨rfl, ⟨nd, rfl⟩⟩; refine ⟨_, rfl, ?_⟩))
          go_ret
          exact ⟨by first | rfl | (simp [errW_none, errW_some] <;> rfl) | (simp [*, errW_none, errW_some] <;> rfl), by repeat (first | (with_reducible first | exact HB.out | apply below_alloc | apply pw_below_drewN | apply below_drew1) | exact HB.out)⟩
      · rw [if_neg c6] at H
        have c6b0 : (t439 == (-1)) = false := beq_eq_false_iff_ne.mpr c6
        have c6b1 : (t439 != (-1)) = true := bne_iff_ne.mpr c6
        replace H := Option.bind_eq_some_iff.mp H
        obtain ⟨t440, A80, H⟩ := H
        replace H : (if t440 > (-1) then (if 0 ≤ t440 then (if t440 ≤ (l1.length : Int) then (bsoncore_Element_CompareKey.j0 k l0 (l1.take (t440 : Int).toNat) t439) else (none)) else (none)) else (bsoncore_Element_CompareKey.j0 k l0 l1 t439)) = some r := H
        have A8 := Aside0.mk A80
        clear A80
        have HC9 := Aside0.mk H
        clear H
        obtain ⟨i010, hi010, _, hsz10, _⟩ := info_parts info5
        obtain ⟨A10, hcut10, hA10, hC10⟩ := print_drop_of (P := Tryd.prog) (Value.int .u8) 0 57 5 .i64 Tryd.underlying57 hi010 hsz10 A0 c0 l0 1 (by omega) (of_decide_eq_true (by first | (with_reducible assumption) | assumption)) HC0.out
        have HR438 := Aside0.mk (Kd.C_of_reads (h1 := fun _ => rfl) (hA10 _ (Kd.reads_of_C HR0.out)))
        have HC438 := Aside0.mk hC10
        clear hA10 hC10 hi010 hsz10
        go_enter Tryd.func33, Tryd.ntmps33
        go_upto_if 18 with (first | ((with_reducible refine gate_callee (f := 39) rfl ?_); refine goesL_ (some 12) rfl rfl Tryd.func39 (by kernel_rfl) rfl #[.slice A10 (l0.drop 1).length (c0 - 1), .int .u8 0] rfl (by (try simp only [List.map_toArray, List.map_cons, List.map_nil]); first | done | (rw [show (l0.drop 1).length = (l0.length - 1) from List.length_drop] <;> rfl) | rfl | (simp only [List.length_drop, List.length_take]; rfl)) ?_; (with_reducible refine (bytes_IndexByte.calls _ _ (l0.drop 1) 0 t439 _ ?side1 ?side2 A5.out).mono ?_); (case side1 => repeat (first | exact HR438.out | (with_reducible refine Kd.C_alloc ?_ _) | (with_reducible refine Kd.C_drewN ?_ _) | (with_reducible refine Kd.C_drew ?_))); (case side2 => exact HC438.out); rintro e w' ⟨rfl, ⟨nd, rfl⟩⟩; refine ⟨_, rfl, ?_⟩) | ((with_reducible refine gate_callee (f := 39) rfl ?_); refine goesL_ (some 16) rfl rfl Tryd.func39 (by kernel_rfl) rfl #[.slice A1 l1.length c1, .int .u8 0] rfl (by (try simp only [List.map_toArray, List.map_cons, List.map_nil]); first | done | rfl | (simp only [List.length_drop, List.length_take]; rfl)) ?_; (with_reducible refine (bytes_IndexByte.calls _ _ l1 0 t440 _ ?side1 ?side2 A8.out).mono ?_); (case side1 => repeat (first | exact (Kd.V_reads' HO1.out).2.2 | (with_reducible refine Kd.C_alloc ?_ _) | (with_reducible refine Kd.C_drewN ?_ _) | (with_reducible refine Kd.C_drew ?_))); (case side2 => exact (Kd.V_reads' HO1.out).2.1); rintro e w' ⟨rfl, ⟨nd, rfl⟩⟩; refine ⟨_, rfl, ?_⟩))
        (try simp only [Act.put, List.setIfInBounds_toArray, List.set_cons_zero, List.set_cons_succ])
        go_cut [1] (fun v1 wc => ∃ (kq : Nat) (x1_8 : List Int), Aside0 (bsoncore_Element_CompareKey.j0 kq l0 x1_8 t439 = some r) ∧ Aside0 (kq ≤ k) ∧ Aside0 (Kd.V (Kd.int .u8) 5 wc w.heap.size (fun k_ => (P1_ k_ ∨ w.heap.size ≤ k_)) v1 x1_8) ∧ Aside0 (Below w.heap.size w wc))
        case first =>
          have H := HC9.out
          clear HC9
          by_cases c11 : t440 > (-1)
          · rw [if_pos c11] at H
            have c11b0 : decide ((-1) < t440) = true := decide_eq_true c11
            clear c11
            (first | rw [c11b0] | (simp only [i64_w, i32_w]; rw [c11b0]) | skip)
            by_cases c12 : 0 ≤ t440
            · rw [if_pos c12] at H
              have c12b0 := eq_true c12
              have c12b1 : decide (0 ≤ t440) = true := decide_eq_true c12
              clear c12
              by_cases c13 : t440 ≤ (l1.length : Int)
              · rw [if_pos c13] at H
                have c13b0 := eq_true c13
                have c13b1 : decide (t440 ≤ (l1.length : Int)) = true := decide_eq_true c13
                clear c13
                obtain ⟨y441, hy441⟩ : ∃ y_ : List Int, y_ = (l1.take (t440 : Int).toNat) := ⟨_, rfl⟩
                replace H : (bsoncore_Element_CompareKey.j0 k l0 y441 t439) = some r := by first | (rw [hy441]; with_reducible exact H) | (have H2_ := (Option.bind_some _ _).symm.trans H; rw [hy441]; with_reducible exact H2_) | (have H2_ := (Option.bind_some _ _).symm.trans H; with_reducible exact H2_) | with_reducible exact H | (rw [hy441]; exact H) | exact H
                have Ny441 := Aside0.mk hy441
                clear hy441
                as_aux_lemma =>
                  have H' := Aside0.mk H
                  clear H
                  have q14 : (t440 : Int) ≤ ((l1.length : Int) : Int) := of_decide_eq_true (by first | (with_reducible assumption) | assumption)
                  obtain ⟨i014, hi014, _, hsz14, _⟩ := info_parts info5
                  have hroom14 : l1.length ≤ c1 := (Kd.V_reads' HO1.out).2.1
                  have hC14 : Kd.F (Kd.int .u8) _ _ A1 l1.length l1 := (Kd.V_at (base := w.heap.size) HO1.out).2.2
                  have hcut14 := cut_to (P := Tryd.prog) 23 5 .i64 Tryd.underlying23 hi014 A1 l1.length c1 t440 (of_decide_eq_true (by first | (with_reducible assumption) | assumption)) q14 hroom14
                  have hr14 := Kd.F_take (m := (t440 : Int).toNat) hC14 (by omega)
                  have hy14 : y441.length = (t440 : Int).toNat := (by rw [Ny441.out, List.length_take]; omega)
                  rw [← Ny441.out] at hr14
                  rw [← hy14] at hcut14
                  have HO445 := Aside0.mk (show Kd.V (Kd.int .u8) 5 _ w.heap.size _ (.slice A1 y441.length c1) y441 from Kd.V_mk (by omega) hr14)
                  have HC445 := Aside0.mk (show y441.length ≤ c1 from by omega)
                  clear hr14 hC14 hroom14 hi014 hsz14
                  have KY14 := Aside0.mk hy14
                  clear hy14
                  replace q14 := eq_true q14
                  go_wp2
                  go_meet
                  case rel => exact ⟨_, (y441), H', ⟨by first | omega | exact Nat.le_refl _⟩, ⟨by (with_reducible repeat (first | apply Kd.V_alloc | apply Kd.V_drewN | apply Kd.V_drew)); exact HO445.out⟩, ⟨by repeat (first | (with_reducible first | exact HB.out | apply below_alloc | apply pw_below_drewN | apply below_drew1) | exact HB.out)⟩⟩
              · rw [if_neg c13] at H
                exact absurd H (by simp)
            · rw [if_neg c12] at H
              exact absurd H (by simp)
          · rw [if_neg c11] at H
            have c11b0 : decide ((-1) < t440) = false := decide_eq_false c11
            clear c11
            (first | rw [c11b0] | (simp only [i64_w, i32_w]; rw [c11b0]) | skip)
            as_aux_lemma =>
              have H' := Aside0.mk H
              clear H
              go_wp2
              go_meet
              case rel => exact ⟨_, (l1), H', ⟨by first | omega | exact Nat.le_refl _⟩, ⟨by (with_reducible repeat (first | apply Kd.V_alloc | apply Kd.V_drewN | apply Kd.V_drew)); exact HO1.out⟩, ⟨by repeat (first | (with_reducible first | exact HB.out | apply below_alloc | apply pw_below_drewN | apply below_drew1) | exact HB.out)⟩⟩
        case rest =>
          clear HC9
          try clear c1
          try clear q1
          try clear p2
          try clear c3
          try clear c3b0
          try clear c3b1
          try clear c4
          try clear c4b0
          try clear c4b1
          try clear c6
          try clear c6b0
          try clear c6b1
          try clear c11
          try clear c11b0
          try clear c12
          try clear c12b0
          try clear c12b1
          try clear c13
          try clear c13b0
          try clear c13b1
          try clear q14
          try clear q14
          obtain ⟨kq, x1_8, HA, HJ8, HO_1, HB⟩ := hcut
          cases kq with
          | zero => exact absurd HA.out (by simp [bsoncore_Element_CompareKey.j0])
          | succ kj8 =>
            have H := HA.out
            clear HA
            simp only [bsoncore_Element_CompareKey.j0] at H
            by_cases c15 : 1 ≤ (wrap64 (t439 + 1))
            · rw [if_pos c15] at H
              have c15b0 := eq_true c15
              have c15b1 : decide (1 ≤ (wrap64 (t439 + 1))) = true := decide_eq_true c15
              by_cases c16 : (wrap64 (t439 + 1)) ≤ (l0.length : Int)
              · rw [if_pos c16] at H
                have c16b0 := eq_true c16
                have c16b1 : decide ((wrap64 (t439 + 1)) ≤ (l0.length : Int)) = true := decide_eq_true c16
                replace H := Option.bind_eq_some_iff.mp H
                obtain ⟨t447, A170, H⟩ := H
                replace H : (some t447) = some r := H
                have A17 := Aside0.mk A170
                clear A170
                as_aux_lemma =>
                  obtain rfl := Option.some.inj H
                  obtain ⟨i018, hi018, _, hsz18, _⟩ := info_parts info5
                  obtain ⟨A18, hcut18, hA18, hC18⟩ := print_mid_of (P := Tryd.prog) (Value.int .u8) 0 57 5 .i64 .i64 Tryd.underlying57 hi018 hsz18 A0 c0 l0 1 (wrap64 (t439 + 1)) (by omega) (by first | omega | exact of_decide_eq_true (by first | (with_reducible assumption) | assumption)) (of_decide_eq_true (by first | (with_reducible assumption) | assumption)) HC0.out
                  have HR446 := Aside0.mk (Kd.C_of_reads (h1 := fun _ => rfl) (hA18 _ (Kd.reads_of_C HR0.out)))
                  have HC446 := Aside0.mk hC18
                  clear hA18 hC18 hi018 hsz18
                  obtain ⟨Ao19, co19, eo19⟩ := Kd.V_slice HO_1.out
                  subst eo19
                  go_wp2_with (first | ((with_reducible refine gate_callee (f := 42) rfl ?_); refine goesL_ (some 27) rfl rfl Tryd.func42 (by kernel_rfl) rfl #[.slice A18 ((l0.take ((wrap64 (t439 + 1)) : Int).toNat).drop 1).length (c0 - 1), .slice Ao19 x1_8.length co19] rfl (by (try simp only [List.map_toArray, List.map_cons, List.map_nil]); first | done | (rw [show ((l0.take ((wrap64 (t439 + 1)) : Int).toNat).drop 1).length = ((wrap64 (t439 + 1)).toNat - 1) from (by rw [List.length_drop, List.length_take]; have h_ : ((wrap64 (t439 + 1)) : Int) ≤ (l0.length : Int) := of_decide_eq_true (by first | (with_reducible assumption) | assumption); omega)] <;> rfl) | rfl | (simp only [List.length_drop, List.length_take]; rfl)) ?_; (with_reducible refine (bytes_Equal.calls _ _ ((l0.take ((wrap64 (t439 + 1)) : Int).toNat).drop 1) _ _ x1_8 t447 _ ?side1 ?side2 ?side3 ?side4 A17.out).mono ?_); (case side1 => repeat (first | exact (Kd.C_below HR446.out HB.out) | (with_reducible refine Kd.C_alloc ?_ _) | (with_reducible refine Kd.C_drewN ?_ _) | (with_reducible refine Kd.C_drew ?_))); (case side2 => exact HC446.out); (case side3 => repeat (first | exact (Kd.V_reads' HO_1.out).2.2 | (with_reducible refine Kd.C_alloc ?_ _) | (with_reducible refine Kd.C_drewN ?_ _) | (with_reducible refine Kd.C_drew ?_))); (case side4 => exact (Kd.V_reads' HO_1.out).2.1); rintro e w' ⟨rfl, ⟨nd, rfl⟩⟩; refine ⟨_, rfl, ?_⟩))
                  go_ret
                  exact ⟨by first | rfl | (simp [errW_none, errW_some] <;> rfl) | (simp [*, errW_none, errW_some] <;> rfl), by repeat (first | (with_reducible first | exact HB.out | apply below_alloc | apply pw_below_drewN | apply below_drew1) | exact HB.out)⟩
              · rw [if_neg c16] at H
                exact absurd H (by simp)
            · rw [if_neg c15] at H
              exact absurd H (by simp)
    · rw [if_neg c4] at H
      exact absurd H (by simp)

/-! ### impl_CompareKey: function 14 -/
def impl_CompareKey.f (k : Nat) (l0 : List Int) (l1 : List Int) : Option (Bool) := (bsoncore_Element_CompareKey.f k l0 l1).bind fun t448 => (some t448)
theorem impl_CompareKey.mono : ∀ a0 a1 k, LeO (impl_CompareKey.f k a0 a1) (impl_CompareKey.f (k + 1) a0 a1) := by
  intro a0 a1 k
  unfold impl_CompareKey.f
  repeat' first
      | (with_reducible exact bsoncore_Element_CompareKey.mono _ _ _)
      | (with_reducible exact LeO.refl _)
      | (with_reducible exact LeO.none _)
      | (with_reducible refine LeO.ite ?_ ?_)
      | (with_reducible refine LeO.bind ?_ (fun _ => ?_))
      | exact bsoncore_Element_CompareKey.mono _ _ _
      | exact LeO.none _
      | refine LeO.ite ?_ ?_
      | refine LeO.bind ?_ (fun _ => ?_)
set_option maxHeartbeats 8000000 in
set_option maxRecDepth 100000 in
theorem impl_CompareKey.calls (k : Nat) (A0 : Option Addr) (c0 : Nat) (l0 : List Int) (A1 : Option Addr) (c1 : Nat) (l1 : List Int) (r : Bool) (w : World) (hr0 : Kd.C (Kd.int .u8) w A0 l0.length l0) (hc0 : l0.length ≤ c0) (hr1 : Kd.C (Kd.int .u8) w A1 l1.length l1) (hc1 : l1.length ≤ c1) (h : impl_CompareKey.f k l0 l1 = some r) :
    Calls Tryd.prog 14 #[.slice A0 l0.length c0, .slice A1 l1.length c1] w fun e w' => e = .returned (.bool r) ∧ Below w.heap.size w w' := by
  have HR0 := Aside0.mk hr0
  have HC0 := Aside0.mk hc0
  clear hr0 hc0
  have HR1 := Aside0.mk hr1
  have HC1 := Aside0.mk hc1
  clear hr1 hc1
  have HB := Aside0.mk (Below.refl w.heap.size w)
  have H : ((bsoncore_Element_CompareKey.f k l0 l1).bind fun t448 => (some t448)) = some r := h
  clear h
  replace H := Option.bind_eq_some_iff.mp H
  obtain ⟨t448, A30, H⟩ := H
  replace H : (some t448) = some r := H
  have A3 := Aside0.mk A30
  clear A30
  as_aux_lemma =>
    obtain rfl := Option.some.inj H
    go_enter Tryd.func14, Tryd.ntmps14
    go_wp2_with (first | ((with_reducible refine gate_callee (f := 33) rfl ?_); refine goesL_ (some 7) rfl rfl Tryd.func33 (by kernel_rfl) rfl #[.slice A0 l0.length c0, .slice A1 l1.length c1] rfl (by (try simp only [List.map_toArray, List.map_cons, List.map_nil]); first | done | rfl | (simp only [List.length_drop, List.length_take]; rfl)) ?_; (with_reducible refine (bsoncore_Element_CompareKey.calls k _ _ l0 (fun k_ => k_ < w.heap.size) _ _ l1 t448 _ ?side1 ?side2 ?side3 A3.out).mono ?_); (case side1 => repeat (first | exact HR0.out | (with_reducible refine Kd.C_alloc ?_ _) | (with_reducible refine Kd.C_drewN ?_ _) | (with_reducible refine Kd.C_drew ?_))); (case side2 => exact HC0.out); (case side3 => exact Kd.V_mk HC1.out (Kd.F_below (Kd.C_F (Kd.heap_int .u8) HR1.out) (by repeat (first | (with_reducible first | exact HB.out | apply below_alloc | apply pw_below_drewN | apply below_drew1) | exact HB.out)))); rintro e w4 ⟨rfl, hb⟩; refine ⟨_, rfl, ?_⟩; have n0_ := Aside0.mk (below_step (by repeat (first | (with_reducible first | exact HB.out | apply below_alloc | apply pw_below_drewN | apply below_drew1) | exact HB.out)) hb); clear HB; have HB := n0_; clear n0_; (try clear hb); (try clear hb2); (try clear hk); (try clear hi)))
    go_ret
    exact ⟨by first | rfl | (simp [errW_none, errW_some] <;> rfl) | (simp [*, errW_none, errW_some] <;> rfl), by repeat (first | (with_reducible first | exact HB.out | apply below_alloc | apply pw_below_drewN | apply below_drew1) | exact HB.out)⟩

-- NOT PRINTED: function 3 (laws_FnDocElement)

end Go.Proofs.YtndpbbgniflckaaDoor.PEl
