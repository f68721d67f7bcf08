import Derived.Test.YtbfhpjkahobgnaaGreatDoorPIxx0
import Derived.Test.YtbfhpjkahobgnaaGreatDoorPIxx1
import Derived.Test.YtbfhpjkahobgnaaGreatDoorPIxx2
namespace Go.Proofs.YtbfhpjkahobgnaaGreatDoor.PIx
open Go.Proofs.YtbfhpjkahobgnaaGreatDoor.HW (tt ff)
open Go.RowKit Go.Proofs.YtbfhpjkahobgnaaGreatDoorW.PrintWords Go.Proofs.YtbfhpjkahobgnaaGreatDoorW.PrintLast Go.Proofs.YtbfhpjkahobgnaaGreatDoorW.PrintMore
attribute [local go_sem] max2_int min2_int max_two min_two max_three min_three max_four min_four
set_option linter.unusedVariables false
set_option maxHeartbeats 8000000
set_option maxRecDepth 100000
set_option linter.unusedSimpArgs false
mutual
def spec_DocSpan.j0 : Nat → Int → List Int → Int → Bool → Int → Bool → Option (Int × Bool)
  | 0, _, _, _, _, _, _ => none
  | k + 1, x0, x1, x6, x7, x13, x14 => if x14 = true then (if x7 = true then (if x6 ≥ 0 then (some (wrap64 (4 + x6), decide ((x1.length : Int) ≥ (wrap64 (4 + x6))))) else (some (wrap64 (4 + x6), false))) else (some (wrap64 (4 + x6), false))) else (if x13 = 3 then (spec_DocSpan.j1 k x0 x1 x6 x7 x13 (x13 == 3)) else (if x13 = 4 then (spec_DocSpan.j1 k x0 x1 x6 x7 x13 (x13 == 4)) else (spec_DocSpan.j1 k x0 x1 x6 x7 x13 (x13 == 15))))
def spec_DocSpan.j1 : Nat → Int → List Int → Int → Bool → Int → Bool → Option (Int × Bool)
  | 0, _, _, _, _, _, _ => none
  | k + 1, x0, x1, x6, x7, x13, x32 => if x32 = true then (if x7 = true then (if x6 ≥ 0 then (some (x6, decide ((x1.length : Int) ≥ x6))) else (some (x6, false))) else (some (x6, false))) else (if x13 = 12 then (if x7 = true then (if x6 ≥ 0 then (some (wrap64 (16 + x6), decide ((x1.length : Int) ≥ (wrap64 (16 + x6))))) else (some (wrap64 (16 + x6), false))) else (some (wrap64 (16 + x6), false))) else ((spec_DocLen.f k x0 x1).bind fun bt121 => (some (bt121.1, bt121.2))))
end
def spec_DocSpan.f (k : Nat) (a0 : Int) (l1 : List Int) : Option (Int × Bool) := (spec_DocNumber.f l1).bind fun bt119 => (if a0 = 2 then (spec_DocSpan.j0 k a0 l1 bt119.1 bt119.2 a0 (a0 == 2)) else (if a0 = 13 then (spec_DocSpan.j0 k a0 l1 bt119.1 bt119.2 a0 (a0 == 13)) else (spec_DocSpan.j0 k a0 l1 bt119.1 bt119.2 a0 (a0 == 14))))
theorem spec_DocSpan.mono_l : ∀ k, (∀ y0 y1 y2 y3 y4 y5, LeO (spec_DocSpan.j0 k y0 y1 y2 y3 y4 y5) (spec_DocSpan.j0 (k + 1) y0 y1 y2 y3 y4 y5)) ∧ (∀ y0 y1 y2 y3 y4 y5, LeO (spec_DocSpan.j1 k y0 y1 y2 y3 y4 y5) (spec_DocSpan.j1 (k + 1) y0 y1 y2 y3 y4 y5))
  | 0 => ⟨fun _ _ _ _ _ _ r h => by simp [spec_DocSpan.j0] at h, fun _ _ _ _ _ _ r h => by simp [spec_DocSpan.j1] at h⟩
  | k + 1 => by
    obtain ⟨ih0, ih1⟩ := spec_DocSpan.mono_l k
    refine ⟨?_, ?_⟩
    · intro y0 y1 y2 y3 y4 y5
      unfold spec_DocSpan.j0
      have m0_ := @ih0; have m1_ := @ih1; have m2_ := @spec_DocLen.mono; exact HW.mo
    · intro y0 y1 y2 y3 y4 y5
      unfold spec_DocSpan.j1
      have m0_ := @ih0; have m1_ := @ih1; have m2_ := @spec_DocLen.mono; exact HW.mo
theorem spec_DocSpan.mono : ∀ a0 a1 k, LeO (spec_DocSpan.f k a0 a1) (spec_DocSpan.f (k + 1) a0 a1) := by
  intro a0 a1 k
  obtain ⟨ih0, ih1⟩ := spec_DocSpan.mono_l k
  unfold spec_DocSpan.f
  have m0_ := @ih0; have m1_ := @ih1; have m2_ := @spec_DocLen.mono; exact HW.mo
theorem spec_DocSpan.calls (k : Nat) (a0 : Int) (A1 : Option Addr) (c1 : Nat) (l1 : List Int) (r1 : Int) (r2 : Bool) (w : World) (hr1 : Kd.C (Kd.int .u8) w A1 l1.length l1) (hc1 : l1.length ≤ c1) (h : spec_DocSpan.f k a0 l1 = some (r1, r2)) :
    Calls Tryz.prog 30 #[.int .i64 a0, .slice A1 l1.length c1] w fun e w' => e = .returned (.tuple #[.int .i64 r1, .bool r2]) ∧ Drawn0 w w' := by
  have HR1 := Aside0.mk hr1; have HC1 := Aside0.mk hc1; clear hr1 hc1; have H : ((spec_DocNumber.f l1).bind fun bt119 => (if a0 = 2 then (spec_DocSpan.j0 k a0 l1 bt119.1 bt119.2 a0 (a0 == 2)) else (if a0 = 13 then (spec_DocSpan.j0 k a0 l1 bt119.1 bt119.2 a0 (a0 == 13)) else (spec_DocSpan.j0 k a0 l1 bt119.1 bt119.2 a0 (a0 == 14))))) = some (r1, r2) := h; clear h; replace H := Option.bind_eq_some_iff.mp H; obtain ⟨⟨t119, t120⟩, A30, H⟩ := H; replace H : (if a0 = 2 then (spec_DocSpan.j0 k a0 l1 t119 t120 a0 (a0 == 2)) else (if a0 = 13 then (spec_DocSpan.j0 k a0 l1 t119 t120 a0 (a0 == 13)) else (spec_DocSpan.j0 k a0 l1 t119 t120 a0 (a0 == 14)))) = some (r1, r2) := H; have A3 := Aside0.mk A30; clear A30; have HC4 := Aside0.mk H; clear H
  go_enter Tryz.func30, Tryz.ntmps30
  go_upto_if 14 with (first | ((with_reducible refine gate_callee (f := 39) rfl ?_); refine HW.gz (some 10) rfl rfl Tryz.func39 (by kernel_rfl) rfl #[.slice A1 l1.length c1] rfl ?_; (with_reducible refine (spec_DocNumber.calls _ _ l1 t119 t120 _ ?side1 ?side2 A3.out).mono ?_); (case side1 => repeat (first | exact HR1.out | (with_reducible refine Kd.C_alloc ?_ _) | (with_reducible refine Kd.C_drewN ?_ _) | (with_reducible refine Kd.C_drew ?_))); (case side2 => exact HC1.out); rintro e w' ⟨rfl, ⟨nd, rfl⟩⟩; refine ⟨_, rfl, ?_⟩))
  (try simp only [Act.put, List.setIfInBounds_toArray, List.set_cons_zero, List.set_cons_succ])
  go_cut [14] (fun v14 wc => ∃ (kq : Nat) (x14_3 : Bool), v14 = .bool x14_3 ∧ Aside0 (spec_DocSpan.j0 kq a0 l1 t119 t120 a0 x14_3 = some (r1, r2)) ∧ Aside0 (kq ≤ k) ∧ Drawn0 w wc)
  case first =>
    have H := HC4.out; clear HC4
    by_cases c5 : a0 = 2
    · rw [if_pos c5] at H
      have c5b0 : (a0 == 2) = true := beq_iff_eq.mpr c5; have c5b1 : (a0 != 2) = false := bne_eq_false_iff_eq.mpr c5; clear c5
      (first | rw [c5b0] | (simp only [i64_w, i32_w]; rw [c5b0]) | skip)
      as_aux_lemma =>
        have H' := Aside0.mk H; clear H
        go_wp2
        go_meet
        case rel => exact ⟨_, ((a0 == 2)), HW.rs, H', ⟨by first | omega | exact Nat.le_refl _⟩, by repeat (first | exact Drawn0.refl _ | apply Drawn0.step)⟩
    rw [if_neg c5] at H; have c5b0 : (a0 == 2) = false := beq_eq_false_iff_ne.mpr c5; have c5b1 : (a0 != 2) = true := bne_iff_ne.mpr c5
    (first | rw [c5b0] | (simp only [i64_w, i32_w]; rw [c5b0]) | skip)
    by_cases c6 : a0 = 13
    · rw [if_pos c6] at H
      have c6b0 : (a0 == 13) = true := beq_iff_eq.mpr c6; have c6b1 : (a0 != 13) = false := bne_eq_false_iff_eq.mpr c6; clear c6
      as_aux_lemma =>
        have H' := Aside0.mk H; clear H
        go_wp2
        go_meet
        case rel => exact ⟨_, ((a0 == 13)), HW.rs, H', ⟨by first | omega | exact Nat.le_refl _⟩, by repeat (first | exact Drawn0.refl _ | apply Drawn0.step)⟩
    rw [if_neg c6] at H; have c6b0 : (a0 == 13) = false := beq_eq_false_iff_ne.mpr c6; have c6b1 : (a0 != 13) = true := bne_iff_ne.mpr c6
    as_aux_lemma =>
      have H' := Aside0.mk H; clear H
      go_wp2
      go_meet
      case rel => exact ⟨_, ((a0 == 14)), HW.rs, H', ⟨by first | omega | exact Nat.le_refl _⟩, by repeat (first | exact Drawn0.refl _ | apply Drawn0.step)⟩
  case rest =>
    clear HC4
    (try clear c1); (try clear p2); (try clear c3); (try clear c5); (try clear c5b0); (try clear c5b1); (try clear c6); (try clear c6b0); (try clear c6b1)
    obtain ⟨kq, x14_3, rfl, HA, HJ3, ⟨mc3, rfl⟩⟩ := hcut
    cases kq with
    | zero => exact absurd HA.out (by simp [spec_DocSpan.j0])
    | succ kj3 =>
      have H := HA.out; clear HA
      simp only [spec_DocSpan.j0] at H
      by_cases c7 : x14_3 = true
      · subst c7
        have H1 : (if t120 = true then (if t119 ≥ 0 then (some (wrap64 (4 + t119), decide ((l1.length : Int) ≥ (wrap64 (4 + t119))))) else (some (wrap64 (4 + t119), false))) else (some (wrap64 (4 + t119), false))) = some (r1, r2) := by rw [if_pos rfl] at H; exact H
        clear H; have H := H1; clear H1
        by_cases c8 : t120 = true
        rotate_left
        · replace c8 := Bool.eq_false_iff.mpr c8
          subst c8
          have H1 : (some (wrap64 (4 + t119), false)) = some (r1, r2) := by rw [if_neg (show ¬ (false = true) by decide)] at H; exact H
          clear H; have H := H1; clear H1
          as_aux_lemma =>
            simp only [Option.some.injEq, Prod.mk.injEq] at H
            obtain ⟨rfl, rfl⟩ := H
            go_wp2
            go_ret2
            exact ⟨by first | rfl | (simp; done) | (simp [*]; done), by repeat (first | exact Drawn0.refl _ | apply Drawn0.step)⟩
        subst c8
        have H1 : (if t119 ≥ 0 then (some (wrap64 (4 + t119), decide ((l1.length : Int) ≥ (wrap64 (4 + t119))))) else (some (wrap64 (4 + t119), false))) = some (r1, r2) := by rw [if_pos rfl] at H; exact H
        clear H; have H := H1; clear H1
        by_cases c9 : t119 ≥ 0
        · rw [if_pos c9] at H
          have c9b0 : decide (0 ≤ t119) = true := decide_eq_true c9; clear c9
          as_aux_lemma =>
            simp only [Option.some.injEq, Prod.mk.injEq] at H
            obtain ⟨rfl, rfl⟩ := H
            go_wp2
            go_ret2
            exact ⟨by first | rfl | (simp; done) | (simp [*]; done), by repeat (first | exact Drawn0.refl _ | apply Drawn0.step)⟩
        rw [if_neg c9] at H; have c9b0 : decide (0 ≤ t119) = false := decide_eq_false c9; clear c9
        as_aux_lemma =>
          simp only [Option.some.injEq, Prod.mk.injEq] at H
          obtain ⟨rfl, rfl⟩ := H
          go_wp2
          go_ret2
          exact ⟨by first | rfl | (simp; done) | (simp [*]; done), by repeat (first | exact Drawn0.refl _ | apply Drawn0.step)⟩
      replace c7 := Bool.eq_false_iff.mpr c7; subst c7
      have H1 : (if a0 = 3 then (spec_DocSpan.j1 kj3 a0 l1 t119 t120 a0 (a0 == 3)) else (if a0 = 4 then (spec_DocSpan.j1 kj3 a0 l1 t119 t120 a0 (a0 == 4)) else (spec_DocSpan.j1 kj3 a0 l1 t119 t120 a0 (a0 == 15)))) = some (r1, r2) := by rw [if_neg (show ¬ (false = true) by decide)] at H; exact H
      clear H; have H := H1; clear H1; have HC10 := Aside0.mk H; clear H
      go_upto_if 32 with (fail)
      go_cut [32] (fun v32 wc => ∃ (kq : Nat) (x32_9 : Bool), v32 = .bool x32_9 ∧ Aside0 (spec_DocSpan.j1 kq a0 l1 t119 t120 a0 x32_9 = some (r1, r2)) ∧ Aside0 (kq ≤ kj3) ∧ Drawn0 w wc)
      case first =>
        have H := HC10.out; clear HC10
        by_cases c11 : a0 = 3
        · rw [if_pos c11] at H
          have c11b0 : (a0 == 3) = true := beq_iff_eq.mpr c11; have c11b1 : (a0 != 3) = false := bne_eq_false_iff_eq.mpr c11; clear c11
          (first | rw [c11b0] | (simp only [i64_w, i32_w]; rw [c11b0]) | skip)
          as_aux_lemma =>
            have H' := Aside0.mk H; clear H
            go_wp2
            go_meet
            case rel => exact ⟨_, ((a0 == 3)), HW.rs, H', ⟨by have := HJ3.out; first | omega | exact Nat.le_refl _⟩, by repeat (first | exact Drawn0.refl _ | apply Drawn0.step)⟩
        rw [if_neg c11] at H; have c11b0 : (a0 == 3) = false := beq_eq_false_iff_ne.mpr c11; have c11b1 : (a0 != 3) = true := bne_iff_ne.mpr c11
        (first | rw [c11b0] | (simp only [i64_w, i32_w]; rw [c11b0]) | skip)
        by_cases c12 : a0 = 4
        · rw [if_pos c12] at H
          have c12b0 : (a0 == 4) = true := beq_iff_eq.mpr c12; have c12b1 : (a0 != 4) = false := bne_eq_false_iff_eq.mpr c12; clear c12
          as_aux_lemma =>
            have H' := Aside0.mk H; clear H
            go_wp2
            go_meet
            case rel => exact ⟨_, ((a0 == 4)), HW.rs, H', ⟨by have := HJ3.out; first | omega | exact Nat.le_refl _⟩, by repeat (first | exact Drawn0.refl _ | apply Drawn0.step)⟩
        rw [if_neg c12] at H; have c12b0 : (a0 == 4) = false := beq_eq_false_iff_ne.mpr c12; have c12b1 : (a0 != 4) = true := bne_iff_ne.mpr c12
        as_aux_lemma =>
          have H' := Aside0.mk H; clear H
          go_wp2
          go_meet
          case rel => exact ⟨_, ((a0 == 15)), HW.rs, H', ⟨by have := HJ3.out; first | omega | exact Nat.le_refl _⟩, by repeat (first | exact Drawn0.refl _ | apply Drawn0.step)⟩
      case rest =>
        clear HC10
        (try clear c1); (try clear p2); (try clear c3); (try clear c5); (try clear c5b0); (try clear c5b1); (try clear c6); (try clear c6b0); (try clear c6b1); (try clear p6); (try clear c7); (try clear c8); (try clear c9); (try clear c9b0); (try clear c11); (try clear c11b0); (try clear c11b1); (try clear c12); (try clear c12b0); (try clear c12b1); (try clear p2)
        obtain ⟨kq, x32_9, rfl, HA, HJ9, ⟨mc9, rfl⟩⟩ := hcut
        cases kq with
        | zero => exact absurd HA.out (by simp [spec_DocSpan.j1])
        | succ kj9 =>
          have H := HA.out; clear HA
          simp only [spec_DocSpan.j1] at H
          by_cases c13 : x32_9 = true
          · subst c13
            have H1 : (if t120 = true then (if t119 ≥ 0 then (some (t119, decide ((l1.length : Int) ≥ t119))) else (some (t119, false))) else (some (t119, false))) = some (r1, r2) := by rw [if_pos rfl] at H; exact H
            clear H; have H := H1; clear H1
            by_cases c14 : t120 = true
            rotate_left
            · replace c14 := Bool.eq_false_iff.mpr c14
              subst c14
              have H1 : (some (t119, false)) = some (r1, r2) := by rw [if_neg (show ¬ (false = true) by decide)] at H; exact H
              clear H; have H := H1; clear H1
              as_aux_lemma =>
                simp only [Option.some.injEq, Prod.mk.injEq] at H
                obtain ⟨rfl, rfl⟩ := H
                go_wp2
                go_ret2
                exact ⟨by first | rfl | (simp; done) | (simp [*]; done), by repeat (first | exact Drawn0.refl _ | apply Drawn0.step)⟩
            subst c14
            have H1 : (if t119 ≥ 0 then (some (t119, decide ((l1.length : Int) ≥ t119))) else (some (t119, false))) = some (r1, r2) := by rw [if_pos rfl] at H; exact H
            clear H; have H := H1; clear H1
            by_cases c15 : t119 ≥ 0
            · rw [if_pos c15] at H
              have c15b0 : decide (0 ≤ t119) = true := decide_eq_true c15; clear c15
              as_aux_lemma =>
                simp only [Option.some.injEq, Prod.mk.injEq] at H
                obtain ⟨rfl, rfl⟩ := H
                go_wp2
                go_ret2
                exact ⟨by first | rfl | (simp; done) | (simp [*]; done), by repeat (first | exact Drawn0.refl _ | apply Drawn0.step)⟩
            rw [if_neg c15] at H; have c15b0 : decide (0 ≤ t119) = false := decide_eq_false c15; clear c15
            as_aux_lemma =>
              simp only [Option.some.injEq, Prod.mk.injEq] at H
              obtain ⟨rfl, rfl⟩ := H
              go_wp2
              go_ret2
              exact ⟨by first | rfl | (simp; done) | (simp [*]; done), by repeat (first | exact Drawn0.refl _ | apply Drawn0.step)⟩
          replace c13 := Bool.eq_false_iff.mpr c13; subst c13
          have H1 : (if a0 = 12 then (if t120 = true then (if t119 ≥ 0 then (some (wrap64 (16 + t119), decide ((l1.length : Int) ≥ (wrap64 (16 + t119))))) else (some (wrap64 (16 + t119), false))) else (some (wrap64 (16 + t119), false))) else ((spec_DocLen.f kj9 a0 l1).bind fun bt121 => (some (bt121.1, bt121.2)))) = some (r1, r2) := by rw [if_neg (show ¬ (false = true) by decide)] at H; exact H
          clear H; have H := H1; clear H1
          by_cases c16 : a0 = 12
          rotate_left
          · rw [if_neg c16] at H
            have c16b0 : (a0 == 12) = false := beq_eq_false_iff_ne.mpr c16; have c16b1 : (a0 != 12) = true := bne_iff_ne.mpr c16; replace H := Option.bind_eq_some_iff.mp H; obtain ⟨⟨t121, t122⟩, A190, H⟩ := H; replace H : (some (t121, t122)) = some (r1, r2) := H; have A19 := Aside0.mk A190; clear A190
            as_aux_lemma =>
              simp only [Option.some.injEq, Prod.mk.injEq] at H
              obtain ⟨rfl, rfl⟩ := H
              go_wp2_with (first | ((with_reducible refine gate_callee (f := 69) rfl ?_); refine HW.gz (some 66) rfl rfl Tryz.func69 (by kernel_rfl) rfl #[.int .i64 a0, .slice A1 l1.length c1] rfl ?_; (with_reducible refine (spec_DocLen.calls kj9 a0 _ _ l1 t121 t122 _ ?side1 ?side2 A19.out).mono ?_); (case side1 => repeat (first | exact HR1.out | (with_reducible refine Kd.C_alloc ?_ _) | (with_reducible refine Kd.C_drewN ?_ _) | (with_reducible refine Kd.C_drew ?_))); (case side2 => exact HC1.out); rintro e w' ⟨rfl, ⟨nd, rfl⟩⟩; refine ⟨_, rfl, ?_⟩))
              go_ret2
              exact ⟨by first | rfl | (simp; done) | (simp [*]; done), by repeat (first | exact Drawn0.refl _ | apply Drawn0.step)⟩
          rw [if_pos c16] at H; have c16b0 : (a0 == 12) = true := beq_iff_eq.mpr c16; have c16b1 : (a0 != 12) = false := bne_eq_false_iff_eq.mpr c16; clear c16
          by_cases c17 : t120 = true
          rotate_left
          · replace c17 := Bool.eq_false_iff.mpr c17
            subst c17
            have H1 : (some (wrap64 (16 + t119), false)) = some (r1, r2) := by rw [if_neg (show ¬ (false = true) by decide)] at H; exact H
            clear H; have H := H1; clear H1
            as_aux_lemma =>
              simp only [Option.some.injEq, Prod.mk.injEq] at H
              obtain ⟨rfl, rfl⟩ := H
              go_wp2
              go_ret2
              exact ⟨by first | rfl | (simp; done) | (simp [*]; done), by repeat (first | exact Drawn0.refl _ | apply Drawn0.step)⟩
          subst c17
          have H1 : (if t119 ≥ 0 then (some (wrap64 (16 + t119), decide ((l1.length : Int) ≥ (wrap64 (16 + t119))))) else (some (wrap64 (16 + t119), false))) = some (r1, r2) := by rw [if_pos rfl] at H; exact H
          clear H; have H := H1; clear H1
          by_cases c18 : t119 ≥ 0
          · rw [if_pos c18] at H
            have c18b0 : decide (0 ≤ t119) = true := decide_eq_true c18; clear c18
            as_aux_lemma =>
              simp only [Option.some.injEq, Prod.mk.injEq] at H
              obtain ⟨rfl, rfl⟩ := H
              go_wp2
              go_ret2
              exact ⟨by first | rfl | (simp; done) | (simp [*]; done), by repeat (first | exact Drawn0.refl _ | apply Drawn0.step)⟩
          rw [if_neg c18] at H; have c18b0 : decide (0 ≤ t119) = false := decide_eq_false c18; clear c18
          as_aux_lemma =>
            simp only [Option.some.injEq, Prod.mk.injEq] at H
            obtain ⟨rfl, rfl⟩ := H
            go_wp2
            go_ret2
            exact ⟨by first | rfl | (simp; done) | (simp [*]; done), by repeat (first | exact Drawn0.refl _ | apply Drawn0.step)⟩
def spec_DocFirst.f (k : Nat) (l0 : List Int) : Option (Int × Bool) := if (l0.length : Int) = 0 then (some (0, false)) else (if 1 ≤ (l0.length : Int) then ((spec_DocName.f k (l0.drop 1)).bind fun bt124 => (if bt124.2.2 = true then (if 0 < (l0.length : Int) then (if 0 ≤ (wrap64 (1 + bt124.2.1)) then (if (wrap64 (1 + bt124.2.1)) ≤ (l0.length : Int) then ((spec_DocSpan.f k (wrap64 (rd l0 0)) (l0.drop ((wrap64 (1 + bt124.2.1)) : Int).toNat)).bind fun bt129 => (some (wrap64 ((wrap64 (1 + bt124.2.1)) + bt129.1), bt129.2))) else (none)) else (none)) else (none)) else (some (0, false)))) else (none))
theorem spec_DocFirst.mono : ∀ a0 k, LeO (spec_DocFirst.f k a0) (spec_DocFirst.f (k + 1) a0) := by
  intro a0 k
  unfold spec_DocFirst.f
  have m0_ := @spec_DocName.mono; have m1_ := @spec_DocSpan.mono; exact HW.mo
theorem spec_DocFirst.calls (k : Nat) (A0 : Option Addr) (c0 : Nat) (l0 : List Int) (r1 : Int) (r2 : Bool) (w : World) (hr0 : Kd.C (Kd.int .u8) w A0 l0.length l0) (hc0 : l0.length ≤ c0) (h : spec_DocFirst.f k l0 = some (r1, r2)) :
    Calls Tryz.prog 40 #[.slice A0 l0.length c0] w fun e w' => e = .returned (.tuple #[.int .i64 r1, .bool r2]) ∧ Drawn0 w w' := by
  have HR0 := Aside0.mk hr0; have HC0 := Aside0.mk hc0; clear hr0 hc0; have H : (if (l0.length : Int) = 0 then (some (0, false)) else (if 1 ≤ (l0.length : Int) then ((spec_DocName.f k (l0.drop 1)).bind fun bt124 => (if bt124.2.2 = true then (if 0 < (l0.length : Int) then (if 0 ≤ (wrap64 (1 + bt124.2.1)) then (if (wrap64 (1 + bt124.2.1)) ≤ (l0.length : Int) then ((spec_DocSpan.f k (wrap64 (rd l0 0)) (l0.drop ((wrap64 (1 + bt124.2.1)) : Int).toNat)).bind fun bt129 => (some (wrap64 ((wrap64 (1 + bt124.2.1)) + bt129.1), bt129.2))) else (none)) else (none)) else (none)) else (some (0, false)))) else (none))) = some (r1, r2) := h; clear h
  by_cases c2 : (l0.length : Int) = 0
  · rw [if_pos c2] at H
    have c2b0 : ((l0.length : Int) == 0) = true := beq_iff_eq.mpr c2; have c2b1 : ((l0.length : Int) != 0) = false := bne_eq_false_iff_eq.mpr c2; clear c2
    as_aux_lemma =>
      simp only [Option.some.injEq, Prod.mk.injEq] at H
      obtain ⟨rfl, rfl⟩ := H
      go_enter Tryz.func40, Tryz.ntmps40
      go_wp2
      repeat (go_quiet (fail); try go_wp2)
      go_ret2
      exact ⟨by first | rfl | (simp; done) | (simp [*]; done), by repeat (first | exact Drawn0.refl _ | apply Drawn0.step)⟩
  rw [if_neg c2] at H; have c2b0 : ((l0.length : Int) == 0) = false := beq_eq_false_iff_ne.mpr c2; have c2b1 : ((l0.length : Int) != 0) = true := bne_iff_ne.mpr c2
  have c2b2 : ¬ (l0 = []) := fun h_ => c2 (by rw [h_]; rfl)
  by_cases c3 : 1 ≤ (l0.length : Int)
  rotate_left
  · rw [if_neg c3] at H
    exact absurd H (by simp)
  rw [if_pos c3] at H; have c3b0 := eq_true c3; have c3b1 : decide (1 ≤ (l0.length : Int)) = true := decide_eq_true c3; clear c3; replace H := Option.bind_eq_some_iff.mp H; obtain ⟨⟨t124, t125, t126⟩, A40, H⟩ := H; replace H : (if t126 = true then (if 0 < (l0.length : Int) then (if 0 ≤ (wrap64 (1 + t125)) then (if (wrap64 (1 + t125)) ≤ (l0.length : Int) then ((spec_DocSpan.f k (wrap64 (rd l0 0)) (l0.drop ((wrap64 (1 + t125)) : Int).toNat)).bind fun bt129 => (some (wrap64 ((wrap64 (1 + t125)) + bt129.1), bt129.2))) else (none)) else (none)) else (none)) else (some (0, false))) = some (r1, r2) := H; have A4 := Aside0.mk A40; clear A40
  by_cases c5 : t126 = true
  rotate_left
  · replace c5 := Bool.eq_false_iff.mpr c5
    subst c5
    have H1 : (some (0, false)) = some (r1, r2) := by rw [if_neg (show ¬ (false = true) by decide)] at H; exact H
    clear H; have H := H1; clear H1
    as_aux_lemma =>
      simp only [Option.some.injEq, Prod.mk.injEq] at H
      obtain ⟨rfl, rfl⟩ := H; obtain ⟨i013, hi013, _, hsz13, _⟩ := info_parts info5
      obtain ⟨A13, hcut13, hA13, hC13⟩ := print_drop_of (P := Tryz.prog) (Value.int .u8) 0 22 5 .i64 Tryz.underlying22 hi013 hsz13 A0 c0 l0 1 (by omega) (HW.od) HC0.out
      have HR123 := Aside0.mk (Kd.C_of_reads (h1 := fun _ => rfl) (hA13 _ (Kd.reads_of_C HR0.out))); have HC123 := Aside0.mk hC13; clear hA13 hC13 hi013 hsz13
      have A4 := Aside0.mk (show spec_DocName.f k (l0.drop (1 : Int).toNat) = _ from A4.out)
      generalize l0.drop (1 : Int).toNat = L1_ at hcut13 HR123 HC123 A4
      go_enter Tryz.func40, Tryz.ntmps40
      go_wp2_with (first | (go_at_call 82; (with_reducible refine (spec_DocName.calls k _ _ L1_ t124 t125 false _ ?side1 ?side2 A4.out).mono ?_); (case side1 => repeat (first | exact HR123.out | (with_reducible refine Kd.C_alloc ?_ _) | (with_reducible refine Kd.C_drewN ?_ _) | (with_reducible refine Kd.C_drew ?_))); (case side2 => exact HC123.out); rintro e w' ⟨rfl, ⟨nd, rfl⟩⟩; (try first | exact ⟨rfl, _, World.drewN_drewN _ _ _⟩ | exact ⟨rfl, _, Eq.trans (World.drewN_drewN _ _ _) (congrArg (World.drewN _) (Nat.add_assoc _ _ _))⟩)))
      repeat (go_quiet (fail); try go_wp2)
      go_ret2
      exact ⟨by first | rfl | (simp; done) | (simp [*]; done), by repeat (first | exact Drawn0.refl _ | apply Drawn0.step)⟩
  subst c5
  have H1 : (if 0 < (l0.length : Int) then (if 0 ≤ (wrap64 (1 + t125)) then (if (wrap64 (1 + t125)) ≤ (l0.length : Int) then ((spec_DocSpan.f k (wrap64 (rd l0 0)) (l0.drop ((wrap64 (1 + t125)) : Int).toNat)).bind fun bt129 => (some (wrap64 ((wrap64 (1 + t125)) + bt129.1), bt129.2))) else (none)) else (none)) else (none)) = some (r1, r2) := by rw [if_pos rfl] at H; exact H
  clear H; have H := H1; clear H1
  by_cases c6 : 0 < (l0.length : Int)
  rotate_left
  · rw [if_neg c6] at H
    exact absurd H (by simp)
  rw [if_pos c6] at H; have c6b0 : decide (0 < (l0.length : Int)) = true := decide_eq_true c6
  have c6b1 : decide (0 < l0.length) = true := decide_eq_true (by omega)
  clear c6; obtain ⟨ji7, hji7⟩ : ∃ j_ : Int, (wrap64 (1 + t125)) = j_ := ⟨_, rfl⟩
  replace H : (if 0 ≤ (ji7) then (if (ji7) ≤ (l0.length : Int) then ((spec_DocSpan.f k (wrap64 (rd l0 0)) (l0.drop ((ji7) : Int).toNat)).bind fun bt129 => (some (wrap64 ((ji7) + bt129.1), bt129.2))) else (none)) else (none)) = some (r1, r2) := by first | (rw [hji7] at H; exact H) | (simp only [hji7] at H ⊢; exact H)
  (try rw [hji7] at A4)
  have hji7w : (IntKind.i64.wrap (1 + t125)) = ji7 := (i64_w _).trans hji7
  by_cases c8 : 0 ≤ (ji7)
  rotate_left
  · rw [if_neg c8] at H
    exact absurd H (by simp)
  rw [if_pos c8] at H; have c8b0 := eq_true c8; have c8b1 : decide (0 ≤ (ji7)) = true := decide_eq_true c8; clear c8
  by_cases c9 : (ji7) ≤ (l0.length : Int)
  rotate_left
  · rw [if_neg c9] at H
    exact absurd H (by simp)
  rw [if_pos c9] at H; have c9b0 := eq_true c9; have c9b1 : decide ((ji7) ≤ (l0.length : Int)) = true := decide_eq_true c9; clear c9; replace H := Option.bind_eq_some_iff.mp H; obtain ⟨⟨t129, t130⟩, A100, H⟩ := H; replace H : (some (wrap64 ((ji7) + t129), t130)) = some (r1, r2) := H; have A10 := Aside0.mk A100; clear A100
  as_aux_lemma =>
    simp only [Option.some.injEq, Prod.mk.injEq] at H
    obtain ⟨rfl, rfl⟩ := H; obtain ⟨i011, hi011, _, hsz11, _⟩ := info_parts info5
    obtain ⟨A11, hcut11, hA11, hC11⟩ := print_drop_of (P := Tryz.prog) (Value.int .u8) 0 22 5 .i64 Tryz.underlying22 hi011 hsz11 A0 c0 l0 1 (by omega) (HW.od) HC0.out
    have HR123 := Aside0.mk (Kd.C_of_reads (h1 := fun _ => rfl) (hA11 _ (Kd.reads_of_C HR0.out))); have HC123 := Aside0.mk hC11; clear hA11 hC11 hi011 hsz11
    have A4 := Aside0.mk (show spec_DocName.f k (l0.drop (1 : Int).toNat) = _ from A4.out)
    generalize l0.drop (1 : Int).toNat = L1_ at hcut11 HR123 HC123 A4
    go_enter Tryz.func40, Tryz.ntmps40
    go_wp2_with (first | (go_at_call 82; (with_reducible refine (spec_DocName.calls k _ _ L1_ t124 t125 true _ ?side1 ?side2 A4.out).mono ?_); (case side1 => repeat (first | exact HR123.out | (with_reducible refine Kd.C_alloc ?_ _) | (with_reducible refine Kd.C_drewN ?_ _) | (with_reducible refine Kd.C_drew ?_))); (case side2 => exact HC123.out); rintro e w' ⟨rfl, ⟨nd, rfl⟩⟩; (try first | exact ⟨rfl, _, World.drewN_drewN _ _ _⟩ | exact ⟨rfl, _, Eq.trans (World.drewN_drewN _ _ _) (congrArg (World.drewN _) (Nat.add_assoc _ _ _))⟩); have p127 : 0 ≤ (0 : Int) := (by omega); have q127 : 0 < (l0.length : Int) := HW.od; obtain ⟨ad127, e127, hx127_0⟩ := Kd.at_int HR0.out 0 p127 q127; cases e127; have qi127 : (0 < l0.length) = True := eq_true (by omega); (try rw [show ((0 : Int)).toNat = 0 from rfl] at hx127_0); (try rw [Addr.add_zero'] at hx127_0); replace p127 := eq_true p127; replace q127 := eq_true q127; obtain ⟨i012, hi012, _, hsz12, _⟩ := info_parts info5; obtain ⟨A12, hcut12, hA12, hC12⟩ := print_drop_of (P := Tryz.prog) (Value.int .u8) 0 22 5 .i64 Tryz.underlying22 hi012 hsz12 (some ad127) c0 l0 (ji7) (HW.od) (HW.od) HC0.out; have HR128 := Aside0.mk (Kd.C_of_reads (h1 := fun _ => rfl) (hA12 _ (Kd.reads_of_C HR0.out))); have HC128 := Aside0.mk hC12; clear hA12 hC12 hi012 hsz12; generalize l0.drop (ji7).toNat = L12_ at hcut12 HR128 HC128 A10) | (go_at_call 30; (with_reducible refine (spec_DocSpan.calls k (wrap64 (rd l0 0)) _ _ L12_ t129 t130 _ ?side1 ?side2 A10.out).mono ?_); (case side1 => repeat (first | exact HR128.out | (with_reducible refine Kd.C_alloc ?_ _) | (with_reducible refine Kd.C_drewN ?_ _) | (with_reducible refine Kd.C_drew ?_))); (case side2 => exact HC128.out); rintro e w' ⟨rfl, ⟨nd, rfl⟩⟩; (try first | exact ⟨rfl, _, World.drewN_drewN _ _ _⟩ | exact ⟨rfl, _, Eq.trans (World.drewN_drewN _ _ _) (congrArg (World.drewN _) (Nat.add_assoc _ _ _))⟩)))
    repeat (go_quiet (first | (go_at_call 82; (with_reducible refine (spec_DocName.calls k _ _ L1_ t124 t125 true _ ?side1 ?side2 A4.out).mono ?_); (case side1 => repeat (first | exact HR123.out | (with_reducible refine Kd.C_alloc ?_ _) | (with_reducible refine Kd.C_drewN ?_ _) | (with_reducible refine Kd.C_drew ?_))); (case side2 => exact HC123.out); rintro e w' ⟨rfl, ⟨nd, rfl⟩⟩; (try first | exact ⟨rfl, _, World.drewN_drewN _ _ _⟩ | exact ⟨rfl, _, Eq.trans (World.drewN_drewN _ _ _) (congrArg (World.drewN _) (Nat.add_assoc _ _ _))⟩); have p127 : 0 ≤ (0 : Int) := (by omega); have q127 : 0 < (l0.length : Int) := HW.od; obtain ⟨ad127, e127, hx127_0⟩ := Kd.at_int HR0.out 0 p127 q127; cases e127; have qi127 : (0 < l0.length) = True := eq_true (by omega); (try rw [show ((0 : Int)).toNat = 0 from rfl] at hx127_0); (try rw [Addr.add_zero'] at hx127_0); replace p127 := eq_true p127; replace q127 := eq_true q127; obtain ⟨i012, hi012, _, hsz12, _⟩ := info_parts info5; obtain ⟨A12, hcut12, hA12, hC12⟩ := print_drop_of (P := Tryz.prog) (Value.int .u8) 0 22 5 .i64 Tryz.underlying22 hi012 hsz12 (some ad127) c0 l0 (ji7) (HW.od) (HW.od) HC0.out; have HR128 := Aside0.mk (Kd.C_of_reads (h1 := fun _ => rfl) (hA12 _ (Kd.reads_of_C HR0.out))); have HC128 := Aside0.mk hC12; clear hA12 hC12 hi012 hsz12; generalize l0.drop (ji7).toNat = L12_ at hcut12 HR128 HC128 A10) | (go_at_call 30; (with_reducible refine (spec_DocSpan.calls k (wrap64 (rd l0 0)) _ _ L12_ t129 t130 _ ?side1 ?side2 A10.out).mono ?_); (case side1 => repeat (first | exact HR128.out | (with_reducible refine Kd.C_alloc ?_ _) | (with_reducible refine Kd.C_drewN ?_ _) | (with_reducible refine Kd.C_drew ?_))); (case side2 => exact HC128.out); rintro e w' ⟨rfl, ⟨nd, rfl⟩⟩; (try first | exact ⟨rfl, _, World.drewN_drewN _ _ _⟩ | exact ⟨rfl, _, Eq.trans (World.drewN_drewN _ _ _) (congrArg (World.drewN _) (Nat.add_assoc _ _ _))⟩))); try go_wp2_with (first | (go_at_call 82; (with_reducible refine (spec_DocName.calls k _ _ L1_ t124 t125 true _ ?side1 ?side2 A4.out).mono ?_); (case side1 => repeat (first | exact HR123.out | (with_reducible refine Kd.C_alloc ?_ _) | (with_reducible refine Kd.C_drewN ?_ _) | (with_reducible refine Kd.C_drew ?_))); (case side2 => exact HC123.out); rintro e w' ⟨rfl, ⟨nd, rfl⟩⟩; (try first | exact ⟨rfl, _, World.drewN_drewN _ _ _⟩ | exact ⟨rfl, _, Eq.trans (World.drewN_drewN _ _ _) (congrArg (World.drewN _) (Nat.add_assoc _ _ _))⟩); have p127 : 0 ≤ (0 : Int) := (by omega); have q127 : 0 < (l0.length : Int) := HW.od; obtain ⟨ad127, e127, hx127_0⟩ := Kd.at_int HR0.out 0 p127 q127; cases e127; have qi127 : (0 < l0.length) = True := eq_true (by omega); (try rw [show ((0 : Int)).toNat = 0 from rfl] at hx127_0); (try rw [Addr.add_zero'] at hx127_0); replace p127 := eq_true p127; replace q127 := eq_true q127; obtain ⟨i012, hi012, _, hsz12, _⟩ := info_parts info5; obtain ⟨A12, hcut12, hA12, hC12⟩ := print_drop_of (P := Tryz.prog) (Value.int .u8) 0 22 5 .i64 Tryz.underlying22 hi012 hsz12 (some ad127) c0 l0 (ji7) (HW.od) (HW.od) HC0.out; have HR128 := Aside0.mk (Kd.C_of_reads (h1 := fun _ => rfl) (hA12 _ (Kd.reads_of_C HR0.out))); have HC128 := Aside0.mk hC12; clear hA12 hC12 hi012 hsz12; generalize l0.drop (ji7).toNat = L12_ at hcut12 HR128 HC128 A10) | (go_at_call 30; (with_reducible refine (spec_DocSpan.calls k (wrap64 (rd l0 0)) _ _ L12_ t129 t130 _ ?side1 ?side2 A10.out).mono ?_); (case side1 => repeat (first | exact HR128.out | (with_reducible refine Kd.C_alloc ?_ _) | (with_reducible refine Kd.C_drewN ?_ _) | (with_reducible refine Kd.C_drew ?_))); (case side2 => exact HC128.out); rintro e w' ⟨rfl, ⟨nd, rfl⟩⟩; (try first | exact ⟨rfl, _, World.drewN_drewN _ _ _⟩ | exact ⟨rfl, _, Eq.trans (World.drewN_drewN _ _ _) (congrArg (World.drewN _) (Nat.add_assoc _ _ _))⟩))))
    go_ret2
    exact ⟨by first | rfl | (simp; done) | (simp only [← hji7] <;> (first | rfl | simp)) | (simp [*]; done), by repeat (first | exact Drawn0.refl _ | apply Drawn0.step)⟩
def spec_docPart.f (k : Nat) (l0 : List Int) : Option (ByteArray × Int × List Int × List Int) := if 1 ≤ (l0.length : Int) then ((spec_DocName.f k (l0.drop 1)).bind fun bt137 => (if 0 < (l0.length : Int) then (if 0 ≤ (wrap64 (1 + bt137.2.1)) then (if (wrap64 (1 + bt137.2.1)) ≤ (l0.length : Int) then (some (bt137.1, wrap64 (rd l0 0), (l0.drop ((wrap64 (1 + bt137.2.1)) : Int).toNat), l0)) else (none)) else (none)) else (none))) else (none)
theorem spec_docPart.mono : ∀ a0 k, LeO (spec_docPart.f k a0) (spec_docPart.f (k + 1) a0) := by
  intro a0 k
  unfold spec_docPart.f
  have m0_ := @spec_DocName.mono; exact HW.mo
def spec_docPart.T2 : Bool × List (List Nat × List Nat) := (true, [([], []), ([], []), ([1], [1]), ([2], [2]), ([3], [3]), ([], []), ([], []), ([6], [6]), ([5, 7], [5, 7]), ([4, 8], [4, 8]), ([], []), ([0, 9, 10], [0, 9, 10]), ([11, 0, 1, 2, 3, 4, 5, 6, 7, 8, 9, 10, 11], [11])])
def spec_docPart.B2 : List Nat := [0, 0, 2, 6, 14, 0, 0, 64, 224, 510, 0, 2047, 4095]
theorem spec_docPart.tab2 : rtab .any (opsOf Tryz.f41 2) = spec_docPart.T2 := by kernel_rfl
theorem spec_docPart.bits2 : waitsOk spec_docPart.T2.2 spec_docPart.B2 = true := by kernel_rfl
theorem spec_docPart.calls (k : Nat) (P0_ : Nat → Prop) (A0 : Option Addr) (c0 : Nat) (l0 : List Int) (r1 : ByteArray) (r2 : Int) (r3 : List Int) (r4 : List Int) (w : World) (hs0 : Kd.V (Kd.int .u8) 5 w w.heap.size (fun k_ => P0_ k_) (.slice A0 l0.length c0) l0) (h : spec_docPart.f k l0 = some (r1, r2, r3, r4)) :
    Calls Tryz.prog 41 #[.slice A0 l0.length c0] w fun e w' => ∃ v2_ v3_ : Value, e = .returned (.agg #[.string r1, .int .i64 r2, v2_, v3_]) ∧ Kd.V (Kd.int .u8) 5 w' w.heap.size (fun k_ => (P0_ k_ ∨ w.heap.size ≤ k_)) v2_ r3 ∧ Kd.V (Kd.int .u8) 5 w' w.heap.size (fun k_ => (P0_ k_ ∨ w.heap.size ≤ k_)) v3_ r4 ∧ Below w.heap.size w w' := by
  have hu27 := Tryz.underlying27; have hu25 := Tryz.underlying25; have HO0 := Aside0.mk (show Kd.V (Kd.int .u8) 5 w w.heap.size (fun k_ => (P0_ k_ ∨ w.heap.size ≤ k_)) (.slice A0 l0.length c0) l0 from Kd.V_mono hs0 (fun k_ hk => .inl hk)); have HB := Aside0.mk (Below.refl w.heap.size w); have H : (if 1 ≤ (l0.length : Int) then ((spec_DocName.f k (l0.drop 1)).bind fun bt137 => (if 0 < (l0.length : Int) then (if 0 ≤ (wrap64 (1 + bt137.2.1)) then (if (wrap64 (1 + bt137.2.1)) ≤ (l0.length : Int) then (some (bt137.1, wrap64 (rd l0 0), (l0.drop ((wrap64 (1 + bt137.2.1)) : Int).toNat), l0)) else (none)) else (none)) else (none))) else (none)) = some (r1, r2, r3, r4) := h; clear h
  by_cases c2 : 1 ≤ (l0.length : Int)
  rotate_left
  · rw [if_neg c2] at H
    exact absurd H (by simp)
  rw [if_pos c2] at H; have c2b0 := eq_true c2; have c2b1 : decide (1 ≤ (l0.length : Int)) = true := decide_eq_true c2; clear c2; obtain ⟨y132, hy132⟩ : ∃ y_ : List Int, y_ = (l0.drop 1) := ⟨_, rfl⟩
  replace H : ((spec_DocName.f k y132).bind fun bt137 => (if 0 < (l0.length : Int) then (if 0 ≤ (wrap64 (1 + bt137.2.1)) then (if (wrap64 (1 + bt137.2.1)) ≤ (l0.length : Int) then (some (bt137.1, wrap64 (rd l0 0), (l0.drop ((wrap64 (1 + bt137.2.1)) : Int).toNat), l0)) else (none)) else (none)) else (none))) = some (r1, r2, r3, r4) := by (try rw [hy132]); exact HW.rp
  have Ny132 := Aside0.mk hy132; clear hy132; replace H := Option.bind_eq_some_iff.mp H; obtain ⟨⟨t137, t138, t139⟩, A30, H⟩ := H; replace H : (if 0 < (l0.length : Int) then (if 0 ≤ (wrap64 (1 + t138)) then (if (wrap64 (1 + t138)) ≤ (l0.length : Int) then (some (t137, wrap64 (rd l0 0), (l0.drop ((wrap64 (1 + t138)) : Int).toNat), l0)) else (none)) else (none)) else (none)) = some (r1, r2, r3, r4) := H; have A3 := Aside0.mk A30; clear A30
  by_cases c4 : 0 < (l0.length : Int)
  rotate_left
  · rw [if_neg c4] at H
    exact absurd H (by simp)
  rw [if_pos c4] at H; have c4b0 : decide (0 < (l0.length : Int)) = true := decide_eq_true c4
  have c4b1 : decide (0 < l0.length) = true := decide_eq_true (by omega)
  clear c4; obtain ⟨ji5, hji5⟩ : ∃ j_ : Int, (wrap64 (1 + t138)) = j_ := ⟨_, rfl⟩
  replace H : (if 0 ≤ (ji5) then (if (ji5) ≤ (l0.length : Int) then (some (t137, wrap64 (rd l0 0), (l0.drop ((ji5) : Int).toNat), l0)) else (none)) else (none)) = some (r1, r2, r3, r4) := by first | (rw [hji5] at H; exact H) | (simp only [hji5] at H ⊢; exact H)
  (try rw [hji5] at A3)
  have hji5w : (IntKind.i64.wrap (1 + t138)) = ji5 := (i64_w _).trans hji5
  by_cases c6 : 0 ≤ (ji5)
  rotate_left
  · rw [if_neg c6] at H
    exact absurd H (by simp)
  rw [if_pos c6] at H; have c6b0 := eq_true c6; have c6b1 : decide (0 ≤ (ji5)) = true := decide_eq_true c6; clear c6
  by_cases c7 : (ji5) ≤ (l0.length : Int)
  rotate_left
  · rw [if_neg c7] at H
    exact absurd H (by simp)
  rw [if_pos c7] at H; have c7b0 := eq_true c7; have c7b1 : decide ((ji5) ≤ (l0.length : Int)) = true := decide_eq_true c7; clear c7; obtain ⟨y141, hy141⟩ : ∃ y_ : List Int, y_ = (l0.drop ((ji5) : Int).toNat) := ⟨_, rfl⟩
  replace H : (some (t137, wrap64 (rd l0 0), y141, l0)) = some (r1, r2, r3, r4) := by (try rw [hy141]); exact HW.rp
  have Ny141 := Aside0.mk hy141; clear hy141
  as_aux_lemma =>
    simp only [Option.some.injEq, Prod.mk.injEq] at H
    obtain ⟨rfl, rfl, rfl, rfl⟩ := H
    go_enter Tryz.func41, Tryz.ntmps41
    try go_wp2_with (first | ((with_reducible refine gate_dst (N := 2) rfl ?_); refine box_event ?hg (N := 2) ?hd (cs := #[.string (⟨#[]⟩ : ByteArray), .int .i64 0, .slice none 0 0, .slice none 0 0]) (t := 27) ?hr ?_; (case hd => rfl); (case hg => rfl); (case hr => first | (go_simp; done) | (go_simp; rfl)); intro gb131 hg w8 hbox hb; have n0_ := Aside0.mk (Kd.V_below (Kd.V_elderB (HW.zV HO0.out) gb131 (Nat.le_of_eq hg.symm)) hb); have n1_ := Aside0.mk (below_step HW.zb hb); have n2_ := Aside0.mk (hbox); have n4_ := Aside0.mk ((by rw [hg]; exact (below_size HW.zb) : w.heap.size ≤ gb131)); clear HO0; clear HB; have HO0 := n0_; have HB := n1_; have BK131 := n2_; have GE131 := n4_; clear n0_ n1_ n2_ n4_; clear hb hbox hg; have q9 : (1 : Int) ≤ ((l0.length : Int) : Int) := HW.od; obtain ⟨i09, hi09, _, hsz9, _⟩ := info_parts info5; have hroom9 : l0.length ≤ c0 := (Kd.V_reads' HO0.out).2.1; have hC9 : Kd.F (Kd.int .u8) _ _ A0 l0.length l0 := (Kd.V_at (base := w.heap.size) HO0.out).2.2; have hcut9 := cut_from (P := Tryz.prog) 22 5 .i64 Tryz.underlying22 hi09 1 hsz9 A0 l0.length c0 1 (by omega) q9; have hr9 := Kd.F_cut (m := (1 : Int).toNat) (c := c0) hC9 (by omega) hroom9; obtain ⟨A9, hA9⟩ : ∃ A1, A1 = (if c0 = (1 : Int).toNat then A0 else (A0 : Option Addr).map (·.add ((1 : Int).toNat * 1))) := ⟨_, rfl⟩; obtain ⟨c9, hc9⟩ : ∃ c1, c1 = c0 - (1 : Int).toNat := ⟨_, rfl⟩; have hy9 : y132.length = l0.length - (1 : Int).toNat := (by rw [Ny132.out, List.length_drop] <;> omega); rw [show (l0).drop (1 : Int).toNat = y132 from Ny132.out.symm] at hr9; replace hr9 : Kd.F (Kd.int .u8) _ _ A9 y132.length y132 := (by rw [hA9]; exact hr9); rw [← hy9, ← hA9, ← hc9] at hcut9; have HO136 := Aside0.mk (show Kd.V (Kd.int .u8) 5 _ w.heap.size _ (.slice A9 y132.length c9) y132 from Kd.V_mk (by rw [hy9, hc9]; exact Nat.sub_le_sub_right hroom9 _) hr9); have HC136 := Aside0.mk (show y132.length ≤ c9 from by rw [hy9, hc9]; exact Nat.sub_le_sub_right hroom9 _); clear hr9 hC9 hroom9 hi09 hsz9 hc9; have KY9 := Aside0.mk hy9; have KA9 := Aside0.mk hA9; clear hy9 hA9; replace q9 := eq_true q9) | ((with_reducible refine gate_callee (f := 82) rfl ?_); refine HW.gz (some 9) rfl rfl Tryz.func82 (by kernel_rfl) rfl #[.slice A9 y132.length c9] rfl ?_; (with_reducible refine (spec_DocName.calls k _ _ y132 t137 t138 t139 _ ?side1 ?side2 A3.out).mono ?_); (case side1 => repeat (first | exact (Kd.V_reads' HO136.out).2.2 | (with_reducible refine Kd.C_alloc ?_ _) | (with_reducible refine Kd.C_drewN ?_ _) | (with_reducible refine Kd.C_drew ?_))); (case side2 => exact (Kd.V_reads' HO136.out).2.1); rintro e w' ⟨rfl, ⟨nd, rfl⟩⟩; refine ⟨_, rfl, ?_⟩; (try (rw [drewN_self w8]; generalize hq_ : World.drewN w8 _ = w8; have n0_ : Aside0 (Kd.V (Kd.int .u8) 5 w8 w.heap.size (fun k_ => (P0_ k_ ∨ w.heap.size ≤ k_) ∧ k_ ≠ gb131) (.slice A0 l0.length c0) l0) := ⟨by rw [← hq_]; exact (HW.zV HO0.out)⟩; have n1_ : Aside0 (Kd.V (Kd.int .u8) 5 w8 w.heap.size (fun k_ => (P0_ k_ ∨ w.heap.size ≤ k_) ∧ k_ ≠ gb131) (.slice A9 y132.length c9) y132) := ⟨by rw [← hq_]; exact (HW.zV HO136.out)⟩; have n2_ : Aside0 (w8.heap[gb131]? = some (.cells #[.string (⟨#[]⟩ : ByteArray), .int .i64 0, .slice none 0 0, .slice none 0 0] 27 (0, 0))) := ⟨by rw [← hq_]; exact (HW.zB BK131.out)⟩; have n3_ : Aside0 (Below w.heap.size w w8) := ⟨by rw [← hq_]; exact HW.zb⟩; clear HO0 HO136 BK131 HB hq_; have HO0 := n0_; have HO136 := n1_; have BK131 := n2_; have HB := n3_; clear n0_ n1_ n2_ n3_))))
    replace HO0 := Aside0.mk (Kd.V_drew HO0.out); replace HO136 := Aside0.mk (Kd.V_drew HO136.out); replace BK131 := Aside0.mk (blk_drew BK131.out); replace HB := Aside0.mk (below_drew1 HB.out)
    have p140 : 0 ≤ (0 : Int) := (by omega)
    have q140 : 0 < (l0.length : Int) := HW.od
    obtain ⟨ad140, e140, hx140_0⟩ := Kd.at_int (Kd.V_reads' HO0.out).2.2 0 p140 q140
    cases e140
    have qi140 : (0 < l0.length) = True := eq_true (by omega)
    (try rw [show ((0 : Int)).toNat = 0 from rfl] at hx140_0)
    (try rw [Addr.add_zero'] at hx140_0)
    replace p140 := eq_true p140; replace q140 := eq_true q140
    have q11 : ((ji5) : Int) ≤ ((l0.length : Int) : Int) := HW.od
    obtain ⟨i011, hi011, _, hsz11, _⟩ := info_parts info5; have hroom11 : l0.length ≤ c0 := (Kd.V_reads' HO0.out).2.1; have hC11 : Kd.F (Kd.int .u8) _ _ (some ad140) l0.length l0 := (Kd.V_at (base := w.heap.size) HO0.out).2.2
    have q011 : (0 : Int) ≤ ((ji5) : Int) := HW.od
    have hcut11 := cut_from (P := Tryz.prog) 22 5 .i64 Tryz.underlying22 hi011 1 hsz11 (some ad140) l0.length c0 (ji5) q011 q11
    have hr11 := Kd.F_cut (m := ((ji5) : Int).toNat) (c := c0) hC11 (by omega) hroom11
    obtain ⟨A11, hA11⟩ : ∃ A1, A1 = (if c0 = ((ji5) : Int).toNat then (some ad140) else ((some ad140) : Option Addr).map (·.add (((ji5) : Int).toNat * 1))) := ⟨_, rfl⟩; obtain ⟨c11, hc11⟩ : ∃ c1, c1 = c0 - ((ji5) : Int).toNat := ⟨_, rfl⟩
    have hy11 : y141.length = l0.length - ((ji5) : Int).toNat := (by rw [Ny141.out, List.length_drop] <;> omega)
    rw [show (l0).drop ((ji5) : Int).toNat = y141 from Ny141.out.symm] at hr11
    replace hr11 : Kd.F (Kd.int .u8) _ _ A11 y141.length y141 := (by rw [hA11]; exact hr11)
    rw [← hy11, ← hA11, ← hc11] at hcut11
    have HO145 := Aside0.mk (show Kd.V (Kd.int .u8) 5 _ w.heap.size _ (.slice A11 y141.length c11) y141 from Kd.V_mk (by rw [hy11, hc11]; exact Nat.sub_le_sub_right hroom11 _) hr11)
    have HC145 := Aside0.mk (show y141.length ≤ c11 from by rw [hy11, hc11]; exact Nat.sub_le_sub_right hroom11 _)
    clear hr11 hC11 hroom11 hi011 hsz11 hc11; have KY11 := Aside0.mk hy11; have KA11 := Aside0.mk hA11; clear hy11 hA11; replace q11 := eq_true q11
    refine start_ (n := 13) (S := fun w' => w'.cell? ad140 = some (.int .u8 (rd l0 0))) (ds := []) #[ff,ff,ff,ff,ff,ff,ff,ff,ff,ff,ff,ff,ff] (by kernel_rfl) rfl rfl (hx140_0) (fun hHeld => ?_); refine with_tabW spec_docPart.tab2 spec_docPart.bits2 (fun HT_ HW_ => ?_)
    generalize w8.drew = w10 at HO0 HO136 BK131 HB HO145 hx140_0 hHeld ⊢
    refine HW.pz (i := 0) (N := some 13) #[tt,ff,ff,ff,ff,ff,ff,ff,ff,ff,ff,ff,ff] ?_ (hc := any_of HT_.out (by kernel_rfl))
    refine HW.pz (i := 1) (N := some 14) #[tt,tt,ff,ff,ff,ff,ff,ff,ff,ff,ff,ff,ff] ?_ (hc := any_of HT_.out (by kernel_rfl))
    refine HW.pz (i := 2) (N := some 15) #[tt,tt,tt,ff,ff,ff,ff,ff,ff,ff,ff,ff,ff] ?_ (hc := any_of HT_.out (by kernel_rfl))
    refine HW.pz (i := 5) (N := some 18) #[tt,tt,tt,ff,ff,tt,ff,ff,ff,ff,ff,ff,ff] ?_ (hc := any_of HT_.out (by kernel_rfl))
    refine HW.pz (i := 6) (N := some 19) #[tt,tt,tt,ff,ff,tt,tt,ff,ff,ff,ff,ff,ff] ?_ (hc := any_of HT_.out (by kernel_rfl))
    refine HW.pz (i := 7) (N := some 20) #[tt,tt,tt,ff,ff,tt,tt,tt,ff,ff,ff,ff,ff] ?_ (hc := any_of HT_.out (by kernel_rfl))
    refine HW.pz (i := 8) (N := some 21) #[tt,tt,tt,ff,ff,tt,tt,tt,tt,ff,ff,ff,ff] ?_ (hc := any_of HT_.out (by kernel_rfl))
    refine HW.pz (i := 10) (N := some 23) #[tt,tt,tt,ff,ff,tt,tt,tt,tt,ff,tt,ff,ff] ?_ (hc := any_of HT_.out (by kernel_rfl))
    refine take_ (i := 3) (N := some 16) (v := ?_) (a' := ?_) #[tt,tt,tt,tt,ff,tt,tt,tt,tt,ff,tt,ff,ff] rfl rfl (take_ofW HT_.out HW_.out (by kernel_rfl)) (fun _ _ _ h => h) (Or.inl ⟨by rfl, ?_⟩) hHeld ?_ ?_
    rotate_left
    · intro w' s0
      go_simp
      with_reducible rfl
    rotate_left
    · exact HW.pt
    refine HW.pz (i := 4) (N := some 17) #[tt,tt,tt,tt,tt,tt,tt,tt,tt,ff,tt,ff,ff] ?_ (hc := any_of HT_.out (by kernel_rfl))
    refine HW.pz (i := 9) (N := some 22) #[tt,tt,tt,tt,tt,tt,tt,tt,tt,tt,tt,ff,ff] ?_ (hc := any_of HT_.out (by kernel_rfl))
    refine HW.pz (i := 11) (N := some 24) #[tt,tt,tt,tt,tt,tt,tt,tt,tt,tt,tt,tt,ff] ?_ (hc := any_of HT_.out (by kernel_rfl))
    refine one_ (i := 12) (N := none) #[tt,tt,tt,tt,tt,tt,tt,tt,tt,tt,tt,tt,tt] rfl rfl (one_of HT_.out (by kernel_rfl)) (by decide) (fun K hK => ?_)
    have hs12 : w10.cell? ⟨gb131, 0, none⟩ = some (.string (⟨#[]⟩ : ByteArray)) := (blk_cell BK131.out 0).trans rfl; have hfs12 := blk_frozen BK131.out 0; have hs13 : w10.cell? ⟨gb131, 1, none⟩ = some (.int .i64 0) := (blk_cell BK131.out 1).trans rfl; have hfs13 := blk_frozen BK131.out 1; have hs14 : w10.cell? ⟨gb131, 2, none⟩ = some (.slice none 0 0) := (blk_cell BK131.out 2).trans rfl; have hfs14 := blk_frozen BK131.out 2; have hs15 : w10.cell? ⟨gb131, 3, none⟩ = some (.slice none 0 0) := (blk_cell BK131.out 3).trans rfl; have hfs15 := blk_frozen BK131.out 3
    refine skip_ (w1 := ?_) (by rfl) rfl ?_ ?_
    rotate_left
    · go_simp
      rfl
    refine hK.out _ _ (((cell_far (p := ⟨gb131, _, none⟩) (by first | exact Kd.own_blk (Kd.V_away HO0.out (fun _ hk => hk.2)) | (rw [add_block]; exact Kd.own_blk (Kd.V_away HO0.out (fun _ hk => hk.2))) | (show (Addr.add _ _).block ≠ _; rw [add_block]; exact Kd.own_blk (Kd.V_away HO0.out (fun _ hk => hk.2))) | (dsimp only; exact Kd.own_blk (Kd.V_away HO0.out (fun _ hk => hk.2)))) _).trans (((cell_far (p := ⟨gb131, _, none⟩) (by first | exact Kd.own_blk (Kd.V_away HO0.out (fun _ hk => hk.2)) | (rw [add_block]; exact Kd.own_blk (Kd.V_away HO0.out (fun _ hk => hk.2))) | (show (Addr.add _ _).block ≠ _; rw [add_block]; exact Kd.own_blk (Kd.V_away HO0.out (fun _ hk => hk.2))) | (dsimp only; exact Kd.own_blk (Kd.V_away HO0.out (fun _ hk => hk.2)))) _).trans (((cell_far (p := ⟨gb131, _, none⟩) (by first | exact Kd.own_blk (Kd.V_away HO0.out (fun _ hk => hk.2)) | (rw [add_block]; exact Kd.own_blk (Kd.V_away HO0.out (fun _ hk => hk.2))) | (show (Addr.add _ _).block ≠ _; rw [add_block]; exact Kd.own_blk (Kd.V_away HO0.out (fun _ hk => hk.2))) | (dsimp only; exact Kd.own_blk (Kd.V_away HO0.out (fun _ hk => hk.2)))) _).trans (((cell_far (p := ⟨gb131, _, none⟩) (by first | exact Kd.own_blk (Kd.V_away HO0.out (fun _ hk => hk.2)) | (rw [add_block]; exact Kd.own_blk (Kd.V_away HO0.out (fun _ hk => hk.2))) | (show (Addr.add _ _).block ≠ _; rw [add_block]; exact Kd.own_blk (Kd.V_away HO0.out (fun _ hk => hk.2))) | (dsimp only; exact Kd.own_blk (Kd.V_away HO0.out (fun _ hk => hk.2)))) _).trans (hHeld))))))))) (fun hHeld => ?_)
    clear hK K
    refine done_ (done_of HT_.out (by kernel_rfl)) ?_
    try go_wp2
    refine bodyPost_ret (results_cell_row rfl _ _ gb131 27 #[.string t137, .int .i64 (wrap64 (rd l0 0)), .slice A11 y141.length c11, .slice (some ad140) l0.length c0] (0, 0) _ rfl (by (with_reducible repeat (first | refine blk_drewN ?_ _ | refine blk_drew ?_ | refine blk_alloc ?_ _)); refine blk_put (cs := #[.string t137, .int .i64 (wrap64 (rd l0 0)), .slice A11 y141.length c11, .slice none 0 0]) ?_ 3 _ rfl; (with_reducible repeat (first | refine blk_drewN ?_ _ | refine blk_drew ?_ | refine blk_alloc ?_ _)); refine blk_put (cs := #[.string t137, .int .i64 (wrap64 (rd l0 0)), .slice none 0 0, .slice none 0 0]) ?_ 2 _ rfl; (with_reducible repeat (first | refine blk_drewN ?_ _ | refine blk_drew ?_ | refine blk_alloc ?_ _)); refine blk_put (cs := #[.string t137, .int .i64 0, .slice none 0 0, .slice none 0 0]) ?_ 1 _ rfl; (with_reducible repeat (first | refine blk_drewN ?_ _ | refine blk_drew ?_ | refine blk_alloc ?_ _)); refine blk_put (cs := #[.string (⟨#[]⟩ : ByteArray), .int .i64 0, .slice none 0 0, .slice none 0 0]) ?_ 0 _ rfl; exact HW.zB BK131.out) Tryz.underlying27 rfl (by kernel_rfl)) rfl ?_
    exact ⟨_, _, by first | rfl | (simp [errW_none, errW_some] <;> rfl) | (simp only [← hji5]; first | rfl | (simp [errW_none, errW_some] <;> rfl)) | (simp [*, errW_none, errW_some] <;> rfl), by (with_reducible repeat (first | apply Kd.V_alloc | apply Kd.V_drewN | apply Kd.V_drew)); exact Kd.V_mono (Kd.V_far (p := ⟨gb131, 3, none⟩) (Kd.V_far (p := ⟨gb131, 2, none⟩) (Kd.V_far (p := ⟨gb131, 1, none⟩) (Kd.V_far (p := ⟨gb131, 0, none⟩) (Kd.V_mono HO145.out (fun k_ hk => (⟨hk, hk.2⟩ : _ ∧ k_ ≠ gb131))) (fun _ hk => hk.2) (.string t137)) (fun _ hk => hk.2) (.int .i64 (wrap64 (rd l0 0)))) (fun _ hk => hk.2) (.slice A11 y141.length c11)) (fun _ hk => hk.2) (.slice (some ad140) l0.length c0)) (fun _ hk => hk.1.1), by (with_reducible repeat (first | apply Kd.V_alloc | apply Kd.V_drewN | apply Kd.V_drew)); exact Kd.V_mono (Kd.V_far (p := ⟨gb131, 3, none⟩) (Kd.V_far (p := ⟨gb131, 2, none⟩) (Kd.V_far (p := ⟨gb131, 1, none⟩) (Kd.V_far (p := ⟨gb131, 0, none⟩) (Kd.V_mono HO0.out (fun k_ hk => (⟨hk, hk.2⟩ : _ ∧ k_ ≠ gb131))) (fun _ hk => hk.2) (.string t137)) (fun _ hk => hk.2) (.int .i64 (wrap64 (rd l0 0)))) (fun _ hk => hk.2) (.slice A11 y141.length c11)) (fun _ hk => hk.2) (.slice (some ad140) l0.length c0)) (fun _ hk => hk.1.1), HW.zb⟩
end Go.Proofs.YtbfhpjkahobgnaaGreatDoor.PIx
