/- Printed by a program of this session (a turned copy of the printer of the kit): contracts of functions of the translation, each with the Lean function that it computes. Conditions: as each theorem states them. -/
import Derived.Test.YtanecebppagakaaGreatDoorPAlx0
import Derived.Test.YtanecebppagakaaGreatDoorPAlx1
import Derived.Test.YtanecebppagakaaGreatDoorPAlx6
import Derived.Test.YtanecebppagakaaGreatDoorPAlx7
import Derived.Test.YtanecebppagakaaGreatDoorPAlx8
namespace Go.Proofs.YtanecebppagakaaGreatDoor.PAl
open Go.RowKit Go.Proofs.YtanecebppagakaaGreatDoorW.PrintWords Go.Proofs.YtanecebppagakaaGreatDoorW.PrintLast Go.Proofs.YtanecebppagakaaGreatDoorW.PrintMore
attribute [local go_sem] max2_int min2_int max_two min_two max_three min_three max_four min_four   -- for this text's walks alone
set_option linter.unusedVariables false
set_option linter.unusedSimpArgs false

/-! ### laws_FnDocAnyLength: function 4 -/
mutual
def laws_FnDocAnyLength.j2 : Nat → Int → List Int → Int → Bool → Option (Bool)
  | 0, _, _, _, _ => none
  | k + 1, x0, x1, x7, x8 => (laws_docCopy.f x1).bind fun t487 => ((impl_ValueLength.f k t487 (wrap64 (x0))).bind fun bt490 => ((laws_docAwake.f k).bind fun t492 => (if t492 = true then (if (bt490.2 == x8) = true then (if x8 = true then (some (bt490.1 == x7)) else (some true)) else (none)) else (none))))
def laws_FnDocAnyLength.j0 : Nat → Int → List Int → Int → Bool → Int → Bool → Int → Bool → Option (Bool)
  | 0, _, _, _, _, _, _, _, _ => none
  | k + 1, x0, x1, x5, x6, x7, x8, x33, x34 => if x34 = true then (if x6 = true then (laws_FnDocAnyLength.j2 k x0 x1 (wrap64 (4 + x5)) (decide (x5 ≥ 0))) else (laws_FnDocAnyLength.j2 k x0 x1 (wrap64 (4 + x5)) false)) else (if x33 = 5 then (if x6 = true then (laws_FnDocAnyLength.j2 k x0 x1 (wrap64 (5 + x5)) (decide (x5 ≥ 0))) else (laws_FnDocAnyLength.j2 k x0 x1 (wrap64 (5 + x5)) false)) else (if x33 = 12 then (if x6 = true then (laws_FnDocAnyLength.j2 k x0 x1 (wrap64 (16 + x5)) (decide (x5 ≥ 0))) else (laws_FnDocAnyLength.j2 k x0 x1 (wrap64 (16 + x5)) false)) else (if x33 = 3 then (laws_FnDocAnyLength.j1 k x0 x1 x5 x6 x7 x8 x33 (x33 == 3)) else (if x33 = 4 then (laws_FnDocAnyLength.j1 k x0 x1 x5 x6 x7 x8 x33 (x33 == 4)) else (laws_FnDocAnyLength.j1 k x0 x1 x5 x6 x7 x8 x33 (x33 == 15))))))
def laws_FnDocAnyLength.j1 : Nat → Int → List Int → Int → Bool → Int → Bool → Int → Bool → Option (Bool)
  | 0, _, _, _, _, _, _, _, _ => none
  | k + 1, x0, x1, x5, x6, x7, x8, x33, x63 => if x63 = true then (if x6 = true then (laws_FnDocAnyLength.j2 k x0 x1 x5 (decide (x5 ≥ 0))) else (laws_FnDocAnyLength.j2 k x0 x1 x5 false)) else (if x33 = 11 then ((spec_DocLen.f k 11 x1).bind fun bt485 => (laws_FnDocAnyLength.j2 k x0 x1 bt485.1 bt485.2)) else (laws_FnDocAnyLength.j2 k x0 x1 x7 x8))
end
def laws_FnDocAnyLength.f (k : Nat) (a0 : Int) (l1 : List Int) : Option (Bool) := if (l1.length : Int) > 2147483647 then (some true) else ((laws_docModest.f l1).bind fun t474 => (if t474 = true then ((spec_DocNumber.f l1).bind fun bt475 => (if bt475.1 > 2147483548 then (some true) else ((laws_docCopy.f l1).bind fun t477 => (if t477.length + 20 < 140737488355328 then ((spec_DocSpan.f k (wrap64 (a0)) (t477 ++ List.replicate 20 0)).bind fun bt483 => (if a0 = 2 then (laws_FnDocAnyLength.j0 k a0 l1 bt475.1 bt475.2 bt483.1 bt483.2 a0 (a0 == 2)) else (if a0 = 13 then (laws_FnDocAnyLength.j0 k a0 l1 bt475.1 bt475.2 bt483.1 bt483.2 a0 (a0 == 13)) else (laws_FnDocAnyLength.j0 k a0 l1 bt475.1 bt475.2 bt483.1 bt483.2 a0 (a0 == 14))))) else (none))))) else (some true)))
theorem laws_FnDocAnyLength.mono_l : ∀ k, (∀ y0 y1 y2 y3, LeO (laws_FnDocAnyLength.j2 k y0 y1 y2 y3) (laws_FnDocAnyLength.j2 (k + 1) y0 y1 y2 y3)) ∧ (∀ y0 y1 y2 y3 y4 y5 y6 y7, LeO (laws_FnDocAnyLength.j0 k y0 y1 y2 y3 y4 y5 y6 y7) (laws_FnDocAnyLength.j0 (k + 1) y0 y1 y2 y3 y4 y5 y6 y7)) ∧ (∀ y0 y1 y2 y3 y4 y5 y6 y7, LeO (laws_FnDocAnyLength.j1 k y0 y1 y2 y3 y4 y5 y6 y7) (laws_FnDocAnyLength.j1 (k + 1) y0 y1 y2 y3 y4 y5 y6 y7))
  | 0 => ⟨fun _ _ _ _ r h => by simp [laws_FnDocAnyLength.j2] at h, fun _ _ _ _ _ _ _ _ r h => by simp [laws_FnDocAnyLength.j0] at h, fun _ _ _ _ _ _ _ _ r h => by simp [laws_FnDocAnyLength.j1] at h⟩
  | k + 1 => by
    obtain ⟨ih0, ih1, ih2⟩ := laws_FnDocAnyLength.mono_l k
    refine ⟨?_, ?_, ?_⟩
    · intro y0 y1 y2 y3
      unfold laws_FnDocAnyLength.j2
      repeat' first
      | (with_reducible exact ih0 _ _ _ _)
      | (with_reducible exact ih1 _ _ _ _ _ _ _ _)
      | (with_reducible exact ih2 _ _ _ _ _ _ _ _)
      | (with_reducible exact impl_ValueLength.mono _ _ _)
      | (with_reducible exact laws_docAwake.mono _)
      | (with_reducible exact spec_DocLen.mono _ _ _)
      | (with_reducible exact spec_DocSpan.mono _ _ _)
      | (with_reducible exact LeO.refl _)
      | (with_reducible exact LeO.none _)
      | (with_reducible refine LeO.ite ?_ ?_)
      | (with_reducible refine LeO.bind ?_ (fun _ => ?_))
      | exact ih0 _ _ _ _
      | exact ih1 _ _ _ _ _ _ _ _
      | exact ih2 _ _ _ _ _ _ _ _
      | exact impl_ValueLength.mono _ _ _
      | exact laws_docAwake.mono _
      | exact spec_DocLen.mono _ _ _
      | exact spec_DocSpan.mono _ _ _
      | exact LeO.none _
      | refine LeO.ite ?_ ?_
      | refine LeO.bind ?_ (fun _ => ?_)
    · intro y0 y1 y2 y3 y4 y5 y6 y7
      unfold laws_FnDocAnyLength.j0
      repeat' first
      | (with_reducible exact ih0 _ _ _ _)
      | (with_reducible exact ih1 _ _ _ _ _ _ _ _)
      | (with_reducible exact ih2 _ _ _ _ _ _ _ _)
      | (with_reducible exact impl_ValueLength.mono _ _ _)
      | (with_reducible exact laws_docAwake.mono _)
      | (with_reducible exact spec_DocLen.mono _ _ _)
      | (with_reducible exact spec_DocSpan.mono _ _ _)
      | (with_reducible exact LeO.refl _)
      | (with_reducible exact LeO.none _)
      | (with_reducible refine LeO.ite ?_ ?_)
      | (with_reducible refine LeO.bind ?_ (fun _ => ?_))
      | exact ih0 _ _ _ _
      | exact ih1 _ _ _ _ _ _ _ _
      | exact ih2 _ _ _ _ _ _ _ _
      | exact impl_ValueLength.mono _ _ _
      | exact laws_docAwake.mono _
      | exact spec_DocLen.mono _ _ _
      | exact spec_DocSpan.mono _ _ _
      | exact LeO.none _
      | refine LeO.ite ?_ ?_
      | refine LeO.bind ?_ (fun _ => ?_)
    · intro y0 y1 y2 y3 y4 y5 y6 y7
      unfold laws_FnDocAnyLength.j1
      repeat' first
      | (with_reducible exact ih0 _ _ _ _)
      | (with_reducible exact ih1 _ _ _ _ _ _ _ _)
      | (with_reducible exact ih2 _ _ _ _ _ _ _ _)
      | (with_reducible exact impl_ValueLength.mono _ _ _)
      | (with_reducible exact laws_docAwake.mono _)
      | (with_reducible exact spec_DocLen.mono _ _ _)
      | (with_reducible exact spec_DocSpan.mono _ _ _)
      | (with_reducible exact LeO.refl _)
      | (with_reducible exact LeO.none _)
      | (with_reducible refine LeO.ite ?_ ?_)
      | (with_reducible refine LeO.bind ?_ (fun _ => ?_))
      | exact ih0 _ _ _ _
      | exact ih1 _ _ _ _ _ _ _ _
      | exact ih2 _ _ _ _ _ _ _ _
      | exact impl_ValueLength.mono _ _ _
      | exact laws_docAwake.mono _
      | exact spec_DocLen.mono _ _ _
      | exact spec_DocSpan.mono _ _ _
      | exact LeO.none _
      | refine LeO.ite ?_ ?_
      | refine LeO.bind ?_ (fun _ => ?_)
theorem laws_FnDocAnyLength.mono : ∀ a0 a1 k, LeO (laws_FnDocAnyLength.f k a0 a1) (laws_FnDocAnyLength.f (k + 1) a0 a1) := by
  intro a0 a1 k
  obtain ⟨ih0, ih1, ih2⟩ := laws_FnDocAnyLength.mono_l k
  unfold laws_FnDocAnyLength.f
  repeat' first
      | (with_reducible exact ih0 _ _ _ _)
      | (with_reducible exact ih1 _ _ _ _ _ _ _ _)
      | (with_reducible exact ih2 _ _ _ _ _ _ _ _)
      | (with_reducible exact impl_ValueLength.mono _ _ _)
      | (with_reducible exact laws_docAwake.mono _)
      | (with_reducible exact spec_DocLen.mono _ _ _)
      | (with_reducible exact spec_DocSpan.mono _ _ _)
      | (with_reducible exact LeO.refl _)
      | (with_reducible exact LeO.none _)
      | (with_reducible refine LeO.ite ?_ ?_)
      | (with_reducible refine LeO.bind ?_ (fun _ => ?_))
      | exact ih0 _ _ _ _
      | exact ih1 _ _ _ _ _ _ _ _
      | exact ih2 _ _ _ _ _ _ _ _
      | exact impl_ValueLength.mono _ _ _
      | exact laws_docAwake.mono _
      | exact spec_DocLen.mono _ _ _
      | exact spec_DocSpan.mono _ _ _
      | exact LeO.none _
      | refine LeO.ite ?_ ?_
      | refine LeO.bind ?_ (fun _ => ?_)
set_option maxHeartbeats 8000000 in
set_option maxRecDepth 100000 in
theorem laws_FnDocAnyLength.calls (k : Nat) (a0 : Int) (A1 : Option Addr) (c1 : Nat) (l1 : List Int) (r : Bool) (w : World) (hr1 : Kd.C (Kd.int .u8) w A1 l1.length l1) (hc1 : l1.length ≤ c1) (h : laws_FnDocAnyLength.f k a0 l1 = some r) :
    Calls Tryz.prog 4 #[.int .u8 a0, .slice A1 l1.length c1] w fun e w' => e = .returned (.bool r) ∧ Below w.heap.size w w' := by
  have HR1 := Aside0.mk hr1
  have HC1 := Aside0.mk hc1
  clear hr1 hc1
  have HB := Aside0.mk (Below.refl w.heap.size w)
  have H : (if (l1.length : Int) > 2147483647 then (some true) else ((laws_docModest.f l1).bind fun t474 => (if t474 = true then ((spec_DocNumber.f l1).bind fun bt475 => (if bt475.1 > 2147483548 then (some true) else ((laws_docCopy.f l1).bind fun t477 => (if t477.length + 20 < 140737488355328 then ((spec_DocSpan.f k (wrap64 (a0)) (t477 ++ List.replicate 20 0)).bind fun bt483 => (if a0 = 2 then (laws_FnDocAnyLength.j0 k a0 l1 bt475.1 bt475.2 bt483.1 bt483.2 a0 (a0 == 2)) else (if a0 = 13 then (laws_FnDocAnyLength.j0 k a0 l1 bt475.1 bt475.2 bt483.1 bt483.2 a0 (a0 == 13)) else (laws_FnDocAnyLength.j0 k a0 l1 bt475.1 bt475.2 bt483.1 bt483.2 a0 (a0 == 14))))) else (none))))) else (some true)))) = some r := h
  clear h
  by_cases c3 : (l1.length : Int) > 2147483647
  · rw [if_pos c3] at H
    have c3b0 : decide (2147483647 < (l1.length : Int)) = true := decide_eq_true c3
    have c3b1 : decide (2147483647 < l1.length) = true := decide_eq_true (by omega)
    clear c3
    as_aux_lemma =>
      obtain rfl := Option.some.inj H
      go_enter Tryz.func4, Tryz.ntmps4
      go_wp2
      go_ret
      exact ⟨by first | rfl | (simp [errW_none, errW_some] <;> rfl) | (simp [*, errW_none, errW_some] <;> rfl), HW.zb⟩
  rw [if_neg c3] at H
  have c3b0 : decide (2147483647 < (l1.length : Int)) = false := decide_eq_false c3
  have c3b1 : decide (2147483647 < l1.length) = false := decide_eq_false (by omega)
  clear c3
  replace H := Option.bind_eq_some_iff.mp H
  obtain ⟨t474, A40, H⟩ := H
  replace H : (if t474 = true then ((spec_DocNumber.f l1).bind fun bt475 => (if bt475.1 > 2147483548 then (some true) else ((laws_docCopy.f l1).bind fun t477 => (if t477.length + 20 < 140737488355328 then ((spec_DocSpan.f k (wrap64 (a0)) (t477 ++ List.replicate 20 0)).bind fun bt483 => (if a0 = 2 then (laws_FnDocAnyLength.j0 k a0 l1 bt475.1 bt475.2 bt483.1 bt483.2 a0 (a0 == 2)) else (if a0 = 13 then (laws_FnDocAnyLength.j0 k a0 l1 bt475.1 bt475.2 bt483.1 bt483.2 a0 (a0 == 13)) else (laws_FnDocAnyLength.j0 k a0 l1 bt475.1 bt475.2 bt483.1 bt483.2 a0 (a0 == 14))))) else (none))))) else (some true)) = some r := H
  have A4 := Aside0.mk A40
  clear A40
  by_cases c5 : t474 = true
  rotate_left
  · replace c5 := Bool.eq_false_iff.mpr c5
    subst c5
    have H1 : (some true) = some r := by rw [if_neg (show ¬ (false = true) by decide)] at H; exact H
    clear H
    have H := H1
    clear H1
    as_aux_lemma =>
      obtain rfl := Option.some.inj H
      go_enter Tryz.func4, Tryz.ntmps4
      go_wp2_with (first | ((with_reducible refine gate_callee (f := 16) rfl ?_); refine HW.gz (some 15) rfl rfl Tryz.func16 (by kernel_rfl) rfl #[.slice A1 l1.length c1] rfl ?_; (with_reducible refine (laws_docModest.calls _ _ l1 false _ ?side1 ?side2 A4.out).mono ?_); (case side1 => repeat (first | exact HR1.out | (with_reducible refine Kd.C_alloc ?_ _) | (with_reducible refine Kd.C_drewN ?_ _) | (with_reducible refine Kd.C_drew ?_))); (case side2 => exact HC1.out); rintro e w' ⟨rfl, ⟨nd, rfl⟩⟩; refine ⟨_, rfl, ?_⟩))
      go_ret
      exact ⟨by first | rfl | (simp [errW_none, errW_some] <;> rfl) | (simp [*, errW_none, errW_some] <;> rfl), HW.zb⟩
  subst c5
  have H1 : ((spec_DocNumber.f l1).bind fun bt475 => (if bt475.1 > 2147483548 then (some true) else ((laws_docCopy.f l1).bind fun t477 => (if t477.length + 20 < 140737488355328 then ((spec_DocSpan.f k (wrap64 (a0)) (t477 ++ List.replicate 20 0)).bind fun bt483 => (if a0 = 2 then (laws_FnDocAnyLength.j0 k a0 l1 bt475.1 bt475.2 bt483.1 bt483.2 a0 (a0 == 2)) else (if a0 = 13 then (laws_FnDocAnyLength.j0 k a0 l1 bt475.1 bt475.2 bt483.1 bt483.2 a0 (a0 == 13)) else (laws_FnDocAnyLength.j0 k a0 l1 bt475.1 bt475.2 bt483.1 bt483.2 a0 (a0 == 14))))) else (none))))) = some r := by rw [if_pos rfl] at H; exact H
  clear H
  have H := H1
  clear H1
  replace H := Option.bind_eq_some_iff.mp H
  obtain ⟨⟨t475, t476⟩, A60, H⟩ := H
  replace H : (if t475 > 2147483548 then (some true) else ((laws_docCopy.f l1).bind fun t477 => (if t477.length + 20 < 140737488355328 then ((spec_DocSpan.f k (wrap64 (a0)) (t477 ++ List.replicate 20 0)).bind fun bt483 => (if a0 = 2 then (laws_FnDocAnyLength.j0 k a0 l1 t475 t476 bt483.1 bt483.2 a0 (a0 == 2)) else (if a0 = 13 then (laws_FnDocAnyLength.j0 k a0 l1 t475 t476 bt483.1 bt483.2 a0 (a0 == 13)) else (laws_FnDocAnyLength.j0 k a0 l1 t475 t476 bt483.1 bt483.2 a0 (a0 == 14))))) else (none)))) = some r := H
  have A6 := Aside0.mk A60
  clear A60
  by_cases c7 : t475 > 2147483548
  · rw [if_pos c7] at H
    have c7b0 : decide (2147483548 < t475) = true := decide_eq_true c7
    clear c7
    as_aux_lemma =>
      obtain rfl := Option.some.inj H
      go_enter Tryz.func4, Tryz.ntmps4
      go_wp2_with (first | ((with_reducible refine gate_callee (f := 16) rfl ?_); refine HW.gz (some 15) rfl rfl Tryz.func16 (by kernel_rfl) rfl #[.slice A1 l1.length c1] rfl ?_; (with_reducible refine (laws_docModest.calls _ _ l1 true _ ?side1 ?side2 A4.out).mono ?_); (case side1 => repeat (first | exact HR1.out | (with_reducible refine Kd.C_alloc ?_ _) | (with_reducible refine Kd.C_drewN ?_ _) | (with_reducible refine Kd.C_drew ?_))); (case side2 => exact HC1.out); rintro e w' ⟨rfl, ⟨nd, rfl⟩⟩; refine ⟨_, rfl, ?_⟩) | ((with_reducible refine gate_callee (f := 17) rfl ?_); refine HW.gz (some 19) rfl rfl Tryz.func17 (by kernel_rfl) rfl #[.slice A1 l1.length c1] rfl ?_; (with_reducible refine (spec_DocNumber.calls _ _ l1 t475 t476 _ ?side1 ?side2 A6.out).mono ?_); (case side1 => repeat (first | exact HR1.out | (with_reducible refine Kd.C_alloc ?_ _) | (with_reducible refine Kd.C_drewN ?_ _) | (with_reducible refine Kd.C_drew ?_))); (case side2 => exact HC1.out); rintro e w' ⟨rfl, ⟨nd, rfl⟩⟩; refine ⟨_, rfl, ?_⟩))
      go_ret
      exact ⟨by first | rfl | (simp [errW_none, errW_some] <;> rfl) | (simp [*, errW_none, errW_some] <;> rfl), HW.zb⟩
  rw [if_neg c7] at H
  have c7b0 : decide (2147483548 < t475) = false := decide_eq_false c7
  clear c7
  replace H := Option.bind_eq_some_iff.mp H
  obtain ⟨t477, A80, H⟩ := H
  replace H : (if t477.length + 20 < 140737488355328 then ((spec_DocSpan.f k (wrap64 (a0)) (t477 ++ List.replicate 20 0)).bind fun bt483 => (if a0 = 2 then (laws_FnDocAnyLength.j0 k a0 l1 t475 t476 bt483.1 bt483.2 a0 (a0 == 2)) else (if a0 = 13 then (laws_FnDocAnyLength.j0 k a0 l1 t475 t476 bt483.1 bt483.2 a0 (a0 == 13)) else (laws_FnDocAnyLength.j0 k a0 l1 t475 t476 bt483.1 bt483.2 a0 (a0 == 14))))) else (none)) = some r := H
  have A8 := Aside0.mk A80
  clear A80
  by_cases c9 : t477.length + 20 < 140737488355328
  rotate_left
  · rw [if_neg c9] at H
    exact absurd H (by simp)
  rw [if_pos c9] at H
  have LMc9 := Aside0.mk c9
  clear c9
  obtain ⟨y480, hy480⟩ : ∃ y_ : List Int, y_ = (t477 ++ List.replicate 20 0) := ⟨_, rfl⟩
  replace H : ((spec_DocSpan.f k (wrap64 (a0)) y480).bind fun bt483 => (if a0 = 2 then (laws_FnDocAnyLength.j0 k a0 l1 t475 t476 bt483.1 bt483.2 a0 (a0 == 2)) else (if a0 = 13 then (laws_FnDocAnyLength.j0 k a0 l1 t475 t476 bt483.1 bt483.2 a0 (a0 == 13)) else (laws_FnDocAnyLength.j0 k a0 l1 t475 t476 bt483.1 bt483.2 a0 (a0 == 14))))) = some r := by first | (rw [hy480]; with_reducible exact H) | (have H2_ := (Option.bind_some _ _).symm.trans H; rw [hy480]; with_reducible exact H2_) | (have H2_ := (Option.bind_some _ _).symm.trans H; with_reducible exact H2_) | with_reducible exact H | (rw [hy480]; exact H) | exact H
  have Ny480 := Aside0.mk hy480
  clear hy480
  replace H := Option.bind_eq_some_iff.mp H
  obtain ⟨⟨t483, t484⟩, A100, H⟩ := H
  replace H : (if a0 = 2 then (laws_FnDocAnyLength.j0 k a0 l1 t475 t476 t483 t484 a0 (a0 == 2)) else (if a0 = 13 then (laws_FnDocAnyLength.j0 k a0 l1 t475 t476 t483 t484 a0 (a0 == 13)) else (laws_FnDocAnyLength.j0 k a0 l1 t475 t476 t483 t484 a0 (a0 == 14)))) = some r := H
  have A10 := Aside0.mk A100
  clear A100
  have HC11 := Aside0.mk H
  clear H
  go_enter Tryz.func4, Tryz.ntmps4
  go_upto_block 0 with (first | ((with_reducible refine gate_callee (f := 16) rfl ?_); refine HW.gz (some 15) rfl rfl Tryz.func16 (by kernel_rfl) rfl #[.slice A1 l1.length c1] rfl ?_; (with_reducible refine (laws_docModest.calls _ _ l1 true _ ?side1 ?side2 A4.out).mono ?_); (case side1 => repeat (first | exact HR1.out | (with_reducible refine Kd.C_alloc ?_ _) | (with_reducible refine Kd.C_drewN ?_ _) | (with_reducible refine Kd.C_drew ?_))); (case side2 => exact HC1.out); rintro e w' ⟨rfl, ⟨nd, rfl⟩⟩; refine ⟨_, rfl, ?_⟩) | ((with_reducible refine gate_callee (f := 17) rfl ?_); refine HW.gz (some 19) rfl rfl Tryz.func17 (by kernel_rfl) rfl #[.slice A1 l1.length c1] rfl ?_; (with_reducible refine (spec_DocNumber.calls _ _ l1 t475 t476 _ ?side1 ?side2 A6.out).mono ?_); (case side1 => repeat (first | exact HR1.out | (with_reducible refine Kd.C_alloc ?_ _) | (with_reducible refine Kd.C_drewN ?_ _) | (with_reducible refine Kd.C_drew ?_))); (case side2 => exact HC1.out); rintro e w' ⟨rfl, ⟨nd, rfl⟩⟩; refine ⟨_, rfl, ?_⟩) | ((with_reducible refine gate_callee (f := 11) rfl ?_); refine HW.gz (some 28) rfl rfl Tryz.func11 (by kernel_rfl) rfl #[.slice A1 l1.length c1] rfl ?_; (with_reducible refine (laws_docCopy.calls _ _ l1 t477 _ ?side1 ?side2 A8.out).mono ?_); (case side1 => repeat (first | exact HR1.out | (with_reducible refine Kd.C_alloc ?_ _) | (with_reducible refine Kd.C_drewN ?_ _) | (with_reducible refine Kd.C_drew ?_))); (case side2 => exact HC1.out); rintro e w12 ⟨v478, rfl, ho0, hb⟩; refine ⟨_, rfl, ?_⟩; have n0_ := Aside0.mk (Kd.R_lower ho0 (below_size HW.zb)); have n1_ := Aside0.mk (below_step HW.zb hb); clear HB; have HO479 := n0_; have HB := n1_; clear n0_ n1_; (try clear hb); (try clear hb2); (try clear hk); (try clear hi); (try clear ho0)) | (at_builtin; refine Kd.R_append_zeros (Kd.int .u8) (w0 := w) w.heap.size rfl (.tmp 28) (.const (.int .i64 20)) 22 3 5 (.int .u8 0) 1 rfl Tryz.underlying22 Tryz.underlying3 info5 rfl (by decide) (by omega) v478 t477 0 (20 : Int) (fun _ => True) rfl rfl rfl ?aF ?aO (by omega) ?aB ?aS ?aL ?_; (case aB => exact HW.zb); (case aF => exact (fun _ _ => trivial)); (case aO => exact (HW.zR HO479.out)); (case aS => exact (below_size HW.zb)); (case aL => have := LMc9.out; omega); intro v481 w13 ho hb hg hat; (first | rw [← Ny480.out] at ho | (simp only [Int.reduceToNat] at ho; rw [← Ny480.out] at ho)); have n0_ := Aside0.mk (hb); have n1_ := Aside0.mk (ho); clear HB; clear HO479; have HB := n0_; have HO482 := n1_; clear n0_ n1_; clear ho hb hg hat; obtain ⟨Ao14, co14, eo14⟩ := Kd.R_slice HO482.out; subst eo14) | ((with_reducible refine gate_callee (f := 18) rfl ?_); refine HW.gz (some 30) rfl rfl Tryz.func18 (by kernel_rfl) rfl #[.int .i64 (wrap64 (a0)), .slice Ao14 y480.length co14] rfl ?_; (with_reducible refine (spec_DocSpan.calls k (wrap64 (a0)) _ _ y480 t483 t484 _ ?side1 ?side2 A10.out).mono ?_); (case side1 => repeat (first | exact (Kd.R_reads' HO482.out).2.2 | (with_reducible refine Kd.C_alloc ?_ _) | (with_reducible refine Kd.C_drewN ?_ _) | (with_reducible refine Kd.C_drew ?_))); (case side2 => exact (Kd.R_reads' HO482.out).2.1); rintro e w' ⟨rfl, ⟨nd, rfl⟩⟩; refine ⟨_, rfl, ?_⟩))
  (try simp only [Act.put, List.setIfInBounds_toArray, List.set_cons_zero, List.set_cons_succ])
  go_cut [7, 8] (fun v7 v8 wc => ∃ (kq : Nat) (x7_10 : Int) (x8_10 : Bool), v7 = .int .i64 x7_10 ∧ v8 = .bool x8_10 ∧ Aside0 (laws_FnDocAnyLength.j2 kq a0 l1 x7_10 x8_10 = some r) ∧ Aside0 (kq ≤ k) ∧ Aside0 (Below w.heap.size w wc))
  case first =>
    have H := HC11.out
    clear HC11
    have HC15 := Aside0.mk H
    clear H
    go_upto_if 34 with (fail)
    go_cut [34] (fun v34 wc => ∃ (kq : Nat) (x34_14 : Bool), v34 = .bool x34_14 ∧ Aside0 (laws_FnDocAnyLength.j0 kq a0 l1 t475 t476 t483 t484 a0 x34_14 = some r) ∧ Aside0 (kq ≤ k) ∧ Aside0 (Below w.heap.size w wc))
    case first =>
      have H := HC15.out
      clear HC15
      by_cases c16 : a0 = 2
      · rw [if_pos c16] at H
        have c16b0 : (a0 == 2) = true := beq_iff_eq.mpr c16
        have c16b1 : (a0 != 2) = false := bne_eq_false_iff_eq.mpr c16
        clear c16
        (first | rw [c16b0] | (simp only [i64_w, i32_w]; rw [c16b0]) | skip)
        as_aux_lemma =>
          have H' := Aside0.mk H
          clear H
          go_wp2
          go_meet
          case rel => exact ⟨_, ((a0 == 2)), (by first | rfl | (simp; done) | (simp [*]; done)), H', ⟨by first | omega | exact Nat.le_refl _⟩, ⟨HW.zb⟩⟩
      rw [if_neg c16] at H
      have c16b0 : (a0 == 2) = false := beq_eq_false_iff_ne.mpr c16
      have c16b1 : (a0 != 2) = true := bne_iff_ne.mpr c16
      (first | rw [c16b0] | (simp only [i64_w, i32_w]; rw [c16b0]) | skip)
      by_cases c17 : a0 = 13
      · rw [if_pos c17] at H
        have c17b0 : (a0 == 13) = true := beq_iff_eq.mpr c17
        have c17b1 : (a0 != 13) = false := bne_eq_false_iff_eq.mpr c17
        clear c17
        as_aux_lemma =>
          have H' := Aside0.mk H
          clear H
          go_wp2
          go_meet
          case rel => exact ⟨_, ((a0 == 13)), (by first | rfl | (simp; done) | (simp [*]; done)), H', ⟨by first | omega | exact Nat.le_refl _⟩, ⟨HW.zb⟩⟩
      rw [if_neg c17] at H
      have c17b0 : (a0 == 13) = false := beq_eq_false_iff_ne.mpr c17
      have c17b1 : (a0 != 13) = true := bne_iff_ne.mpr c17
      as_aux_lemma =>
        have H' := Aside0.mk H
        clear H
        go_wp2
        go_meet
        case rel => exact ⟨_, ((a0 == 14)), (by first | rfl | (simp; done) | (simp [*]; done)), H', ⟨by first | omega | exact Nat.le_refl _⟩, ⟨HW.zb⟩⟩
    case rest =>
      clear HC15
      try clear c1
      try clear p2
      try clear c3
      try clear c3b0
      try clear c3b1
      try clear c4
      try clear c5
      try clear p6
      try clear c7
      try clear c7b0
      try clear c9
      try clear c11
      try clear c16
      try clear c16b0
      try clear c16b1
      try clear c17
      try clear c17b0
      try clear c17b1
      obtain ⟨kq, x34_14, rfl, HA, HJ14, HB⟩ := hcut
      cases kq with
      | zero => exact absurd HA.out (by simp [laws_FnDocAnyLength.j0])
      | succ kj14 =>
        have H := HA.out
        clear HA
        simp only [laws_FnDocAnyLength.j0] at H
        by_cases c18 : x34_14 = true
        · subst c18
          have H1 : (if t476 = true then (laws_FnDocAnyLength.j2 kj14 a0 l1 (wrap64 (4 + t475)) (decide (t475 ≥ 0))) else (laws_FnDocAnyLength.j2 kj14 a0 l1 (wrap64 (4 + t475)) false)) = some r := by rw [if_pos rfl] at H; exact H
          clear H
          have H := H1
          clear H1
          by_cases c19 : t476 = true
          · subst c19
            have H1 : (laws_FnDocAnyLength.j2 kj14 a0 l1 (wrap64 (4 + t475)) (decide (t475 ≥ 0))) = some r := by rw [if_pos rfl] at H; exact H
            clear H
            have H := H1
            clear H1
            as_aux_lemma =>
              have H' := Aside0.mk H
              clear H
              go_wp2
              go_meet
              case rel => exact ⟨_, (wrap64 (4 + t475)), (decide (t475 ≥ 0)), (by first | rfl | (simp; done) | (simp [*]; done)), (by first | rfl | (simp; done) | (simp [*]; done)), H', ⟨by have := HJ14.out; first | omega | exact Nat.le_refl _⟩, ⟨HW.zb⟩⟩
          replace c19 := Bool.eq_false_iff.mpr c19
          subst c19
          have H1 : (laws_FnDocAnyLength.j2 kj14 a0 l1 (wrap64 (4 + t475)) false) = some r := by rw [if_neg (show ¬ (false = true) by decide)] at H; exact H
          clear H
          have H := H1
          clear H1
          as_aux_lemma =>
            have H' := Aside0.mk H
            clear H
            go_wp2
            go_meet
            case rel => exact ⟨_, (wrap64 (4 + t475)), (false), (by first | rfl | (simp; done) | (simp [*]; done)), (by first | rfl | (simp; done) | (simp [*]; done)), H', ⟨by have := HJ14.out; first | omega | exact Nat.le_refl _⟩, ⟨HW.zb⟩⟩
        replace c18 := Bool.eq_false_iff.mpr c18
        subst c18
        have H1 : (if a0 = 5 then (if t476 = true then (laws_FnDocAnyLength.j2 kj14 a0 l1 (wrap64 (5 + t475)) (decide (t475 ≥ 0))) else (laws_FnDocAnyLength.j2 kj14 a0 l1 (wrap64 (5 + t475)) false)) else (if a0 = 12 then (if t476 = true then (laws_FnDocAnyLength.j2 kj14 a0 l1 (wrap64 (16 + t475)) (decide (t475 ≥ 0))) else (laws_FnDocAnyLength.j2 kj14 a0 l1 (wrap64 (16 + t475)) false)) else (if a0 = 3 then (laws_FnDocAnyLength.j1 kj14 a0 l1 t475 t476 t483 t484 a0 (a0 == 3)) else (if a0 = 4 then (laws_FnDocAnyLength.j1 kj14 a0 l1 t475 t476 t483 t484 a0 (a0 == 4)) else (laws_FnDocAnyLength.j1 kj14 a0 l1 t475 t476 t483 t484 a0 (a0 == 15)))))) = some r := by rw [if_neg (show ¬ (false = true) by decide)] at H; exact H
        clear H
        have H := H1
        clear H1
        by_cases c20 : a0 = 5
        · rw [if_pos c20] at H
          have c20b0 : (a0 == 5) = true := beq_iff_eq.mpr c20
          have c20b1 : (a0 != 5) = false := bne_eq_false_iff_eq.mpr c20
          clear c20
          by_cases c21 : t476 = true
          · subst c21
            have H1 : (laws_FnDocAnyLength.j2 kj14 a0 l1 (wrap64 (5 + t475)) (decide (t475 ≥ 0))) = some r := by rw [if_pos rfl] at H; exact H
            clear H
            have H := H1
            clear H1
            as_aux_lemma =>
              have H' := Aside0.mk H
              clear H
              go_wp2
              go_meet
              case rel => exact ⟨_, (wrap64 (5 + t475)), (decide (t475 ≥ 0)), (by first | rfl | (simp; done) | (simp [*]; done)), (by first | rfl | (simp; done) | (simp [*]; done)), H', ⟨by have := HJ14.out; first | omega | exact Nat.le_refl _⟩, ⟨HW.zb⟩⟩
          replace c21 := Bool.eq_false_iff.mpr c21
          subst c21
          have H1 : (laws_FnDocAnyLength.j2 kj14 a0 l1 (wrap64 (5 + t475)) false) = some r := by rw [if_neg (show ¬ (false = true) by decide)] at H; exact H
          clear H
          have H := H1
          clear H1
          as_aux_lemma =>
            have H' := Aside0.mk H
            clear H
            go_wp2
            go_meet
            case rel => exact ⟨_, (wrap64 (5 + t475)), (false), (by first | rfl | (simp; done) | (simp [*]; done)), (by first | rfl | (simp; done) | (simp [*]; done)), H', ⟨by have := HJ14.out; first | omega | exact Nat.le_refl _⟩, ⟨HW.zb⟩⟩
        rw [if_neg c20] at H
        have c20b0 : (a0 == 5) = false := beq_eq_false_iff_ne.mpr c20
        have c20b1 : (a0 != 5) = true := bne_iff_ne.mpr c20
        by_cases c22 : a0 = 12
        · rw [if_pos c22] at H
          have c22b0 : (a0 == 12) = true := beq_iff_eq.mpr c22
          have c22b1 : (a0 != 12) = false := bne_eq_false_iff_eq.mpr c22
          clear c22
          by_cases c23 : t476 = true
          · subst c23
            have H1 : (laws_FnDocAnyLength.j2 kj14 a0 l1 (wrap64 (16 + t475)) (decide (t475 ≥ 0))) = some r := by rw [if_pos rfl] at H; exact H
            clear H
            have H := H1
            clear H1
            as_aux_lemma =>
              have H' := Aside0.mk H
              clear H
              go_wp2
              go_meet
              case rel => exact ⟨_, (wrap64 (16 + t475)), (decide (t475 ≥ 0)), (by first | rfl | (simp; done) | (simp [*]; done)), (by first | rfl | (simp; done) | (simp [*]; done)), H', ⟨by have := HJ14.out; first | omega | exact Nat.le_refl _⟩, ⟨HW.zb⟩⟩
          replace c23 := Bool.eq_false_iff.mpr c23
          subst c23
          have H1 : (laws_FnDocAnyLength.j2 kj14 a0 l1 (wrap64 (16 + t475)) false) = some r := by rw [if_neg (show ¬ (false = true) by decide)] at H; exact H
          clear H
          have H := H1
          clear H1
          as_aux_lemma =>
            have H' := Aside0.mk H
            clear H
            go_wp2
            go_meet
            case rel => exact ⟨_, (wrap64 (16 + t475)), (false), (by first | rfl | (simp; done) | (simp [*]; done)), (by first | rfl | (simp; done) | (simp [*]; done)), H', ⟨by have := HJ14.out; first | omega | exact Nat.le_refl _⟩, ⟨HW.zb⟩⟩
        rw [if_neg c22] at H
        have c22b0 : (a0 == 12) = false := beq_eq_false_iff_ne.mpr c22
        have c22b1 : (a0 != 12) = true := bne_iff_ne.mpr c22
        have HC24 := Aside0.mk H
        clear H
        go_upto_if 63 with (fail)
        go_cut [63] (fun v63 wc => ∃ (kq : Nat) (x63_23 : Bool), v63 = .bool x63_23 ∧ Aside0 (laws_FnDocAnyLength.j1 kq a0 l1 t475 t476 t483 t484 a0 x63_23 = some r) ∧ Aside0 (kq ≤ kj14) ∧ Aside0 (Below w.heap.size w wc))
        case first =>
          have H := HC24.out
          clear HC24
          by_cases c25 : a0 = 3
          · rw [if_pos c25] at H
            have c25b0 : (a0 == 3) = true := beq_iff_eq.mpr c25
            have c25b1 : (a0 != 3) = false := bne_eq_false_iff_eq.mpr c25
            clear c25
            (first | rw [c25b0] | (simp only [i64_w, i32_w]; rw [c25b0]) | skip)
            as_aux_lemma =>
              have H' := Aside0.mk H
              clear H
              go_wp2
              go_meet
              case rel => exact ⟨_, ((a0 == 3)), (by first | rfl | (simp; done) | (simp [*]; done)), H', ⟨by have := HJ14.out; first | omega | exact Nat.le_refl _⟩, ⟨HW.zb⟩⟩
          rw [if_neg c25] at H
          have c25b0 : (a0 == 3) = false := beq_eq_false_iff_ne.mpr c25
          have c25b1 : (a0 != 3) = true := bne_iff_ne.mpr c25
          (first | rw [c25b0] | (simp only [i64_w, i32_w]; rw [c25b0]) | skip)
          by_cases c26 : a0 = 4
          · rw [if_pos c26] at H
            have c26b0 : (a0 == 4) = true := beq_iff_eq.mpr c26
            have c26b1 : (a0 != 4) = false := bne_eq_false_iff_eq.mpr c26
            clear c26
            as_aux_lemma =>
              have H' := Aside0.mk H
              clear H
              go_wp2
              go_meet
              case rel => exact ⟨_, ((a0 == 4)), (by first | rfl | (simp; done) | (simp [*]; done)), H', ⟨by have := HJ14.out; first | omega | exact Nat.le_refl _⟩, ⟨HW.zb⟩⟩
          rw [if_neg c26] at H
          have c26b0 : (a0 == 4) = false := beq_eq_false_iff_ne.mpr c26
          have c26b1 : (a0 != 4) = true := bne_iff_ne.mpr c26
          as_aux_lemma =>
            have H' := Aside0.mk H
            clear H
            go_wp2
            go_meet
            case rel => exact ⟨_, ((a0 == 15)), (by first | rfl | (simp; done) | (simp [*]; done)), H', ⟨by have := HJ14.out; first | omega | exact Nat.le_refl _⟩, ⟨HW.zb⟩⟩
        case rest =>
          clear HC24
          try clear c1
          try clear c2
          try clear p2
          try clear c3
          try clear c3b0
          try clear c3b1
          try clear c4
          try clear c5
          try clear p6
          try clear c7
          try clear c7b0
          try clear c9
          try clear c11
          try clear c16
          try clear c16b0
          try clear c16b1
          try clear c17
          try clear c17b0
          try clear c17b1
          try clear c18
          try clear c19
          try clear c20
          try clear c20b0
          try clear c20b1
          try clear c21
          try clear c22
          try clear c22b0
          try clear c22b1
          try clear c23
          try clear c25
          try clear c25b0
          try clear c25b1
          try clear c26
          try clear c26b0
          try clear c26b1
          try clear p2
          try clear p6
          obtain ⟨kq, x63_23, rfl, HA, HJ23, HB⟩ := hcut
          cases kq with
          | zero => exact absurd HA.out (by simp [laws_FnDocAnyLength.j1])
          | succ kj23 =>
            have H := HA.out
            clear HA
            simp only [laws_FnDocAnyLength.j1] at H
            by_cases c27 : x63_23 = true
            · subst c27
              have H1 : (if t476 = true then (laws_FnDocAnyLength.j2 kj23 a0 l1 t475 (decide (t475 ≥ 0))) else (laws_FnDocAnyLength.j2 kj23 a0 l1 t475 false)) = some r := by rw [if_pos rfl] at H; exact H
              clear H
              have H := H1
              clear H1
              by_cases c28 : t476 = true
              · subst c28
                have H1 : (laws_FnDocAnyLength.j2 kj23 a0 l1 t475 (decide (t475 ≥ 0))) = some r := by rw [if_pos rfl] at H; exact H
                clear H
                have H := H1
                clear H1
                as_aux_lemma =>
                  have H' := Aside0.mk H
                  clear H
                  go_wp2
                  go_meet
                  case rel => exact ⟨_, (t475), (decide (t475 ≥ 0)), (by first | rfl | (simp; done) | (simp [*]; done)), (by first | rfl | (simp; done) | (simp [*]; done)), H', ⟨by have := HJ14.out; have := HJ23.out; first | omega | exact Nat.le_refl _⟩, ⟨HW.zb⟩⟩
              replace c28 := Bool.eq_false_iff.mpr c28
              subst c28
              have H1 : (laws_FnDocAnyLength.j2 kj23 a0 l1 t475 false) = some r := by rw [if_neg (show ¬ (false = true) by decide)] at H; exact H
              clear H
              have H := H1
              clear H1
              as_aux_lemma =>
                have H' := Aside0.mk H
                clear H
                go_wp2
                go_meet
                case rel => exact ⟨_, (t475), (false), (by first | rfl | (simp; done) | (simp [*]; done)), (by first | rfl | (simp; done) | (simp [*]; done)), H', ⟨by have := HJ14.out; have := HJ23.out; first | omega | exact Nat.le_refl _⟩, ⟨HW.zb⟩⟩
            replace c27 := Bool.eq_false_iff.mpr c27
            subst c27
            have H1 : (if a0 = 11 then ((spec_DocLen.f kj23 11 l1).bind fun bt485 => (laws_FnDocAnyLength.j2 kj23 a0 l1 bt485.1 bt485.2)) else (laws_FnDocAnyLength.j2 kj23 a0 l1 t483 t484)) = some r := by rw [if_neg (show ¬ (false = true) by decide)] at H; exact H
            clear H
            have H := H1
            clear H1
            by_cases c29 : a0 = 11
            rotate_left
            · rw [if_neg c29] at H
              have c29b0 : (a0 == 11) = false := beq_eq_false_iff_ne.mpr c29
              have c29b1 : (a0 != 11) = true := bne_iff_ne.mpr c29
              as_aux_lemma =>
                have H' := Aside0.mk H
                clear H
                go_wp2
                go_meet
                case rel => exact ⟨_, (t483), (t484), (by first | rfl | (simp; done) | (simp [*]; done)), (by first | rfl | (simp; done) | (simp [*]; done)), H', ⟨by have := HJ14.out; have := HJ23.out; first | omega | exact Nat.le_refl _⟩, ⟨HW.zb⟩⟩
            rw [if_pos c29] at H
            have c29b0 : (a0 == 11) = true := beq_iff_eq.mpr c29
            have c29b1 : (a0 != 11) = false := bne_eq_false_iff_eq.mpr c29
            clear c29
            replace H := Option.bind_eq_some_iff.mp H
            obtain ⟨⟨t485, t486⟩, A300, H⟩ := H
            replace H : (laws_FnDocAnyLength.j2 kj23 a0 l1 t485 t486) = some r := H
            have A30 := Aside0.mk A300
            clear A300
            as_aux_lemma =>
              have H' := Aside0.mk H
              clear H
              go_wp2_with (first | ((with_reducible refine gate_callee (f := 19) rfl ?_); refine HW.gz (some 77) rfl rfl Tryz.func19 (by kernel_rfl) rfl #[.int .i64 11, .slice A1 l1.length c1] rfl ?_; (with_reducible refine (spec_DocLen.calls kj23 11 _ _ l1 t485 t486 _ ?side1 ?side2 A30.out).mono ?_); (case side1 => repeat (first | exact (Kd.C_below HR1.out HB.out) | (with_reducible refine Kd.C_alloc ?_ _) | (with_reducible refine Kd.C_drewN ?_ _) | (with_reducible refine Kd.C_drew ?_))); (case side2 => exact HC1.out); rintro e w' ⟨rfl, ⟨nd, rfl⟩⟩; refine ⟨_, rfl, ?_⟩))
              go_meet
              case rel => exact ⟨_, (t485), (t486), (by first | rfl | (simp; done) | (simp [*]; done)), (by first | rfl | (simp; done) | (simp [*]; done)), H', ⟨by have := HJ14.out; have := HJ23.out; first | omega | exact Nat.le_refl _⟩, ⟨HW.zb⟩⟩
  case rest =>
    clear HC11
    try clear c1
    try clear c2
    try clear p2
    try clear c3
    try clear c3b0
    try clear c3b1
    try clear c4
    try clear c5
    try clear p6
    try clear c7
    try clear c7b0
    try clear c9
    try clear c11
    try clear c16
    try clear c16b0
    try clear c16b1
    try clear c17
    try clear c17b0
    try clear c17b1
    try clear c18
    try clear c19
    try clear c20
    try clear c20b0
    try clear c20b1
    try clear c21
    try clear c22
    try clear c22b0
    try clear c22b1
    try clear c23
    try clear c25
    try clear c25b0
    try clear c25b1
    try clear c26
    try clear c26b0
    try clear c26b1
    try clear c27
    try clear c28
    try clear c29
    try clear c29b0
    try clear c29b1
    try clear p2
    try clear p6
    obtain ⟨kq, x7_10, x8_10, rfl, rfl, HA, HJ10, HB⟩ := hcut
    cases kq with
    | zero => exact absurd HA.out (by simp [laws_FnDocAnyLength.j2])
    | succ kj10 =>
      have H := HA.out
      clear HA
      simp only [laws_FnDocAnyLength.j2] at H
      replace H := Option.bind_eq_some_iff.mp H
      obtain ⟨t487, A310, H⟩ := H
      replace H : ((impl_ValueLength.f kj10 t487 (wrap64 (a0))).bind fun bt490 => ((laws_docAwake.f kj10).bind fun t492 => (if t492 = true then (if (bt490.2 == x8_10) = true then (if x8_10 = true then (some (bt490.1 == x7_10)) else (some true)) else (none)) else (none)))) = some r := H
      have A31 := Aside0.mk A310
      clear A310
      replace H := Option.bind_eq_some_iff.mp H
      obtain ⟨⟨t490, t491⟩, A320, H⟩ := H
      replace H : ((laws_docAwake.f kj10).bind fun t492 => (if t492 = true then (if (t491 == x8_10) = true then (if x8_10 = true then (some (t490 == x7_10)) else (some true)) else (none)) else (none))) = some r := H
      have A32 := Aside0.mk A320
      clear A320
      replace H := Option.bind_eq_some_iff.mp H
      obtain ⟨t492, A330, H⟩ := H
      replace H : (if t492 = true then (if (t491 == x8_10) = true then (if x8_10 = true then (some (t490 == x7_10)) else (some true)) else (none)) else (none)) = some r := H
      have A33 := Aside0.mk A330
      clear A330
      by_cases c34 : t492 = true
      rotate_left
      · replace c34 := Bool.eq_false_iff.mpr c34
        subst c34
        have H1 : (none) = some r := by rw [if_neg (show ¬ (false = true) by decide)] at H; exact H
        clear H
        have H := H1
        clear H1
        exact absurd H (by simp)
      subst c34
      have H1 : (if (t491 == x8_10) = true then (if x8_10 = true then (some (t490 == x7_10)) else (some true)) else (none)) = some r := by rw [if_pos rfl] at H; exact H
      clear H
      have H := H1
      clear H1
      by_cases c35 : (t491 == x8_10) = true
      rotate_left
      · rw [if_neg c35] at H
        exact absurd H (by simp)
      rw [if_pos c35] at H
      have c35b0 : (t491 == x8_10) = true := c35
      (try (have c35b1 : decide (t491 = x8_10) = true := by simpa using c35))
      (try (have c35b2 : (t491 == x8_10) = true := by simpa using c35))
      clear c35
      by_cases c36 : x8_10 = true
      · subst c36
        have H1 : (some (t490 == x7_10)) = some r := by rw [if_pos rfl] at H; exact H
        clear H
        have H := H1
        clear H1
        as_aux_lemma =>
          obtain rfl := Option.some.inj H
          go_wp2_with (first | ((with_reducible refine gate_callee (f := 11) rfl ?_); refine HW.gz (some 82) rfl rfl Tryz.func11 (by kernel_rfl) rfl #[.slice A1 l1.length c1] rfl ?_; (with_reducible refine (laws_docCopy.calls _ _ l1 t487 _ ?side1 ?side2 A31.out).mono ?_); (case side1 => repeat (first | exact (Kd.C_below HR1.out HB.out) | (with_reducible refine Kd.C_alloc ?_ _) | (with_reducible refine Kd.C_drewN ?_ _) | (with_reducible refine Kd.C_drew ?_))); (case side2 => exact HC1.out); rintro e w37 ⟨v488, rfl, ho0, hb⟩; refine ⟨_, rfl, ?_⟩; have n0_ := Aside0.mk (Kd.R_lower ho0 (below_size HW.zb)); have n1_ := Aside0.mk (below_step HW.zb hb); clear HB; have HO489 := n0_; have HB := n1_; clear n0_ n1_; (try clear hb); (try clear hb2); (try clear hk); (try clear hi); (try clear ho0); obtain ⟨Ao38, co38, eo38⟩ := Kd.R_slice HO489.out; subst eo38) | ((with_reducible refine gate_callee (f := 20) rfl ?_); refine HW.gz (some 85) rfl rfl Tryz.func20 (by kernel_rfl) rfl #[.slice Ao38 t487.length co38, .int .i64 (wrap64 (a0))] rfl ?_; (with_reducible refine (impl_ValueLength.calls kj10 _ _ t487 (wrap64 (a0)) t490 t491 _ ?side1 ?side2 A32.out).mono ?_); (case side1 => repeat (first | exact (Kd.R_reads' HO489.out).2.2 | (with_reducible refine Kd.C_alloc ?_ _) | (with_reducible refine Kd.C_drewN ?_ _) | (with_reducible refine Kd.C_drew ?_))); (case side2 => exact (Kd.R_reads' HO489.out).2.1); rintro e w39 ⟨rfl, hb⟩; refine ⟨_, rfl, ?_⟩; have n0_ := Aside0.mk (Kd.R_below (HW.zR HO489.out) hb); have n1_ := Aside0.mk (below_step HW.zb hb); clear HO489; clear HB; have HO489 := n0_; have HB := n1_; clear n0_ n1_; (try clear hb); (try clear hb2); (try clear hk); (try clear hi)) | ((with_reducible refine gate_callee (f := 15) rfl ?_); refine HW.gz (some 88) rfl rfl Tryz.func15 (by kernel_rfl) rfl #[] rfl ?_; (with_reducible refine (laws_docAwake.calls kj10  true _ A33.out).mono ?_); rintro e w40 ⟨rfl, hb⟩; refine ⟨_, rfl, ?_⟩; have n0_ := Aside0.mk (Kd.R_below (HW.zR HO489.out) hb); have n1_ := Aside0.mk (below_step HW.zb hb); clear HO489; clear HB; have HO489 := n0_; have HB := n1_; clear n0_ n1_; (try clear hb); (try clear hb2); (try clear hk); (try clear hi)))
          go_ret
          exact ⟨by first | rfl | (simp [errW_none, errW_some] <;> rfl) | (simp [*, errW_none, errW_some] <;> rfl), HW.zb⟩
      replace c36 := Bool.eq_false_iff.mpr c36
      subst c36
      have H1 : (some true) = some r := by rw [if_neg (show ¬ (false = true) by decide)] at H; exact H
      clear H
      have H := H1
      clear H1
      as_aux_lemma =>
        obtain rfl := Option.some.inj H
        go_wp2_with (first | ((with_reducible refine gate_callee (f := 11) rfl ?_); refine HW.gz (some 82) rfl rfl Tryz.func11 (by kernel_rfl) rfl #[.slice A1 l1.length c1] rfl ?_; (with_reducible refine (laws_docCopy.calls _ _ l1 t487 _ ?side1 ?side2 A31.out).mono ?_); (case side1 => repeat (first | exact (Kd.C_below HR1.out HB.out) | (with_reducible refine Kd.C_alloc ?_ _) | (with_reducible refine Kd.C_drewN ?_ _) | (with_reducible refine Kd.C_drew ?_))); (case side2 => exact HC1.out); rintro e w41 ⟨v488, rfl, ho0, hb⟩; refine ⟨_, rfl, ?_⟩; have n0_ := Aside0.mk (Kd.R_lower ho0 (below_size HW.zb)); have n1_ := Aside0.mk (below_step HW.zb hb); clear HB; have HO489 := n0_; have HB := n1_; clear n0_ n1_; (try clear hb); (try clear hb2); (try clear hk); (try clear hi); (try clear ho0); obtain ⟨Ao42, co42, eo42⟩ := Kd.R_slice HO489.out; subst eo42) | ((with_reducible refine gate_callee (f := 20) rfl ?_); refine HW.gz (some 85) rfl rfl Tryz.func20 (by kernel_rfl) rfl #[.slice Ao42 t487.length co42, .int .i64 (wrap64 (a0))] rfl ?_; (with_reducible refine (impl_ValueLength.calls kj10 _ _ t487 (wrap64 (a0)) t490 t491 _ ?side1 ?side2 A32.out).mono ?_); (case side1 => repeat (first | exact (Kd.R_reads' HO489.out).2.2 | (with_reducible refine Kd.C_alloc ?_ _) | (with_reducible refine Kd.C_drewN ?_ _) | (with_reducible refine Kd.C_drew ?_))); (case side2 => exact (Kd.R_reads' HO489.out).2.1); rintro e w43 ⟨rfl, hb⟩; refine ⟨_, rfl, ?_⟩; have n1_ := Aside0.mk (below_step HW.zb hb); clear HB; have HB := n1_; clear n1_; (try clear hb); (try clear hb2); (try clear hk); (try clear hi)) | ((with_reducible refine gate_callee (f := 15) rfl ?_); refine HW.gz (some 88) rfl rfl Tryz.func15 (by kernel_rfl) rfl #[] rfl ?_; (with_reducible refine (laws_docAwake.calls kj10  true _ A33.out).mono ?_); rintro e w44 ⟨rfl, hb⟩; refine ⟨_, rfl, ?_⟩; have n1_ := Aside0.mk (below_step HW.zb hb); clear HB; have HB := n1_; clear n1_; (try clear hb); (try clear hb2); (try clear hk); (try clear hi)))
        go_ret
        exact ⟨by first | rfl | (simp [errW_none, errW_some] <;> rfl) | (simp [*, errW_none, errW_some] <;> rfl), HW.zb⟩

end Go.Proofs.YtanecebppagakaaGreatDoor.PAl
