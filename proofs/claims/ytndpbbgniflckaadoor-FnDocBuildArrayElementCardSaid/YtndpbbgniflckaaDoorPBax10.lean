/- Printed by a program of this session (a turned copy of the printer of the kit): contracts of functions of the translation, each with the Lean function that it computes. Conditions: as each theorem states them. -/
import Derived.Test.YtndpbbgniflckaaDoorPBax0
import Derived.Test.YtndpbbgniflckaaDoorPBax1
import Derived.Test.YtndpbbgniflckaaDoorPBax4
import Derived.Test.YtndpbbgniflckaaDoorPBax5
import Derived.Test.YtndpbbgniflckaaDoorPBax7
import Derived.Test.YtndpbbgniflckaaDoorPBax9
namespace Go.Proofs.YtndpbbgniflckaaDoor.PBa
open Go.RowKit Go.Proofs.YtndpbbgniflckaaDoorW.PrintWords Go.Proofs.YtndpbbgniflckaaDoorW.PrintLast Go.Proofs.YtndpbbgniflckaaDoorW.PrintMore
attribute [local go_sem] max2_int min2_int max_two min_two max_three min_three max_four min_four   -- for this text's walks alone
set_option linter.unusedVariables false
set_option linter.unusedSimpArgs false

/-! ### laws_FnDocBuildArrayElement: function 4 -/
mutual
def laws_FnDocBuildArrayElement.j0 : Nat → List Int → ByteArray → List (S26) → Bool → Option (Bool)
  | 0, _, _, _, _ => none
  | k + 1, x0, x1, x2, x22 => if x22 = true then (some true) else ((laws_docArray.f k x2).bind fun bt475 => (if (x0.length : Int) > 1000 then (laws_FnDocBuildArrayElement.j1 k x0 x1 x2 true bt475.1 bt475.2.1 bt475.2.2.1 bt475.2.2.2.1 bt475.2.2.2.2.1 bt475.2.2.2.2.2.1 bt475.2.2.2.2.2.2.1 bt475.2.2.2.2.2.2.2) else (if (x1.size : Int) > 200 then (laws_FnDocBuildArrayElement.j1 k x0 x1 x2 true bt475.1 bt475.2.1 bt475.2.2.1 bt475.2.2.2.1 bt475.2.2.2.2.1 bt475.2.2.2.2.2.1 bt475.2.2.2.2.2.2.1 bt475.2.2.2.2.2.2.2) else ((spec_DocPlain.f k x1).bind fun t488 => (if t488 = true then ((laws_docFine.f k bt475.1 bt475.2.1 bt475.2.2.1 bt475.2.2.2.1 bt475.2.2.2.2.1 bt475.2.2.2.2.2.1 bt475.2.2.2.2.2.2.1 bt475.2.2.2.2.2.2.2).bind fun t489 => (laws_FnDocBuildArrayElement.j1 k x0 x1 x2 (!t489) bt475.1 bt475.2.1 bt475.2.2.1 bt475.2.2.2.1 bt475.2.2.2.2.1 bt475.2.2.2.2.2.1 bt475.2.2.2.2.2.2.1 bt475.2.2.2.2.2.2.2)) else (laws_FnDocBuildArrayElement.j1 k x0 x1 x2 true bt475.1 bt475.2.1 bt475.2.2.1 bt475.2.2.2.1 bt475.2.2.2.2.1 bt475.2.2.2.2.2.1 bt475.2.2.2.2.2.2.1 bt475.2.2.2.2.2.2.2))))))
def laws_FnDocBuildArrayElement.j1 : Nat → List Int → ByteArray → List (S26) → Bool → Int → ByteArray → ByteArray → Int → Int → Int → List Int → List (S31) → Option (Bool)
  | 0, _, _, _, _, _, _, _, _, _, _, _, _ => none
  | k + 1, x0, x1, x2, x42, x488000, x488001, x488002, x488003, x488004, x488005, x488006, x488007 => if x42 = true then (some true) else (laws_FnDocBuildArrayElement.l0 k x0 x1 x2 ([] : List (S37)) 0 x488000 x488001 x488002 x488003 x488004 x488005 x488006 x488007)
def laws_FnDocBuildArrayElement.l0 : Nat → List Int → ByteArray → List (S26) → List (S37) → Int → Int → ByteArray → ByteArray → Int → Int → Int → List Int → List (S31) → Option (Bool)
  | 0, _, _, _, _, _, _, _, _, _, _, _, _, _ => none
  | k + 1, x0, x1, x2, x8, x9, x488000, x488001, x488002, x488003, x488004, x488005, x488006, x488007 => if x9 < (x2.length : Int) then (if 0 ≤ x9 then ((laws_docRaw.f k ((rd_T26 x2 x9).f0) ((rd_T26 x2 x9).f1) ((rd_T26 x2 x9).f2) ((rd_T26 x2 x9).f3) ((rd_T26 x2 x9).f4) ((rd_T26 x2 x9).f5) ((rd_T26 x2 x9).f6) ((rd_T26 x2 x9).f7)).bind fun bt491 => (if x8.length < 4398046511104 then (laws_FnDocBuildArrayElement.l0 k x0 x1 x2 (x8 ++ [(⟨bt491.1, bt491.2⟩ : S37)]) (wrap64 (x9 + 1)) x488000 x488001 x488002 x488003 x488004 x488005 x488006 x488007) else (none))) else (none)) else ((laws_docCopy.f x0).bind fun t498 => ((impl_BuildArrayElement.f k t498 x1 x8).bind fun t501 => ((spec_DocElem.f k x1 x488000 x488001 x488002 x488003 x488004 x488005 x488006 x488007).bind fun t504 => (if (strOfNums x0).size + (strOfNums t504).size ≤ 9223372036854775807 then (some ((strOfNums t501).toList == ((strOfNums x0) ++ (strOfNums t504)).toList)) else (none)))))
end
def laws_FnDocBuildArrayElement.f (k : Nat) (l0 : List Int) (a1 : ByteArray) (l2 : List (S26)) : Option (Bool) := if (l0.length : Int) > 2147483647 then (laws_FnDocBuildArrayElement.j0 k l0 a1 l2 true) else (if (a1.size : Int) > 2147483647 then (laws_FnDocBuildArrayElement.j0 k l0 a1 l2 true) else (laws_FnDocBuildArrayElement.j0 k l0 a1 l2 (decide ((l2.length : Int) > 2147483647))))
theorem laws_FnDocBuildArrayElement.mono_l : ∀ k, (∀ y0 y1 y2 y3, LeO (laws_FnDocBuildArrayElement.j0 k y0 y1 y2 y3) (laws_FnDocBuildArrayElement.j0 (k + 1) y0 y1 y2 y3)) ∧ (∀ y0 y1 y2 y3 y4 y5 y6 y7 y8 y9 y10 y11, LeO (laws_FnDocBuildArrayElement.j1 k y0 y1 y2 y3 y4 y5 y6 y7 y8 y9 y10 y11) (laws_FnDocBuildArrayElement.j1 (k + 1) y0 y1 y2 y3 y4 y5 y6 y7 y8 y9 y10 y11)) ∧ (∀ y0 y1 y2 y3 y4 y5 y6 y7 y8 y9 y10 y11 y12, LeO (laws_FnDocBuildArrayElement.l0 k y0 y1 y2 y3 y4 y5 y6 y7 y8 y9 y10 y11 y12) (laws_FnDocBuildArrayElement.l0 (k + 1) y0 y1 y2 y3 y4 y5 y6 y7 y8 y9 y10 y11 y12))
  | 0 => ⟨fun _ _ _ _ r h => by simp [laws_FnDocBuildArrayElement.j0] at h, fun _ _ _ _ _ _ _ _ _ _ _ _ r h => by simp [laws_FnDocBuildArrayElement.j1] at h, fun _ _ _ _ _ _ _ _ _ _ _ _ _ r h => by simp [laws_FnDocBuildArrayElement.l0] at h⟩
  | k + 1 => by
    obtain ⟨ih0, ih1, ih2⟩ := laws_FnDocBuildArrayElement.mono_l k
    refine ⟨?_, ?_, ?_⟩
    · intro y0 y1 y2 y3
      unfold laws_FnDocBuildArrayElement.j0
      repeat' first
      | (with_reducible exact ih0 _ _ _ _)
      | (with_reducible exact ih1 _ _ _ _ _ _ _ _ _ _ _ _)
      | (with_reducible exact ih2 _ _ _ _ _ _ _ _ _ _ _ _ _)
      | (with_reducible exact impl_BuildArrayElement.mono _ _ _ _)
      | (with_reducible exact laws_docArray.mono _ _)
      | (with_reducible exact laws_docFine.mono _ _ _ _ _ _ _ _ _)
      | (with_reducible exact laws_docRaw.mono _ _ _ _ _ _ _ _ _)
      | (with_reducible exact spec_DocElem.mono _ _ _ _ _ _ _ _ _ _)
      | (with_reducible exact spec_DocPlain.mono _ _)
      | (with_reducible exact LeO.refl _)
      | (with_reducible exact LeO.none _)
      | (with_reducible refine LeO.ite ?_ ?_)
      | (with_reducible refine LeO.bind ?_ (fun _ => ?_))
      | exact ih0 _ _ _ _
      | exact ih1 _ _ _ _ _ _ _ _ _ _ _ _
      | exact ih2 _ _ _ _ _ _ _ _ _ _ _ _ _
      | exact impl_BuildArrayElement.mono _ _ _ _
      | exact laws_docArray.mono _ _
      | exact laws_docFine.mono _ _ _ _ _ _ _ _ _
      | exact laws_docRaw.mono _ _ _ _ _ _ _ _ _
      | exact spec_DocElem.mono _ _ _ _ _ _ _ _ _ _
      | exact spec_DocPlain.mono _ _
      | exact LeO.none _
      | refine LeO.ite ?_ ?_
      | refine LeO.bind ?_ (fun _ => ?_)
    · intro y0 y1 y2 y3 y4 y5 y6 y7 y8 y9 y10 y11
      unfold laws_FnDocBuildArrayElement.j1
      repeat' first
      | (with_reducible exact ih0 _ _ _ _)
      | (with_reducible exact ih1 _ _ _ _ _ _ _ _ _ _ _ _)
      | (with_reducible exact ih2 _ _ _ _ _ _ _ _ _ _ _ _ _)
      | (with_reducible exact impl_BuildArrayElement.mono _ _ _ _)
      | (with_reducible exact laws_docArray.mono _ _)
      | (with_reducible exact laws_docFine.mono _ _ _ _ _ _ _ _ _)
      | (with_reducible exact laws_docRaw.mono _ _ _ _ _ _ _ _ _)
      | (with_reducible exact spec_DocElem.mono _ _ _ _ _ _ _ _ _ _)
      | (with_reducible exact spec_DocPlain.mono _ _)
      | (with_reducible exact LeO.refl _)
      | (with_reducible exact LeO.none _)
      | (with_reducible refine LeO.ite ?_ ?_)
      | (with_reducible refine LeO.bind ?_ (fun _ => ?_))
      | exact ih0 _ _ _ _
      | exact ih1 _ _ _ _ _ _ _ _ _ _ _ _
      | exact ih2 _ _ _ _ _ _ _ _ _ _ _ _ _
      | exact impl_BuildArrayElement.mono _ _ _ _
      | exact laws_docArray.mono _ _
      | exact laws_docFine.mono _ _ _ _ _ _ _ _ _
      | exact laws_docRaw.mono _ _ _ _ _ _ _ _ _
      | exact spec_DocElem.mono _ _ _ _ _ _ _ _ _ _
      | exact spec_DocPlain.mono _ _
      | exact LeO.none _
      | refine LeO.ite ?_ ?_
      | refine LeO.bind ?_ (fun _ => ?_)
    · intro y0 y1 y2 y3 y4 y5 y6 y7 y8 y9 y10 y11 y12
      unfold laws_FnDocBuildArrayElement.l0
      repeat' first
      | (with_reducible exact ih0 _ _ _ _)
      | (with_reducible exact ih1 _ _ _ _ _ _ _ _ _ _ _ _)
      | (with_reducible exact ih2 _ _ _ _ _ _ _ _ _ _ _ _ _)
      | (with_reducible exact impl_BuildArrayElement.mono _ _ _ _)
      | (with_reducible exact laws_docArray.mono _ _)
      | (with_reducible exact laws_docFine.mono _ _ _ _ _ _ _ _ _)
      | (with_reducible exact laws_docRaw.mono _ _ _ _ _ _ _ _ _)
      | (with_reducible exact spec_DocElem.mono _ _ _ _ _ _ _ _ _ _)
      | (with_reducible exact spec_DocPlain.mono _ _)
      | (with_reducible exact LeO.refl _)
      | (with_reducible exact LeO.none _)
      | (with_reducible refine LeO.ite ?_ ?_)
      | (with_reducible refine LeO.bind ?_ (fun _ => ?_))
      | exact ih0 _ _ _ _
      | exact ih1 _ _ _ _ _ _ _ _ _ _ _ _
      | exact ih2 _ _ _ _ _ _ _ _ _ _ _ _ _
      | exact impl_BuildArrayElement.mono _ _ _ _
      | exact laws_docArray.mono _ _
      | exact laws_docFine.mono _ _ _ _ _ _ _ _ _
      | exact laws_docRaw.mono _ _ _ _ _ _ _ _ _
      | exact spec_DocElem.mono _ _ _ _ _ _ _ _ _ _
      | exact spec_DocPlain.mono _ _
      | exact LeO.none _
      | refine LeO.ite ?_ ?_
      | refine LeO.bind ?_ (fun _ => ?_)
theorem laws_FnDocBuildArrayElement.mono : ∀ a0 a1 a2 k, LeO (laws_FnDocBuildArrayElement.f k a0 a1 a2) (laws_FnDocBuildArrayElement.f (k + 1) a0 a1 a2) := by
  intro a0 a1 a2 k
  obtain ⟨ih0, ih1, ih2⟩ := laws_FnDocBuildArrayElement.mono_l k
  unfold laws_FnDocBuildArrayElement.f
  repeat' first
      | (with_reducible exact ih0 _ _ _ _)
      | (with_reducible exact ih1 _ _ _ _ _ _ _ _ _ _ _ _)
      | (with_reducible exact ih2 _ _ _ _ _ _ _ _ _ _ _ _ _)
      | (with_reducible exact impl_BuildArrayElement.mono _ _ _ _)
      | (with_reducible exact laws_docArray.mono _ _)
      | (with_reducible exact laws_docFine.mono _ _ _ _ _ _ _ _ _)
      | (with_reducible exact laws_docRaw.mono _ _ _ _ _ _ _ _ _)
      | (with_reducible exact spec_DocElem.mono _ _ _ _ _ _ _ _ _ _)
      | (with_reducible exact spec_DocPlain.mono _ _)
      | (with_reducible exact LeO.refl _)
      | (with_reducible exact LeO.none _)
      | (with_reducible refine LeO.ite ?_ ?_)
      | (with_reducible refine LeO.bind ?_ (fun _ => ?_))
      | exact ih0 _ _ _ _
      | exact ih1 _ _ _ _ _ _ _ _ _ _ _ _
      | exact ih2 _ _ _ _ _ _ _ _ _ _ _ _ _
      | exact impl_BuildArrayElement.mono _ _ _ _
      | exact laws_docArray.mono _ _
      | exact laws_docFine.mono _ _ _ _ _ _ _ _ _
      | exact laws_docRaw.mono _ _ _ _ _ _ _ _ _
      | exact spec_DocElem.mono _ _ _ _ _ _ _ _ _ _
      | exact spec_DocPlain.mono _ _
      | exact LeO.none _
      | refine LeO.ite ?_ ?_
      | refine LeO.bind ?_ (fun _ => ?_)
def laws_FnDocBuildArrayElement.T11 : Bool × List (List Nat × List Nat) := (true, [([], []), ([0], [0]), ([], []), ([], []), ([1, 2, 3, 1], [1, 2, 3]), ([4], [4]), ([], []), ([6], [6]), ([], []), ([], []), ([8, 9], [8, 9]), ([10, 4], [10]), ([11], [11]), ([7, 12], [7, 12]), ([5, 13], [5, 13]), ([14, 11, 0, 1, 2, 3, 4, 5, 6, 7, 8, 9, 10, 11, 12, 13, 14], [14])])
def laws_FnDocBuildArrayElement.B11 : List Nat := [0, 1, 0, 0, 15, 31, 0, 64, 0, 0, 768, 1823, 3871, 8159, 16383, 32767]
theorem laws_FnDocBuildArrayElement.tab11 : rtab .any (opsOf Tryd.f4 11) = laws_FnDocBuildArrayElement.T11 := by kernel_rfl
theorem laws_FnDocBuildArrayElement.bits11 : waitsOk laws_FnDocBuildArrayElement.T11.2 laws_FnDocBuildArrayElement.B11 = true := by kernel_rfl
set_option maxHeartbeats 8000000 in
set_option maxRecDepth 100000 in
theorem laws_FnDocBuildArrayElement.calls (k : Nat) (A0 : Option Addr) (c0 : Nat) (l0 : List Int) (a1 : ByteArray) (A2 : Option Addr) (c2 : Nat) (l2 : List (S26)) (r : Bool) (w : World) (hlaid : Ito.LaidT w) (hr0 : Kd.C (Kd.int .u8) w A0 l0.length l0) (hc0 : l0.length ≤ c0) (hr2 : Kd.C k26 w A2 l2.length l2) (hc2 : l2.length ≤ c2) (h : laws_FnDocBuildArrayElement.f k l0 a1 l2 = some r) :
    Calls Tryd.prog 4 #[.slice A0 l0.length c0, .string a1, .slice A2 l2.length c2] w fun e w' => e = .returned (.bool r) ∧ Below w.heap.size w w' := by
  have hu26 := Tryd.underlying26
  have hu31 := Tryd.underlying31
  have HLAID := Aside0.mk hlaid
  clear hlaid
  have HR0 := Aside0.mk hr0
  have HC0 := Aside0.mk hc0
  clear hr0 hc0
  have HR2 := Aside0.mk hr2
  have HC2 := Aside0.mk hc2
  clear hr2 hc2
  have HB := Aside0.mk (Below.refl w.heap.size w)
  have H : (if (l0.length : Int) > 2147483647 then (laws_FnDocBuildArrayElement.j0 k l0 a1 l2 true) else (if (a1.size : Int) > 2147483647 then (laws_FnDocBuildArrayElement.j0 k l0 a1 l2 true) else (laws_FnDocBuildArrayElement.j0 k l0 a1 l2 (decide ((l2.length : Int) > 2147483647))))) = some r := h
  clear h
  have HC4 := Aside0.mk H
  clear H
  go_enter Tryd.func4, Tryd.ntmps4
  go_upto_region 1 with (fail)
  go_cut [22] (fun v22 wc => ∃ (kq : Nat) (x22_3 : Bool), v22 = .bool x22_3 ∧ Aside0 (laws_FnDocBuildArrayElement.j0 kq l0 a1 l2 x22_3 = some r) ∧ Aside0 (kq ≤ k) ∧ Aside0 (Below w.heap.size w wc))
  case first =>
    have H := HC4.out
    clear HC4
    by_cases c5 : (l0.length : Int) > 2147483647
    · rw [if_pos c5] at H
      have c5b0 : decide (2147483647 < (l0.length : Int)) = true := decide_eq_true c5
      have c5b1 : decide (2147483647 < l0.length) = true := decide_eq_true (by omega)
      clear c5
      (first | rw [c5b0] | (simp only [i64_w, i32_w]; rw [c5b0]) | skip)
      focus
        have H' := Aside0.mk H
        clear H
        go_wp2
        go_meet
        case rel => exact ⟨_, (true), (by first | rfl | (simp; done) | (simp [*]; done)), H', ⟨by first | omega | exact Nat.le_refl _⟩, ⟨by repeat (first | (with_reducible first | exact HB.out | apply below_alloc | apply pw_below_drewN | apply below_drew1) | exact HB.out)⟩⟩
    · rw [if_neg c5] at H
      have c5b0 : decide (2147483647 < (l0.length : Int)) = false := decide_eq_false c5
      have c5b1 : decide (2147483647 < l0.length) = false := decide_eq_false (by omega)
      clear c5
      (first | rw [c5b0] | (simp only [i64_w, i32_w]; rw [c5b0]) | skip)
      by_cases c6 : (a1.size : Int) > 2147483647
      · rw [if_pos c6] at H
        have c6b0 : decide (2147483647 < (a1.size : Int)) = true := decide_eq_true c6
        have c6b1 : decide (2147483647 < a1.size) = true := decide_eq_true (by omega)
        clear c6
        focus
          have H' := Aside0.mk H
          clear H
          go_wp2
          go_meet
          case rel => exact ⟨_, (true), (by first | rfl | (simp; done) | (simp [*]; done)), H', ⟨by first | omega | exact Nat.le_refl _⟩, ⟨by repeat (first | (with_reducible first | exact HB.out | apply below_alloc | apply pw_below_drewN | apply below_drew1) | exact HB.out)⟩⟩
      · rw [if_neg c6] at H
        have c6b0 : decide (2147483647 < (a1.size : Int)) = false := decide_eq_false c6
        have c6b1 : decide (2147483647 < a1.size) = false := decide_eq_false (by omega)
        clear c6
        focus
          have H' := Aside0.mk H
          clear H
          go_wp2
          go_meet
          case rel => exact ⟨_, (decide ((l2.length : Int) > 2147483647)), (by first | rfl | (simp; done) | (simp [*]; done)), H', ⟨by first | omega | exact Nat.le_refl _⟩, ⟨by repeat (first | (with_reducible first | exact HB.out | apply below_alloc | apply pw_below_drewN | apply below_drew1) | exact HB.out)⟩⟩
  case rest =>
    clear HC4
    try clear c2
    try clear p2
    try clear c4
    try clear c5
    try clear c5b0
    try clear c5b1
    try clear c6
    try clear c6b0
    try clear c6b1
    obtain ⟨kq, x22_3, rfl, HA, HJ3, HB⟩ := hcut
    cases kq with
    | zero => exact absurd HA.out (by simp [laws_FnDocBuildArrayElement.j0])
    | succ kj3 =>
      have H := HA.out
      clear HA
      simp only [laws_FnDocBuildArrayElement.j0] at H
      by_cases c7 : x22_3 = true
      · subst c7
        have H1 : (some true) = some r := by rw [if_pos rfl] at H; exact H
        clear H
        have H := H1
        clear H1
        focus
          obtain rfl := Option.some.inj H
          go_wp2
          go_ret
          exact ⟨by first | rfl | (simp [errW_none, errW_some] <;> rfl) | (simp [*, errW_none, errW_some] <;> rfl), by repeat (first | (with_reducible first | exact HB.out | apply below_alloc | apply pw_below_drewN | apply below_drew1) | exact HB.out)⟩
      · replace c7 := Bool.eq_false_iff.mpr c7
        subst c7
        have H1 : ((laws_docArray.f kj3 l2).bind fun bt475 => (if (l0.length : Int) > 1000 then (laws_FnDocBuildArrayElement.j1 kj3 l0 a1 l2 true bt475.1 bt475.2.1 bt475.2.2.1 bt475.2.2.2.1 bt475.2.2.2.2.1 bt475.2.2.2.2.2.1 bt475.2.2.2.2.2.2.1 bt475.2.2.2.2.2.2.2) else (if (a1.size : Int) > 200 then (laws_FnDocBuildArrayElement.j1 kj3 l0 a1 l2 true bt475.1 bt475.2.1 bt475.2.2.1 bt475.2.2.2.1 bt475.2.2.2.2.1 bt475.2.2.2.2.2.1 bt475.2.2.2.2.2.2.1 bt475.2.2.2.2.2.2.2) else ((spec_DocPlain.f kj3 a1).bind fun t488 => (if t488 = true then ((laws_docFine.f kj3 bt475.1 bt475.2.1 bt475.2.2.1 bt475.2.2.2.1 bt475.2.2.2.2.1 bt475.2.2.2.2.2.1 bt475.2.2.2.2.2.2.1 bt475.2.2.2.2.2.2.2).bind fun t489 => (laws_FnDocBuildArrayElement.j1 kj3 l0 a1 l2 (!t489) bt475.1 bt475.2.1 bt475.2.2.1 bt475.2.2.2.1 bt475.2.2.2.2.1 bt475.2.2.2.2.2.1 bt475.2.2.2.2.2.2.1 bt475.2.2.2.2.2.2.2)) else (laws_FnDocBuildArrayElement.j1 kj3 l0 a1 l2 true bt475.1 bt475.2.1 bt475.2.2.1 bt475.2.2.2.1 bt475.2.2.2.2.1 bt475.2.2.2.2.2.1 bt475.2.2.2.2.2.2.1 bt475.2.2.2.2.2.2.2)))))) = some r := by rw [if_neg (show ¬ (false = true) by decide)] at H; exact H
        clear H
        have H := H1
        clear H1
        replace H := Option.bind_eq_some_iff.mp H
        obtain ⟨⟨t475, t476, t477, t478, t479, t480, t481, t484⟩, A80, H⟩ := H
        replace H : (if (l0.length : Int) > 1000 then (laws_FnDocBuildArrayElement.j1 kj3 l0 a1 l2 true t475 t476 t477 t478 t479 t480 t481 t484) else (if (a1.size : Int) > 200 then (laws_FnDocBuildArrayElement.j1 kj3 l0 a1 l2 true t475 t476 t477 t478 t479 t480 t481 t484) else ((spec_DocPlain.f kj3 a1).bind fun t488 => (if t488 = true then ((laws_docFine.f kj3 t475 t476 t477 t478 t479 t480 t481 t484).bind fun t489 => (laws_FnDocBuildArrayElement.j1 kj3 l0 a1 l2 (!t489) t475 t476 t477 t478 t479 t480 t481 t484)) else (laws_FnDocBuildArrayElement.j1 kj3 l0 a1 l2 true t475 t476 t477 t478 t479 t480 t481 t484))))) = some r := H
        have A8 := Aside0.mk A80
        clear A80
        have HC9 := Aside0.mk H
        clear H
        go_upto_region 4 with (first | ((with_reducible refine gate_callee (f := 15) rfl ?_); refine goesL_ (some 24) rfl rfl Tryd.func15 (by kernel_rfl) rfl #[.slice A2 l2.length c2] rfl (by (try simp only [List.map_toArray, List.map_cons, List.map_nil]); first | done | rfl | (simp only [List.length_drop, List.length_take]; rfl)) ?_; (with_reducible refine (laws_docArray.calls kj3 (fun k_ => k_ < w.heap.size) _ _ l2 t475 t476 t477 t478 t479 t480 t481 t484 _ ?side1 A8.out).mono ?_); (case side1 => exact Kd.V_mk HC2.out (Kd.F_below (Kd.C_F k26_heap HR2.out) (by repeat (first | (with_reducible first | exact HB.out | apply below_alloc | apply pw_below_drewN | apply below_drew1) | exact HB.out)))); rintro e w10 ⟨v482, v485, rfl, ho0, ho1, hb⟩; refine ⟨_, rfl, ?_⟩; have n0_ := Aside0.mk (Kd.R_lower (Kd.R_mono (ok' := fun k_ => True) ho0 (fun _ hk_ => trivial)) (below_size (by repeat (first | (with_reducible first | exact HB.out | apply below_alloc | apply pw_below_drewN | apply below_drew1) | exact HB.out)))); have n1_ := Aside0.mk (Kd.N_lower (Kd.N_mono (ok' := fun k_ => some k_ ≠ (v482 : Value).ownBlock) ho1 (fun k_ hk_ => hk_.2)) (below_size (by repeat (first | (with_reducible first | exact HB.out | apply below_alloc | apply pw_below_drewN | apply below_drew1) | exact HB.out)))); have n2_ := Aside0.mk (below_step (by repeat (first | (with_reducible first | exact HB.out | apply below_alloc | apply pw_below_drewN | apply below_drew1) | exact HB.out)) hb); clear HB; have HO483 := n0_; have HO486 := n1_; have HB := n2_; clear n0_ n1_ n2_; (try clear hb); (try clear hb2); (try clear hk); (try clear hi); (try clear ho0); (try clear ho1)) | ((with_reducible refine gate_dst (N := 7) rfl ?_); (try (refine gate_guard (by rfl) ?_; dsimp only)); refine box_event ?hg (N := 7) ?hd (cs := #[.int .i64 0, .string (⟨#[]⟩ : ByteArray), .string (⟨#[]⟩ : ByteArray), .int .i64 0, .int .u64 0, .int .u64 0, .slice none 0 0, .slice none 0 0]) (t := 26) ?hr ?_; (case hd => rfl); (case hg => rfl); (case hr => first | (go_simp; done) | (go_simp; rfl)); intro gb487 hg w11 hbox hb; have n0_ := Aside0.mk (Kd.R_below (by (with_reducible repeat (first | apply Kd.R_alloc | apply Kd.R_drewN | apply Kd.R_drew)); exact HO483.out) hb); have n1_ := Aside0.mk (Kd.N_below (Kd.N_elderB (by (with_reducible repeat (first | apply Kd.N_alloc | apply Kd.N_drewN | apply Kd.N_drew)); exact HO486.out) gb487 (Nat.le_of_eq hg.symm)) hb); have n2_ := Aside0.mk (below_step (by repeat (first | (with_reducible first | exact HB.out | apply below_alloc | apply pw_below_drewN | apply below_drew1) | exact HB.out)) hb); have n3_ := Aside0.mk (hbox); have n4_ := Aside0.mk ((by rw [hg]; exact (below_size (by repeat (first | (with_reducible first | exact HB.out | apply below_alloc | apply pw_below_drewN | apply below_drew1) | exact HB.out))) : w.heap.size ≤ gb487)); have n5_ := Aside0.mk ((by rw [hg]; exact (below_size (by repeat (first | (with_reducible first | exact HB.out | apply below_alloc | apply pw_below_drewN | apply below_drew1) | exact HB.out))) : w.heap.size ≤ gb487)); clear HO483; clear HO486; clear HB; have HO483 := n0_; have HO486 := n1_; have HB := n2_; have BK487 := n3_; have GW487 := n4_; have GE487 := n5_; clear n0_ n1_ n2_ n3_ n4_ n5_; clear hb hbox hg; have hcz12_0 : w11.cell? ⟨gb487, 0, none⟩ = some (.int .i64 0) := (blk_cell BK487.out 0).trans rfl; have hcz12_1 : w11.cell? ⟨gb487, 1, none⟩ = some (.string (⟨#[]⟩ : ByteArray)) := (blk_cell BK487.out 1).trans rfl; have hcz12_2 : w11.cell? ⟨gb487, 2, none⟩ = some (.string (⟨#[]⟩ : ByteArray)) := (blk_cell BK487.out 2).trans rfl; have hcz12_3 : w11.cell? ⟨gb487, 3, none⟩ = some (.int .i64 0) := (blk_cell BK487.out 3).trans rfl; have hcz12_4 : w11.cell? ⟨gb487, 4, none⟩ = some (.int .u64 0) := (blk_cell BK487.out 4).trans rfl; have hcz12_5 : w11.cell? ⟨gb487, 5, none⟩ = some (.int .u64 0) := (blk_cell BK487.out 5).trans rfl; have hcz12_6 : w11.cell? ⟨gb487, 6, none⟩ = some (.slice none 0 0) := (blk_cell BK487.out 6).trans rfl; have hcz12_7 : w11.cell? ⟨gb487, 7, none⟩ = some (.slice none 0 0) := (blk_cell BK487.out 7).trans rfl; have hfz12_0 := blk_frozen BK487.out 0; have hfz12_1 := blk_frozen BK487.out 1; have hfz12_2 := blk_frozen BK487.out 2; have hfz12_3 := blk_frozen BK487.out 3; have hfz12_4 := blk_frozen BK487.out 4; have hfz12_5 := blk_frozen BK487.out 5; have hfz12_6 := blk_frozen BK487.out 6; have hfz12_7 := blk_frozen BK487.out 7; obtain ⟨Ao13, co13, eo13⟩ := Kd.R_slice HO483.out; subst eo13; obtain ⟨Ao14, co14, eo14⟩ := Kd.N_slice HO486.out; subst eo14))
        (try simp only [Act.put, List.setIfInBounds_toArray, List.set_cons_zero, List.set_cons_succ])
        go_cut [42] (fun v42 wc => ∃ (kq : Nat) (x42_8 : Bool), v42 = .bool x42_8 ∧ Aside0 (laws_FnDocBuildArrayElement.j1 kq l0 a1 l2 x42_8 t475 t476 t477 t478 t479 t480 t481 t484 = some r) ∧ Aside0 (kq ≤ kj3) ∧ Aside0 (Kd.R (Kd.int .u8) 5 wc w.heap.size (fun _ => True) (.slice Ao13 t481.length co13) t481) ∧ Aside0 (Kd.N k31 31 wc w.heap.size (fun k_ => some k_ ≠ ((.slice Ao13 t481.length co13) : Value).ownBlock ∧ k_ ≠ gb487) (.slice Ao14 t484.length co14) t484) ∧ Aside0 (wc.heap[gb487]? = some (.cells #[.int .i64 t475, .string t476, .string t477, .int .i64 t478, .int .u64 t479, .int .u64 t480, (.slice Ao13 t481.length co13), (.slice Ao14 t484.length co14)] 26 (0, 0))) ∧ Aside0 (Below w.heap.size w wc))
        case first =>
          have H := HC9.out
          clear HC9
          by_cases c15 : (l0.length : Int) > 1000
          · rw [if_pos c15] at H
            have c15b0 : decide (1000 < (l0.length : Int)) = true := decide_eq_true c15
            have c15b1 : decide (1000 < l0.length) = true := decide_eq_true (by omega)
            clear c15
            (first | rw [c15b0] | (simp only [i64_w, i32_w]; rw [c15b0]) | skip)
            focus
              have H' := Aside0.mk H
              clear H
              go_wp2
              go_meet
              case rel => exact ⟨_, (true), (by first | rfl | (simp; done) | (simp [*]; done)), H', ⟨by have := HJ3.out; first | omega | exact Nat.le_refl _⟩, ⟨by (with_reducible repeat (first | apply Kd.R_alloc | apply Kd.R_drewN | apply Kd.R_drew)); exact Kd.R_mono (Kd.R_far (p := ⟨gb487, 7, none⟩) (Kd.R_far (p := ⟨gb487, 6, none⟩) (Kd.R_far (p := ⟨gb487, 5, none⟩) (Kd.R_far (p := ⟨gb487, 4, none⟩) (Kd.R_far (p := ⟨gb487, 3, none⟩) (Kd.R_far (p := ⟨gb487, 2, none⟩) (Kd.R_far (p := ⟨gb487, 1, none⟩) (Kd.R_far (p := ⟨gb487, 0, none⟩) (Kd.R_types HO483.out BK487.out (by decide)) (fun _ hk => hk.2) (.int .i64 t475)) (fun _ hk => hk.2) (.string t476)) (fun _ hk => hk.2) (.string t477)) (fun _ hk => hk.2) (.int .i64 t478)) (fun _ hk => hk.2) (.int .u64 t479)) (fun _ hk => hk.2) (.int .u64 t480)) (fun _ hk => hk.2) (.slice Ao13 t481.length co13)) (fun _ hk => hk.2) (.slice Ao14 t484.length co14)) (fun _ hk => trivial)⟩, ⟨by (with_reducible repeat (first | apply Kd.N_alloc | apply Kd.N_drewN | apply Kd.N_drew)); exact Kd.N_mono (Kd.N_far (p := ⟨gb487, 7, none⟩) (Kd.N_far (p := ⟨gb487, 6, none⟩) (Kd.N_far (p := ⟨gb487, 5, none⟩) (Kd.N_far (p := ⟨gb487, 4, none⟩) (Kd.N_far (p := ⟨gb487, 3, none⟩) (Kd.N_far (p := ⟨gb487, 2, none⟩) (Kd.N_far (p := ⟨gb487, 1, none⟩) (Kd.N_far (p := ⟨gb487, 0, none⟩) (Kd.N_mono HO486.out (fun k_ hk => (⟨hk, hk.2⟩ : _ ∧ k_ ≠ gb487))) (fun _ hk => hk.2) (.int .i64 t475)) (fun _ hk => hk.2) (.string t476)) (fun _ hk => hk.2) (.string t477)) (fun _ hk => hk.2) (.int .i64 t478)) (fun _ hk => hk.2) (.int .u64 t479)) (fun _ hk => hk.2) (.int .u64 t480)) (fun _ hk => hk.2) (.slice Ao13 t481.length co13)) (fun _ hk => hk.2) (.slice Ao14 t484.length co14)) (fun _ hk => ⟨hk.1.1, hk.1.2⟩)⟩, ⟨by (with_reducible repeat (first | refine blk_drewN ?_ _ | refine blk_drew ?_ | refine blk_alloc ?_ _)); refine blk_put (cs := #[.int .i64 t475, .string t476, .string t477, .int .i64 t478, .int .u64 t479, .int .u64 t480, .slice Ao13 t481.length co13, .slice none 0 0]) ?_ 7 _ rfl; (with_reducible repeat (first | refine blk_drewN ?_ _ | refine blk_drew ?_ | refine blk_alloc ?_ _)); refine blk_put (cs := #[.int .i64 t475, .string t476, .string t477, .int .i64 t478, .int .u64 t479, .int .u64 t480, .slice none 0 0, .slice none 0 0]) ?_ 6 _ rfl; (with_reducible repeat (first | refine blk_drewN ?_ _ | refine blk_drew ?_ | refine blk_alloc ?_ _)); refine blk_put (cs := #[.int .i64 t475, .string t476, .string t477, .int .i64 t478, .int .u64 t479, .int .u64 0, .slice none 0 0, .slice none 0 0]) ?_ 5 _ rfl; (with_reducible repeat (first | refine blk_drewN ?_ _ | refine blk_drew ?_ | refine blk_alloc ?_ _)); refine blk_put (cs := #[.int .i64 t475, .string t476, .string t477, .int .i64 t478, .int .u64 0, .int .u64 0, .slice none 0 0, .slice none 0 0]) ?_ 4 _ rfl; (with_reducible repeat (first | refine blk_drewN ?_ _ | refine blk_drew ?_ | refine blk_alloc ?_ _)); refine blk_put (cs := #[.int .i64 t475, .string t476, .string t477, .int .i64 0, .int .u64 0, .int .u64 0, .slice none 0 0, .slice none 0 0]) ?_ 3 _ rfl; (with_reducible repeat (first | refine blk_drewN ?_ _ | refine blk_drew ?_ | refine blk_alloc ?_ _)); refine blk_put (cs := #[.int .i64 t475, .string t476, .string (⟨#[]⟩ : ByteArray), .int .i64 0, .int .u64 0, .int .u64 0, .slice none 0 0, .slice none 0 0]) ?_ 2 _ rfl; (with_reducible repeat (first | refine blk_drewN ?_ _ | refine blk_drew ?_ | refine blk_alloc ?_ _)); refine blk_put (cs := #[.int .i64 t475, .string (⟨#[]⟩ : ByteArray), .string (⟨#[]⟩ : ByteArray), .int .i64 0, .int .u64 0, .int .u64 0, .slice none 0 0, .slice none 0 0]) ?_ 1 _ rfl; (with_reducible repeat (first | refine blk_drewN ?_ _ | refine blk_drew ?_ | refine blk_alloc ?_ _)); refine blk_put (cs := #[.int .i64 0, .string (⟨#[]⟩ : ByteArray), .string (⟨#[]⟩ : ByteArray), .int .i64 0, .int .u64 0, .int .u64 0, .slice none 0 0, .slice none 0 0]) ?_ 0 _ rfl; (with_reducible repeat (first | refine blk_drewN ?_ _ | refine blk_drew ?_ | refine blk_alloc ?_ _)); exact BK487.out⟩, ⟨by repeat (first | (with_reducible first | exact HB.out | apply below_alloc | apply pw_below_drewN | apply below_drew1 | refine below_set ?_ GE487.out) | exact HB.out)⟩⟩
          · rw [if_neg c15] at H
            have c15b0 : decide (1000 < (l0.length : Int)) = false := decide_eq_false c15
            have c15b1 : decide (1000 < l0.length) = false := decide_eq_false (by omega)
            clear c15
            (first | rw [c15b0] | (simp only [i64_w, i32_w]; rw [c15b0]) | skip)
            by_cases c16 : (a1.size : Int) > 200
            · rw [if_pos c16] at H
              have c16b0 : decide (200 < (a1.size : Int)) = true := decide_eq_true c16
              have c16b1 : decide (200 < a1.size) = true := decide_eq_true (by omega)
              clear c16
              focus
                have H' := Aside0.mk H
                clear H
                go_wp2
                go_meet
                case rel => exact ⟨_, (true), (by first | rfl | (simp; done) | (simp [*]; done)), H', ⟨by have := HJ3.out; first | omega | exact Nat.le_refl _⟩, ⟨by (with_reducible repeat (first | apply Kd.R_alloc | apply Kd.R_drewN | apply Kd.R_drew)); exact Kd.R_mono (Kd.R_far (p := ⟨gb487, 7, none⟩) (Kd.R_far (p := ⟨gb487, 6, none⟩) (Kd.R_far (p := ⟨gb487, 5, none⟩) (Kd.R_far (p := ⟨gb487, 4, none⟩) (Kd.R_far (p := ⟨gb487, 3, none⟩) (Kd.R_far (p := ⟨gb487, 2, none⟩) (Kd.R_far (p := ⟨gb487, 1, none⟩) (Kd.R_far (p := ⟨gb487, 0, none⟩) (Kd.R_types HO483.out BK487.out (by decide)) (fun _ hk => hk.2) (.int .i64 t475)) (fun _ hk => hk.2) (.string t476)) (fun _ hk => hk.2) (.string t477)) (fun _ hk => hk.2) (.int .i64 t478)) (fun _ hk => hk.2) (.int .u64 t479)) (fun _ hk => hk.2) (.int .u64 t480)) (fun _ hk => hk.2) (.slice Ao13 t481.length co13)) (fun _ hk => hk.2) (.slice Ao14 t484.length co14)) (fun _ hk => trivial)⟩, ⟨by (with_reducible repeat (first | apply Kd.N_alloc | apply Kd.N_drewN | apply Kd.N_drew)); exact Kd.N_mono (Kd.N_far (p := ⟨gb487, 7, none⟩) (Kd.N_far (p := ⟨gb487, 6, none⟩) (Kd.N_far (p := ⟨gb487, 5, none⟩) (Kd.N_far (p := ⟨gb487, 4, none⟩) (Kd.N_far (p := ⟨gb487, 3, none⟩) (Kd.N_far (p := ⟨gb487, 2, none⟩) (Kd.N_far (p := ⟨gb487, 1, none⟩) (Kd.N_far (p := ⟨gb487, 0, none⟩) (Kd.N_mono HO486.out (fun k_ hk => (⟨hk, hk.2⟩ : _ ∧ k_ ≠ gb487))) (fun _ hk => hk.2) (.int .i64 t475)) (fun _ hk => hk.2) (.string t476)) (fun _ hk => hk.2) (.string t477)) (fun _ hk => hk.2) (.int .i64 t478)) (fun _ hk => hk.2) (.int .u64 t479)) (fun _ hk => hk.2) (.int .u64 t480)) (fun _ hk => hk.2) (.slice Ao13 t481.length co13)) (fun _ hk => hk.2) (.slice Ao14 t484.length co14)) (fun _ hk => ⟨hk.1.1, hk.1.2⟩)⟩, ⟨by (with_reducible repeat (first | refine blk_drewN ?_ _ | refine blk_drew ?_ | refine blk_alloc ?_ _)); refine blk_put (cs := #[.int .i64 t475, .string t476, .string t477, .int .i64 t478, .int .u64 t479, .int .u64 t480, .slice Ao13 t481.length co13, .slice none 0 0]) ?_ 7 _ rfl; (with_reducible repeat (first | refine blk_drewN ?_ _ | refine blk_drew ?_ | refine blk_alloc ?_ _)); refine blk_put (cs := #[.int .i64 t475, .string t476, .string t477, .int .i64 t478, .int .u64 t479, .int .u64 t480, .slice none 0 0, .slice none 0 0]) ?_ 6 _ rfl; (with_reducible repeat (first | refine blk_drewN ?_ _ | refine blk_drew ?_ | refine blk_alloc ?_ _)); refine blk_put (cs := #[.int .i64 t475, .string t476, .string t477, .int .i64 t478, .int .u64 t479, .int .u64 0, .slice none 0 0, .slice none 0 0]) ?_ 5 _ rfl; (with_reducible repeat (first | refine blk_drewN ?_ _ | refine blk_drew ?_ | refine blk_alloc ?_ _)); refine blk_put (cs := #[.int .i64 t475, .string t476, .string t477, .int .i64 t478, .int .u64 0, .int .u64 0, .slice none 0 0, .slice none 0 0]) ?_ 4 _ rfl; (with_reducible repeat (first | refine blk_drewN ?_ _ | refine blk_drew ?_ | refine blk_alloc ?_ _)); refine blk_put (cs := #[.int .i64 t475, .string t476, .string t477, .int .i64 0, .int .u64 0, .int .u64 0, .slice none 0 0, .slice none 0 0]) ?_ 3 _ rfl; (with_reducible repeat (first | refine blk_drewN ?_ _ | refine blk_drew ?_ | refine blk_alloc ?_ _)); refine blk_put (cs := #[.int .i64 t475, .string t476, .string (⟨#[]⟩ : ByteArray), .int .i64 0, .int .u64 0, .int .u64 0, .slice none 0 0, .slice none 0 0]) ?_ 2 _ rfl; (with_reducible repeat (first | refine blk_drewN ?_ _ | refine blk_drew ?_ | refine blk_alloc ?_ _)); refine blk_put (cs := #[.int .i64 t475, .string (⟨#[]⟩ : ByteArray), .string (⟨#[]⟩ : ByteArray), .int .i64 0, .int .u64 0, .int .u64 0, .slice none 0 0, .slice none 0 0]) ?_ 1 _ rfl; (with_reducible repeat (first | refine blk_drewN ?_ _ | refine blk_drew ?_ | refine blk_alloc ?_ _)); refine blk_put (cs := #[.int .i64 0, .string (⟨#[]⟩ : ByteArray), .string (⟨#[]⟩ : ByteArray), .int .i64 0, .int .u64 0, .int .u64 0, .slice none 0 0, .slice none 0 0]) ?_ 0 _ rfl; (with_reducible repeat (first | refine blk_drewN ?_ _ | refine blk_drew ?_ | refine blk_alloc ?_ _)); exact BK487.out⟩, ⟨by repeat (first | (with_reducible first | exact HB.out | apply below_alloc | apply pw_below_drewN | apply below_drew1 | refine below_set ?_ GE487.out) | exact HB.out)⟩⟩
            · rw [if_neg c16] at H
              have c16b0 : decide (200 < (a1.size : Int)) = false := decide_eq_false c16
              have c16b1 : decide (200 < a1.size) = false := decide_eq_false (by omega)
              clear c16
              replace H := Option.bind_eq_some_iff.mp H
              obtain ⟨t488, A170, H⟩ := H
              replace H : (if t488 = true then ((laws_docFine.f kj3 t475 t476 t477 t478 t479 t480 t481 t484).bind fun t489 => (laws_FnDocBuildArrayElement.j1 kj3 l0 a1 l2 (!t489) t475 t476 t477 t478 t479 t480 t481 t484)) else (laws_FnDocBuildArrayElement.j1 kj3 l0 a1 l2 true t475 t476 t477 t478 t479 t480 t481 t484)) = some r := H
              have A17 := Aside0.mk A170
              clear A170
              by_cases c18 : t488 = true
              · subst c18
                have H1 : ((laws_docFine.f kj3 t475 t476 t477 t478 t479 t480 t481 t484).bind fun t489 => (laws_FnDocBuildArrayElement.j1 kj3 l0 a1 l2 (!t489) t475 t476 t477 t478 t479 t480 t481 t484)) = some r := by rw [if_pos rfl] at H; exact H
                clear H
                have H := H1
                clear H1
                replace H := Option.bind_eq_some_iff.mp H
                obtain ⟨t489, A190, H⟩ := H
                replace H : (laws_FnDocBuildArrayElement.j1 kj3 l0 a1 l2 (!t489) t475 t476 t477 t478 t479 t480 t481 t484) = some r := H
                have A19 := Aside0.mk A190
                clear A190
                focus
                  have H' := Aside0.mk H
                  clear H
                  go_wp2_with (first | (go_at_call 6; (with_reducible refine (spec_DocPlain.calls kj3 a1 true _ A17.out).mono ?_); rintro e w' ⟨rfl, ⟨nd, rfl⟩⟩; have hcz20_0 : w11.cell? ⟨gb487, 0, none⟩ = some (.int .i64 0) := (blk_cell BK487.out 0).trans rfl; have hcz20_1 : w11.cell? ⟨gb487, 1, none⟩ = some (.string (⟨#[]⟩ : ByteArray)) := (blk_cell BK487.out 1).trans rfl; have hcz20_2 : w11.cell? ⟨gb487, 2, none⟩ = some (.string (⟨#[]⟩ : ByteArray)) := (blk_cell BK487.out 2).trans rfl; have hcz20_3 : w11.cell? ⟨gb487, 3, none⟩ = some (.int .i64 0) := (blk_cell BK487.out 3).trans rfl; have hcz20_4 : w11.cell? ⟨gb487, 4, none⟩ = some (.int .u64 0) := (blk_cell BK487.out 4).trans rfl; have hcz20_5 : w11.cell? ⟨gb487, 5, none⟩ = some (.int .u64 0) := (blk_cell BK487.out 5).trans rfl; have hcz20_6 : w11.cell? ⟨gb487, 6, none⟩ = some (.slice none 0 0) := (blk_cell BK487.out 6).trans rfl; have hcz20_7 : w11.cell? ⟨gb487, 7, none⟩ = some (.slice none 0 0) := (blk_cell BK487.out 7).trans rfl; have hfz20_0 := blk_frozen BK487.out 0; have hfz20_1 := blk_frozen BK487.out 1; have hfz20_2 := blk_frozen BK487.out 2; have hfz20_3 := blk_frozen BK487.out 3; have hfz20_4 := blk_frozen BK487.out 4; have hfz20_5 := blk_frozen BK487.out 5; have hfz20_6 := blk_frozen BK487.out 6; have hfz20_7 := blk_frozen BK487.out 7) | (go_at_call 7; (with_reducible refine (laws_docFine.calls kj3 t475 t476 t477 t478 t479 t480 _ _ t481 _ _ t484 t489 _ ?side1 ?side2 ?side3 ?side4 A19.out).mono ?_); (case side1 => refine (Kd.R_reads' (e := 5) (base := w.heap.size) (ok := fun k_ => True) (n := t481.length) (c := co13) ?_).2.2; exact (by (with_reducible repeat (first | apply Kd.R_alloc | apply Kd.R_drewN | apply Kd.R_drew)); exact (Kd.R_mono (Kd.R_far (p := ⟨gb487, 7, none⟩) (Kd.R_far (p := ⟨gb487, 6, none⟩) (Kd.R_far (p := ⟨gb487, 5, none⟩) (Kd.R_far (p := ⟨gb487, 4, none⟩) (Kd.R_far (p := ⟨gb487, 3, none⟩) (Kd.R_far (p := ⟨gb487, 2, none⟩) (Kd.R_far (p := ⟨gb487, 1, none⟩) (Kd.R_far (p := ⟨gb487, 0, none⟩) (Kd.R_types HO483.out BK487.out (by decide)) (fun _ hk => hk.2) (.int .i64 t475)) (fun _ hk => hk.2) (.string t476)) (fun _ hk => hk.2) (.string t477)) (fun _ hk => hk.2) (.int .i64 t478)) (fun _ hk => hk.2) (.int .u64 t479)) (fun _ hk => hk.2) (.int .u64 t480)) (fun _ hk => hk.2) (.slice Ao13 t481.length co13)) (fun _ hk => hk.2) (.slice Ao14 t484.length co14)) (fun _ h_ => h_.1)))); (case side2 => exact (Kd.R_reads' HO483.out).2.1); (case side3 => refine (Kd.N_reads' (e := 31) (base := w.heap.size) (ok := fun k_ => (some k_ ≠ (.slice Ao13 t481.length co13 : Value).ownBlock ∧ k_ ≠ gb487)) (n := t484.length) (c := co14) ?_).2.2; exact (by (with_reducible repeat (first | apply Kd.N_alloc | apply Kd.N_drewN | apply Kd.N_drew)); exact (Kd.N_mono (Kd.N_far (p := ⟨gb487, 7, none⟩) (Kd.N_far (p := ⟨gb487, 6, none⟩) (Kd.N_far (p := ⟨gb487, 5, none⟩) (Kd.N_far (p := ⟨gb487, 4, none⟩) (Kd.N_far (p := ⟨gb487, 3, none⟩) (Kd.N_far (p := ⟨gb487, 2, none⟩) (Kd.N_far (p := ⟨gb487, 1, none⟩) (Kd.N_far (p := ⟨gb487, 0, none⟩) (Kd.N_mono HO486.out (fun k_ hk => (⟨hk, hk.2⟩ : _ ∧ k_ ≠ gb487))) (fun _ hk => hk.2) (.int .i64 t475)) (fun _ hk => hk.2) (.string t476)) (fun _ hk => hk.2) (.string t477)) (fun _ hk => hk.2) (.int .i64 t478)) (fun _ hk => hk.2) (.int .u64 t479)) (fun _ hk => hk.2) (.int .u64 t480)) (fun _ hk => hk.2) (.slice Ao13 t481.length co13)) (fun _ hk => hk.2) (.slice Ao14 t484.length co14)) (fun _ h_ => h_.1)))); (case side4 => exact (Kd.N_reads' HO486.out).2.1); rintro e w21 ⟨rfl, hb⟩; have n0_ := Aside0.mk (Kd.R_below (by (with_reducible repeat (first | apply Kd.R_alloc | apply Kd.R_drewN | apply Kd.R_drew)); exact (Kd.R_mono (Kd.R_far (p := ⟨gb487, 7, none⟩) (Kd.R_far (p := ⟨gb487, 6, none⟩) (Kd.R_far (p := ⟨gb487, 5, none⟩) (Kd.R_far (p := ⟨gb487, 4, none⟩) (Kd.R_far (p := ⟨gb487, 3, none⟩) (Kd.R_far (p := ⟨gb487, 2, none⟩) (Kd.R_far (p := ⟨gb487, 1, none⟩) (Kd.R_far (p := ⟨gb487, 0, none⟩) (Kd.R_types HO483.out BK487.out (by decide)) (fun _ hk => hk.2) (.int .i64 t475)) (fun _ hk => hk.2) (.string t476)) (fun _ hk => hk.2) (.string t477)) (fun _ hk => hk.2) (.int .i64 t478)) (fun _ hk => hk.2) (.int .u64 t479)) (fun _ hk => hk.2) (.int .u64 t480)) (fun _ hk => hk.2) (.slice Ao13 t481.length co13)) (fun _ hk => hk.2) (.slice Ao14 t484.length co14)) (fun _ h_ => h_.1))) hb); have n1_ := Aside0.mk (Kd.N_below (by (with_reducible repeat (first | apply Kd.N_alloc | apply Kd.N_drewN | apply Kd.N_drew)); exact (Kd.N_mono (Kd.N_far (p := ⟨gb487, 7, none⟩) (Kd.N_far (p := ⟨gb487, 6, none⟩) (Kd.N_far (p := ⟨gb487, 5, none⟩) (Kd.N_far (p := ⟨gb487, 4, none⟩) (Kd.N_far (p := ⟨gb487, 3, none⟩) (Kd.N_far (p := ⟨gb487, 2, none⟩) (Kd.N_far (p := ⟨gb487, 1, none⟩) (Kd.N_far (p := ⟨gb487, 0, none⟩) (Kd.N_mono HO486.out (fun k_ hk => (⟨hk, hk.2⟩ : _ ∧ k_ ≠ gb487))) (fun _ hk => hk.2) (.int .i64 t475)) (fun _ hk => hk.2) (.string t476)) (fun _ hk => hk.2) (.string t477)) (fun _ hk => hk.2) (.int .i64 t478)) (fun _ hk => hk.2) (.int .u64 t479)) (fun _ hk => hk.2) (.int .u64 t480)) (fun _ hk => hk.2) (.slice Ao13 t481.length co13)) (fun _ hk => hk.2) (.slice Ao14 t484.length co14)) (fun _ h_ => h_.1))) hb); have n2_ := Aside0.mk (blk_below (g := gb487) (o := .cells #[.int .i64 t475, .string t476, .string t477, .int .i64 t478, .int .u64 t479, .int .u64 t480, .slice Ao13 t481.length co13, .slice Ao14 t484.length co14] 26 (0, 0)) (by (with_reducible repeat (first | refine blk_drewN ?_ _ | refine blk_drew ?_ | refine blk_alloc ?_ _)); refine blk_put (cs := #[.int .i64 t475, .string t476, .string t477, .int .i64 t478, .int .u64 t479, .int .u64 t480, .slice Ao13 t481.length co13, .slice none 0 0]) ?_ 7 _ rfl; (with_reducible repeat (first | refine blk_drewN ?_ _ | refine blk_drew ?_ | refine blk_alloc ?_ _)); refine blk_put (cs := #[.int .i64 t475, .string t476, .string t477, .int .i64 t478, .int .u64 t479, .int .u64 t480, .slice none 0 0, .slice none 0 0]) ?_ 6 _ rfl; (with_reducible repeat (first | refine blk_drewN ?_ _ | refine blk_drew ?_ | refine blk_alloc ?_ _)); refine blk_put (cs := #[.int .i64 t475, .string t476, .string t477, .int .i64 t478, .int .u64 t479, .int .u64 0, .slice none 0 0, .slice none 0 0]) ?_ 5 _ rfl; (with_reducible repeat (first | refine blk_drewN ?_ _ | refine blk_drew ?_ | refine blk_alloc ?_ _)); refine blk_put (cs := #[.int .i64 t475, .string t476, .string t477, .int .i64 t478, .int .u64 0, .int .u64 0, .slice none 0 0, .slice none 0 0]) ?_ 4 _ rfl; (with_reducible repeat (first | refine blk_drewN ?_ _ | refine blk_drew ?_ | refine blk_alloc ?_ _)); refine blk_put (cs := #[.int .i64 t475, .string t476, .string t477, .int .i64 0, .int .u64 0, .int .u64 0, .slice none 0 0, .slice none 0 0]) ?_ 3 _ rfl; (with_reducible repeat (first | refine blk_drewN ?_ _ | refine blk_drew ?_ | refine blk_alloc ?_ _)); refine blk_put (cs := #[.int .i64 t475, .string t476, .string (⟨#[]⟩ : ByteArray), .int .i64 0, .int .u64 0, .int .u64 0, .slice none 0 0, .slice none 0 0]) ?_ 2 _ rfl; (with_reducible repeat (first | refine blk_drewN ?_ _ | refine blk_drew ?_ | refine blk_alloc ?_ _)); refine blk_put (cs := #[.int .i64 t475, .string (⟨#[]⟩ : ByteArray), .string (⟨#[]⟩ : ByteArray), .int .i64 0, .int .u64 0, .int .u64 0, .slice none 0 0, .slice none 0 0]) ?_ 1 _ rfl; (with_reducible repeat (first | refine blk_drewN ?_ _ | refine blk_drew ?_ | refine blk_alloc ?_ _)); refine blk_put (cs := #[.int .i64 0, .string (⟨#[]⟩ : ByteArray), .string (⟨#[]⟩ : ByteArray), .int .i64 0, .int .u64 0, .int .u64 0, .slice none 0 0, .slice none 0 0]) ?_ 0 _ rfl; (with_reducible repeat (first | refine blk_drewN ?_ _ | refine blk_drew ?_ | refine blk_alloc ?_ _)); exact BK487.out) hb); have n3_ := Aside0.mk (below_step (by repeat (first | (with_reducible first | exact HB.out | apply below_alloc | apply pw_below_drewN | apply below_drew1 | refine below_set ?_ GE487.out) | exact HB.out)) hb); clear HO483; clear HO486; clear BK487; clear HB; have HO483 := n0_; have HO486 := n1_; have BK487 := n2_; have HB := n3_; clear n0_ n1_ n2_ n3_; (try clear hb); (try clear hb2); (try clear hk); (try clear hi)))
                  go_meet
                  case rel => exact ⟨_, (!t489), (by first | rfl | (simp; done) | (simp [*]; done)), H', ⟨by have := HJ3.out; first | omega | exact Nat.le_refl _⟩, ⟨by (with_reducible repeat (first | apply Kd.R_alloc | apply Kd.R_drewN | apply Kd.R_drew)); exact HO483.out⟩, ⟨by (with_reducible repeat (first | apply Kd.N_alloc | apply Kd.N_drewN | apply Kd.N_drew)); exact HO486.out⟩, ⟨by (with_reducible repeat (first | refine blk_drewN ?_ _ | refine blk_drew ?_ | refine blk_alloc ?_ _)); exact BK487.out⟩, ⟨by repeat (first | (with_reducible first | exact HB.out | apply below_alloc | apply pw_below_drewN | apply below_drew1 | refine below_set ?_ GE487.out) | exact HB.out)⟩⟩
              · replace c18 := Bool.eq_false_iff.mpr c18
                subst c18
                have H1 : (laws_FnDocBuildArrayElement.j1 kj3 l0 a1 l2 true t475 t476 t477 t478 t479 t480 t481 t484) = some r := by rw [if_neg (show ¬ (false = true) by decide)] at H; exact H
                clear H
                have H := H1
                clear H1
                focus
                  have H' := Aside0.mk H
                  clear H
                  go_wp2_with (first | (go_at_call 6; (with_reducible refine (spec_DocPlain.calls kj3 a1 false _ A17.out).mono ?_); rintro e w' ⟨rfl, ⟨nd, rfl⟩⟩))
                  go_meet
                  case rel => exact ⟨_, (true), (by first | rfl | (simp; done) | (simp [*]; done)), H', ⟨by have := HJ3.out; first | omega | exact Nat.le_refl _⟩, ⟨by (with_reducible repeat (first | apply Kd.R_alloc | apply Kd.R_drewN | apply Kd.R_drew)); exact Kd.R_mono (Kd.R_far (p := ⟨gb487, 7, none⟩) (Kd.R_far (p := ⟨gb487, 6, none⟩) (Kd.R_far (p := ⟨gb487, 5, none⟩) (Kd.R_far (p := ⟨gb487, 4, none⟩) (Kd.R_far (p := ⟨gb487, 3, none⟩) (Kd.R_far (p := ⟨gb487, 2, none⟩) (Kd.R_far (p := ⟨gb487, 1, none⟩) (Kd.R_far (p := ⟨gb487, 0, none⟩) (Kd.R_types HO483.out BK487.out (by decide)) (fun _ hk => hk.2) (.int .i64 t475)) (fun _ hk => hk.2) (.string t476)) (fun _ hk => hk.2) (.string t477)) (fun _ hk => hk.2) (.int .i64 t478)) (fun _ hk => hk.2) (.int .u64 t479)) (fun _ hk => hk.2) (.int .u64 t480)) (fun _ hk => hk.2) (.slice Ao13 t481.length co13)) (fun _ hk => hk.2) (.slice Ao14 t484.length co14)) (fun _ hk => trivial)⟩, ⟨by (with_reducible repeat (first | apply Kd.N_alloc | apply Kd.N_drewN | apply Kd.N_drew)); exact Kd.N_mono (Kd.N_far (p := ⟨gb487, 7, none⟩) (Kd.N_far (p := ⟨gb487, 6, none⟩) (Kd.N_far (p := ⟨gb487, 5, none⟩) (Kd.N_far (p := ⟨gb487, 4, none⟩) (Kd.N_far (p := ⟨gb487, 3, none⟩) (Kd.N_far (p := ⟨gb487, 2, none⟩) (Kd.N_far (p := ⟨gb487, 1, none⟩) (Kd.N_far (p := ⟨gb487, 0, none⟩) (Kd.N_mono HO486.out (fun k_ hk => (⟨hk, hk.2⟩ : _ ∧ k_ ≠ gb487))) (fun _ hk => hk.2) (.int .i64 t475)) (fun _ hk => hk.2) (.string t476)) (fun _ hk => hk.2) (.string t477)) (fun _ hk => hk.2) (.int .i64 t478)) (fun _ hk => hk.2) (.int .u64 t479)) (fun _ hk => hk.2) (.int .u64 t480)) (fun _ hk => hk.2) (.slice Ao13 t481.length co13)) (fun _ hk => hk.2) (.slice Ao14 t484.length co14)) (fun _ hk => ⟨hk.1.1, hk.1.2⟩)⟩, ⟨by (with_reducible repeat (first | refine blk_drewN ?_ _ | refine blk_drew ?_ | refine blk_alloc ?_ _)); refine blk_put (cs := #[.int .i64 t475, .string t476, .string t477, .int .i64 t478, .int .u64 t479, .int .u64 t480, .slice Ao13 t481.length co13, .slice none 0 0]) ?_ 7 _ rfl; (with_reducible repeat (first | refine blk_drewN ?_ _ | refine blk_drew ?_ | refine blk_alloc ?_ _)); refine blk_put (cs := #[.int .i64 t475, .string t476, .string t477, .int .i64 t478, .int .u64 t479, .int .u64 t480, .slice none 0 0, .slice none 0 0]) ?_ 6 _ rfl; (with_reducible repeat (first | refine blk_drewN ?_ _ | refine blk_drew ?_ | refine blk_alloc ?_ _)); refine blk_put (cs := #[.int .i64 t475, .string t476, .string t477, .int .i64 t478, .int .u64 t479, .int .u64 0, .slice none 0 0, .slice none 0 0]) ?_ 5 _ rfl; (with_reducible repeat (first | refine blk_drewN ?_ _ | refine blk_drew ?_ | refine blk_alloc ?_ _)); refine blk_put (cs := #[.int .i64 t475, .string t476, .string t477, .int .i64 t478, .int .u64 0, .int .u64 0, .slice none 0 0, .slice none 0 0]) ?_ 4 _ rfl; (with_reducible repeat (first | refine blk_drewN ?_ _ | refine blk_drew ?_ | refine blk_alloc ?_ _)); refine blk_put (cs := #[.int .i64 t475, .string t476, .string t477, .int .i64 0, .int .u64 0, .int .u64 0, .slice none 0 0, .slice none 0 0]) ?_ 3 _ rfl; (with_reducible repeat (first | refine blk_drewN ?_ _ | refine blk_drew ?_ | refine blk_alloc ?_ _)); refine blk_put (cs := #[.int .i64 t475, .string t476, .string (⟨#[]⟩ : ByteArray), .int .i64 0, .int .u64 0, .int .u64 0, .slice none 0 0, .slice none 0 0]) ?_ 2 _ rfl; (with_reducible repeat (first | refine blk_drewN ?_ _ | refine blk_drew ?_ | refine blk_alloc ?_ _)); refine blk_put (cs := #[.int .i64 t475, .string (⟨#[]⟩ : ByteArray), .string (⟨#[]⟩ : ByteArray), .int .i64 0, .int .u64 0, .int .u64 0, .slice none 0 0, .slice none 0 0]) ?_ 1 _ rfl; (with_reducible repeat (first | refine blk_drewN ?_ _ | refine blk_drew ?_ | refine blk_alloc ?_ _)); refine blk_put (cs := #[.int .i64 0, .string (⟨#[]⟩ : ByteArray), .string (⟨#[]⟩ : ByteArray), .int .i64 0, .int .u64 0, .int .u64 0, .slice none 0 0, .slice none 0 0]) ?_ 0 _ rfl; (with_reducible repeat (first | refine blk_drewN ?_ _ | refine blk_drew ?_ | refine blk_alloc ?_ _)); exact BK487.out⟩, ⟨by repeat (first | (with_reducible first | exact HB.out | apply below_alloc | apply pw_below_drewN | apply below_drew1 | refine below_set ?_ GE487.out) | exact HB.out)⟩⟩
        case rest =>
          clear HC9
          try clear c1
          try clear c2
          try clear p2
          try clear c4
          try clear c5
          try clear c5b0
          try clear c5b1
          try clear c6
          try clear c6b0
          try clear c6b1
          try clear c7
          try clear c15
          try clear c15b0
          try clear c15b1
          try clear c16
          try clear c16b0
          try clear c16b1
          try clear c18
          try clear hcz12_0
          try clear hcz12_1
          try clear hcz12_2
          try clear hcz12_3
          try clear hcz12_4
          try clear hcz12_5
          try clear hcz12_6
          try clear hcz12_7
          try clear hcz20_0
          try clear hcz20_1
          try clear hcz20_2
          try clear hcz20_3
          try clear hcz20_4
          try clear hcz20_5
          try clear hcz20_6
          try clear hcz20_7
          try clear hfz12_0
          try clear hfz12_1
          try clear hfz12_2
          try clear hfz12_3
          try clear hfz12_4
          try clear hfz12_5
          try clear hfz12_6
          try clear hfz12_7
          try clear hfz20_0
          try clear hfz20_1
          try clear hfz20_2
          try clear hfz20_3
          try clear hfz20_4
          try clear hfz20_5
          try clear hfz20_6
          try clear hfz20_7
          try clear p2
          obtain ⟨kq, x42_8, rfl, HA, HJ8, HO_488006, HO_488007, BK487, HB⟩ := hcut
          cases kq with
          | zero => exact absurd HA.out (by simp [laws_FnDocBuildArrayElement.j1])
          | succ kj8 =>
            have H := HA.out
            clear HA
            simp only [laws_FnDocBuildArrayElement.j1] at H
            by_cases c22 : x42_8 = true
            · subst c22
              have H1 : (some true) = some r := by rw [if_pos rfl] at H; exact H
              clear H
              have H := H1
              clear H1
              focus
                obtain rfl := Option.some.inj H
                go_wp2
                go_ret
                exact ⟨by first | rfl | (simp [errW_none, errW_some] <;> rfl) | (simp [*, errW_none, errW_some] <;> rfl), by repeat (first | (with_reducible first | exact HB.out | apply below_alloc | apply pw_below_drewN | apply below_drew1 | refine below_set ?_ GE487.out) | exact HB.out)⟩
            · replace c22 := Bool.eq_false_iff.mpr c22
              subst c22
              have H1 : (laws_FnDocBuildArrayElement.l0 kj8 l0 a1 l2 ([] : List (S37)) 0 t475 t476 t477 t478 t479 t480 t481 t484) = some r := by rw [if_neg (show ¬ (false = true) by decide)] at H; exact H
              clear H
              have H := H1
              clear H1
              have H' := Aside0.mk H
              clear H
              go_wp2
              go_loopg [8, 9] kj8 (fun kq v8 v9 w' => ∃ (x8_3 : List (S37)) (x9_3 : Int), v9 = .int .i64 x9_3 ∧ Aside0 (laws_FnDocBuildArrayElement.l0 kq l0 a1 l2 x8_3 x9_3 t475 t476 t477 t478 t479 t480 t481 t484 = some r) ∧ Aside0 (kq ≤ kj8) ∧ Aside0 (Kd.N k37 37 w' w.heap.size (fun k_ => some k_ ≠ ((.slice Ao13 t481.length co13) : Value).ownBlock ∧ some k_ ≠ ((.slice Ao14 t484.length co14) : Value).ownBlock ∧ k_ ≠ gb487) v8 x8_3) ∧ Aside0 (Kd.R (Kd.int .u8) 5 w' w.heap.size (fun _ => True) (.slice Ao13 t481.length co13) t481) ∧ Aside0 (Kd.N k31 31 w' w.heap.size (fun k_ => some k_ ≠ (v8 : Value).ownBlock ∧ some k_ ≠ ((.slice Ao13 t481.length co13) : Value).ownBlock ∧ k_ ≠ gb487) (.slice Ao14 t484.length co14) t484) ∧ Aside0 (w'.heap[gb487]? = some (.cells #[.int .i64 t475, .string t476, .string t477, .int .i64 t478, .int .u64 t479, .int .u64 t480, (.slice Ao13 t481.length co13), (.slice Ao14 t484.length co14)] 26 (0, 0))) ∧ Aside0 (Below w.heap.size w w'))
              case atStart => exact ⟨(([] : List (S37))), (0), (by first | rfl | (simp; done) | (simp [*]; done)), H', ⟨Nat.le_refl _⟩, ⟨by first | exact Kd.S_nil _ _ _ _ _ | exact Kd.N_nil _ _ _ _ _ | exact Kd.V_nil _ _ _ _ _ | exact Kd.Q_nil _ _ _ _ _ | exact Kd.R_nil _ _ _ _ _⟩, ⟨by (with_reducible repeat (first | apply Kd.R_alloc | apply Kd.R_drewN | apply Kd.R_drew)); exact HO_488006.out⟩, ⟨by (with_reducible repeat (first | apply Kd.N_alloc | apply Kd.N_drewN | apply Kd.N_drew)); exact Kd.N_mono HO_488007.out (fun _ hk => ⟨(by simp [Value.ownBlock]), ⟨hk.1, hk.2⟩⟩)⟩, ⟨by (with_reducible repeat (first | refine blk_drewN ?_ _ | refine blk_drew ?_ | refine blk_alloc ?_ _)); exact BK487.out⟩, ⟨by repeat (first | (with_reducible first | exact HB.out | apply below_alloc | apply pw_below_drewN | apply below_drew1 | refine below_set ?_ GE487.out) | exact HB.out)⟩⟩
              case round =>
                clear H'
                try clear c1
                try clear c2
                try clear p2
                try clear c4
                try clear c5
                try clear c5b0
                try clear c5b1
                try clear c6
                try clear c6b0
                try clear c6b1
                try clear c7
                try clear c15
                try clear c15b0
                try clear c15b1
                try clear c16
                try clear c16b0
                try clear c16b1
                try clear c18
                try clear c22
                try clear hcz12_0
                try clear hcz12_1
                try clear hcz12_2
                try clear hcz12_3
                try clear hcz12_4
                try clear hcz12_5
                try clear hcz12_6
                try clear hcz12_7
                try clear hcz20_0
                try clear hcz20_1
                try clear hcz20_2
                try clear hcz20_3
                try clear hcz20_4
                try clear hcz20_5
                try clear hcz20_6
                try clear hcz20_7
                try clear hfz12_0
                try clear hfz12_1
                try clear hfz12_2
                try clear hfz12_3
                try clear hfz12_4
                try clear hfz12_5
                try clear hfz12_6
                try clear hfz12_7
                try clear hfz20_0
                try clear hfz20_1
                try clear hfz20_2
                try clear hfz20_3
                try clear hfz20_4
                try clear hfz20_5
                try clear hfz20_6
                try clear hfz20_7
                try clear p2
                obtain ⟨x8_3, x9_3, rfl, HA, HK3, HO_8, HO_488006, HO_488007, BK487, HB⟩ := hrel
                cases gk with
                | zero => exact absurd HA.out (by simp [laws_FnDocBuildArrayElement.l0])
                | succ k3 =>
                  have H := HA.out
                  clear HA
                  simp only [laws_FnDocBuildArrayElement.l0] at H
                  by_cases c23 : x9_3 < (l2.length : Int)
                  · rw [if_pos c23] at H
                    have c23b0 : decide (x9_3 < (l2.length : Int)) = true := decide_eq_true c23
                    clear c23
                    by_cases c24 : 0 ≤ x9_3
                    · rw [if_pos c24] at H
                      have c24b0 : decide (0 ≤ x9_3) = true := decide_eq_true c24
                      clear c24
                      replace H := Option.bind_eq_some_iff.mp H
                      obtain ⟨⟨t491, t492⟩, A250, H⟩ := H
                      replace H : (if x8_3.length < 4398046511104 then (laws_FnDocBuildArrayElement.l0 k3 l0 a1 l2 (x8_3 ++ [(⟨t491, t492⟩ : S37)]) (wrap64 (x9_3 + 1)) t475 t476 t477 t478 t479 t480 t481 t484) else (none)) = some r := H
                      have A25 := Aside0.mk A250
                      clear A250
                      by_cases c26 : x8_3.length < 4398046511104
                      · rw [if_pos c26] at H
                        have LMc26 := Aside0.mk c26
                        clear c26
                        obtain ⟨y495, hy495⟩ : ∃ y_ : List (S37), y_ = (x8_3 ++ [(⟨t491, t492⟩ : S37)]) := ⟨_, rfl⟩
                        replace H : (laws_FnDocBuildArrayElement.l0 k3 l0 a1 l2 y495 (wrap64 (x9_3 + 1)) t475 t476 t477 t478 t479 t480 t481 t484) = some r := by first | (rw [hy495]; with_reducible exact H) | (have H2_ := (Option.bind_some _ _).symm.trans H; rw [hy495]; with_reducible exact H2_) | (have H2_ := (Option.bind_some _ _).symm.trans H; with_reducible exact H2_) | with_reducible exact H | (rw [hy495]; exact H) | exact H
                        have Ny495 := Aside0.mk hy495
                        clear hy495
                        focus
                          have H' := Aside0.mk H
                          clear H
                          have p490 : 0 ≤ (x9_3 : Int) := of_decide_eq_true (by first | (with_reducible assumption) | assumption)
                          have q490 : x9_3 < (l2.length : Int) := of_decide_eq_true (by first | (with_reducible assumption) | assumption)
                          obtain ⟨ad490, A490_6, c490_6, A490_7, c490_7, e490, hx490_0, hx490_1, hx490_2, hx490_3, hx490_4, hx490_5, hx490_6, hx490_7, hl490_6, hi490_6, hl490_7, hi490_7⟩ := at_T26 HR2.out x9_3 p490 q490
                          cases e490
                          replace hx490_0 := (HB.out.cell (World.block_lt_of_cell? w _ hx490_0)).trans hx490_0
                          replace hx490_1 := (HB.out.cell (World.block_lt_of_cell? w _ hx490_1)).trans hx490_1
                          replace hx490_2 := (HB.out.cell (World.block_lt_of_cell? w _ hx490_2)).trans hx490_2
                          replace hx490_3 := (HB.out.cell (World.block_lt_of_cell? w _ hx490_3)).trans hx490_3
                          replace hx490_4 := (HB.out.cell (World.block_lt_of_cell? w _ hx490_4)).trans hx490_4
                          replace hx490_5 := (HB.out.cell (World.block_lt_of_cell? w _ hx490_5)).trans hx490_5
                          replace hx490_6 := (HB.out.cell (World.block_lt_of_cell? w _ hx490_6)).trans hx490_6
                          replace hx490_7 := (HB.out.cell (World.block_lt_of_cell? w _ hx490_7)).trans hx490_7
                          have HR490_6 := Aside0.mk hi490_6
                          have HC490_6 := Aside0.mk hl490_6
                          clear hi490_6 hl490_6
                          have HR490_7 := Aside0.mk hi490_7
                          have HC490_7 := Aside0.mk hl490_7
                          clear hi490_7 hl490_7
                          replace p490 := eq_true p490
                          replace q490 := eq_true q490
                          go_wp2_with (first | ((with_reducible refine gate_callee (f := 16) rfl ?_); refine goesL_ (some 54) rfl rfl Tryd.func16 (by kernel_rfl) rfl #[.agg #[.int .i64 ((rd_T26 l2 x9_3).f0), .string ((rd_T26 l2 x9_3).f1), .string ((rd_T26 l2 x9_3).f2), .int .i64 ((rd_T26 l2 x9_3).f3), .int .u64 ((rd_T26 l2 x9_3).f4), .int .u64 ((rd_T26 l2 x9_3).f5), .slice A490_6 ((rd_T26 l2 x9_3).f6).length c490_6, .slice A490_7 ((rd_T26 l2 x9_3).f7).length c490_7]] rfl (by (try simp only [List.map_toArray, List.map_cons, List.map_nil]); first | done | rfl | (simp only [List.length_drop, List.length_take]; rfl)) ?_; (with_reducible refine (laws_docRaw.calls k3 ((rd_T26 l2 x9_3).f0) ((rd_T26 l2 x9_3).f1) ((rd_T26 l2 x9_3).f2) ((rd_T26 l2 x9_3).f3) ((rd_T26 l2 x9_3).f4) ((rd_T26 l2 x9_3).f5) _ _ ((rd_T26 l2 x9_3).f6) _ _ ((rd_T26 l2 x9_3).f7) t491 t492 _ ?side1 ?side2 ?side3 ?side4 A25.out).mono ?_); (case side1 => repeat (first | exact (Kd.C_below HR490_6.out HB.out) | (with_reducible refine Kd.C_alloc ?_ _) | (with_reducible refine Kd.C_drewN ?_ _) | (with_reducible refine Kd.C_drew ?_))); (case side2 => exact HC490_6.out); (case side3 => repeat (first | exact (Kd.C_below HR490_7.out HB.out) | (with_reducible refine Kd.C_alloc ?_ _) | (with_reducible refine Kd.C_drewN ?_ _) | (with_reducible refine Kd.C_drew ?_))); (case side4 => exact HC490_7.out); rintro e w27 ⟨v493, rfl, ho0, hb⟩; refine ⟨_, rfl, ?_⟩; have n0_ := Aside0.mk (Kd.N_elder' (by (with_reducible repeat (first | apply Kd.N_alloc | apply Kd.N_drewN | apply Kd.N_drew)); exact HO_8.out) (Kd.R_base ho0) hb); have n1_ := Aside0.mk (Kd.R_elder' (by (with_reducible repeat (first | apply Kd.R_alloc | apply Kd.R_drewN | apply Kd.R_drew)); exact HO_488006.out) (Kd.R_base ho0) hb); have n2_ := Aside0.mk (Kd.N_elder' (by (with_reducible repeat (first | apply Kd.N_alloc | apply Kd.N_drewN | apply Kd.N_drew)); exact HO_488007.out) (Kd.R_base ho0) hb); have n3_ := Aside0.mk (Kd.R_lower (Kd.R_new' ho0 (Kd.R_lt (by (with_reducible repeat (first | apply Kd.R_alloc | apply Kd.R_drewN | apply Kd.R_drew)); exact HO_488006.out))) (below_size (by repeat (first | (with_reducible first | exact HB.out | apply below_alloc | apply pw_below_drewN | apply below_drew1 | refine below_set ?_ GE487.out) | exact HB.out)))); have n4_ := Aside0.mk (blk_below (g := gb487) (o := .cells #[.int .i64 t475, .string t476, .string t477, .int .i64 t478, .int .u64 t479, .int .u64 t480, .slice Ao13 t481.length co13, .slice Ao14 t484.length co14] 26 (0, 0)) (by (with_reducible repeat (first | refine blk_drewN ?_ _ | refine blk_drew ?_ | refine blk_alloc ?_ _)); exact BK487.out) hb); have n5_ := Aside0.mk (below_step (by repeat (first | (with_reducible first | exact HB.out | apply below_alloc | apply pw_below_drewN | apply below_drew1 | refine below_set ?_ GE487.out) | exact HB.out)) hb); clear HO_8; clear HO_488006; clear HO_488007; clear BK487; clear HB; have HO_8 := n0_; have HO_488006 := n1_; have HO_488007 := n2_; have HO494 := n3_; have BK487 := n4_; have HB := n5_; clear n0_ n1_ n2_ n3_ n4_ n5_; (try clear hb); (try clear hb2); (try clear hk); (try clear hi); (try clear ho0); obtain ⟨Ao29, co29, eo29⟩ := Kd.R_slice HO494.out; subst eo29) | ((with_reducible refine gate_builtin (b := .append) (xs := #[.tmp 49, .tmp 55]) rfl ?_); (try (refine gate_guard (by rfl) ?_; dsimp only)); at_builtin; refine Kd.N_append k37 (w0 := w) w.heap.size rfl (.tmp 49) (.tmp 55) 46 37 (.agg #[(.int .i64 0), (.slice none 0 0)]) 32 rfl Tryd.underlying46 info37 rfl (by decide) (by omega) u8 x8_3 (⟨t491, t492⟩ : S37) [.int .i64 t491, .slice Ao29 t492.length co29] (fun k_ => some k_ ≠ (.slice Ao13 t481.length co13 : Value).ownBlock ∧ some k_ ≠ (.slice Ao14 t484.length co14 : Value).ownBlock ∧ k_ ≠ gb487) (fun k_ => ((fun k_ => some k_ ≠ (.slice Ao13 t481.length co13 : Value).ownBlock ∧ some k_ ≠ (.slice Ao14 t484.length co14 : Value).ownBlock ∧ k_ ≠ gb487)) k_ ∧ some k_ ≠ (u8 : Value).ownBlock) rfl rfl ?aP (fun _ hk => hk) ?aF ?aO ?aB ?aS ?aL ?_; (case aP => exact (k37_mkF _ _ (⟨t491, t492⟩ : S37) (Kd.R_reads' (Kd.R_mono (ok' := (fun k_ => ((fun k_ => some k_ ≠ (.slice Ao13 t481.length co13 : Value).ownBlock ∧ some k_ ≠ (.slice Ao14 t484.length co14 : Value).ownBlock ∧ k_ ≠ gb487)) k_ ∧ some k_ ≠ (u8 : Value).ownBlock)) (Kd.R_types (Kd.R_apart' (Kd.R_apart' (HO494.out) (Kd.N_typed HO_488007.out) (by decide)) (Kd.N_typed HO_8.out) (by decide)) BK487.out (by decide)) (fun k_ hk => ⟨⟨hk.1.1.1.2, ⟨hk.1.1.2, hk.2⟩⟩, hk.1.2⟩))).2.1 (Kd.R_F (Kd.R_mono (ok' := (fun k_ => ((fun k_ => some k_ ≠ (.slice Ao13 t481.length co13 : Value).ownBlock ∧ some k_ ≠ (.slice Ao14 t484.length co14 : Value).ownBlock ∧ k_ ≠ gb487)) k_ ∧ some k_ ≠ (u8 : Value).ownBlock)) (Kd.R_types (Kd.R_apart' (Kd.R_apart' (HO494.out) (Kd.N_typed HO_488007.out) (by decide)) (Kd.N_typed HO_8.out) (by decide)) BK487.out (by decide)) (fun k_ hk => ⟨⟨hk.1.1.1.2, ⟨hk.1.1.2, hk.2⟩⟩, hk.1.2⟩))))); (case aB => exact (by repeat (first | (with_reducible first | exact HB.out | apply below_alloc | apply pw_below_drewN | apply below_drew1 | refine below_set ?_ GE487.out) | exact HB.out))); (case aF => exact (fun k_ hk => ⟨Kd.fresh' (Kd.R_lt (by (with_reducible repeat (first | apply Kd.R_alloc | apply Kd.R_drewN | apply Kd.R_drew)); exact HO_488006.out)) k_ hk, Kd.fresh' (Kd.N_lt (by (with_reducible repeat (first | apply Kd.N_alloc | apply Kd.N_drewN | apply Kd.N_drew)); exact HO_488007.out)) k_ hk, Kd.freshB (g := gb487) (o := .cells #[.int .i64 t475, .string t476, .string t477, .int .i64 t478, .int .u64 t479, .int .u64 t480, .slice Ao13 t481.length co13, .slice Ao14 t484.length co14] 26 (0, 0)) (by (with_reducible repeat (first | refine blk_drewN ?_ _ | refine blk_drew ?_ | refine blk_alloc ?_ _)); exact BK487.out) k_ hk⟩)); (case aO => exact (by (with_reducible repeat (first | apply Kd.N_alloc | apply Kd.N_drewN | apply Kd.N_drew)); exact Kd.N_mono HO_8.out (fun _ hk => ⟨hk.1.1, ⟨hk.1.2.1, hk.1.2.2⟩⟩))); (case aS => exact (below_size (by repeat (first | (with_reducible first | exact HB.out | apply below_alloc | apply pw_below_drewN | apply below_drew1 | refine below_set ?_ GE487.out) | exact HB.out)))); (case aL => have := LMc26.out; omega); intro v496 w28 ho hb hg hat; rw [← Ny495.out] at ho; have n0_ := Aside0.mk (Kd.R_over' (by (with_reducible repeat (first | apply Kd.R_alloc | apply Kd.R_drewN | apply Kd.R_drew)); exact HO_488006.out) (Kd.N_typed (by (with_reducible repeat (first | apply Kd.N_alloc | apply Kd.N_drewN | apply Kd.N_drew)); exact HO_8.out)) (by decide) hg); have n1_ := Aside0.mk (Kd.N_afterv (ok := (fun k_ => some k_ ≠ (.slice Ao13 t481.length co13 : Value).ownBlock ∧ some k_ ≠ (.slice Ao29 t492.length co29 : Value).ownBlock ∧ k_ ≠ gb487)) (by (with_reducible repeat (first | apply Kd.N_alloc | apply Kd.N_drewN | apply Kd.N_drew)); exact Kd.N_mono HO_488007.out (fun _ hk => ⟨⟨hk.1.2.1, ⟨hk.2, hk.1.2.2⟩⟩, hk.1.1⟩)) hg hat); have n2_ := Aside0.mk (blk_grown (g := gb487) (o := .cells #[.int .i64 t475, .string t476, .string t477, .int .i64 t478, .int .u64 t479, .int .u64 t480, .slice Ao13 t481.length co13, .slice Ao14 t484.length co14] 26 (0, 0)) (by (with_reducible repeat (first | refine blk_drewN ?_ _ | refine blk_drew ?_ | refine blk_alloc ?_ _)); exact BK487.out) hg (Kd.N_ne HO_8.out BK487.out (by decide))); have n3_ := Aside0.mk (hb); have n4_ := Aside0.mk (ho); clear HO_488006; clear HO_488007; clear BK487; clear HB; clear HO_8; clear HO494; have HO_488006 := n0_; have HO_488007 := n1_; have BK487 := n2_; have HB := n3_; have HO497 := n4_; clear n0_ n1_ n2_ n3_ n4_; clear ho hb hg hat))
                          go_roundg k3
                          case measure => have := HJ3.out; have := HJ8.out; have := HK3.out; omega
                          case rel => exact ⟨(y495), (wrap64 (x9_3 + 1)), (by first | rfl | (simp; done) | (simp [*]; done)), H', ⟨by have := HJ3.out; have := HJ8.out; have := HK3.out; omega⟩, ⟨by (with_reducible repeat (first | apply Kd.N_alloc | apply Kd.N_drewN | apply Kd.N_drew)); exact HO497.out⟩, ⟨by (with_reducible repeat (first | apply Kd.R_alloc | apply Kd.R_drewN | apply Kd.R_drew)); exact Kd.R_mono HO_488006.out (fun _ hk => trivial)⟩, ⟨by (with_reducible repeat (first | apply Kd.N_alloc | apply Kd.N_drewN | apply Kd.N_drew)); exact Kd.N_mono HO_488007.out (fun _ hk => ⟨hk.2, ⟨hk.1.1, hk.1.2.2⟩⟩)⟩, ⟨by (with_reducible repeat (first | refine blk_drewN ?_ _ | refine blk_drew ?_ | refine blk_alloc ?_ _)); exact BK487.out⟩, ⟨by repeat (first | (with_reducible first | exact HB.out | apply below_alloc | apply pw_below_drewN | apply below_drew1 | refine below_set ?_ GE487.out) | exact HB.out)⟩⟩
                      · rw [if_neg c26] at H
                        exact absurd H (by simp)
                    · rw [if_neg c24] at H
                      exact absurd H (by simp)
                  · rw [if_neg c23] at H
                    have c23b0 : decide (x9_3 < (l2.length : Int)) = false := decide_eq_false c23
                    clear c23
                    replace H := Option.bind_eq_some_iff.mp H
                    obtain ⟨t498, A300, H⟩ := H
                    replace H : ((impl_BuildArrayElement.f k3 t498 a1 x8_3).bind fun t501 => ((spec_DocElem.f k3 a1 t475 t476 t477 t478 t479 t480 t481 t484).bind fun t504 => (if (strOfNums l0).size + (strOfNums t504).size ≤ 9223372036854775807 then (some ((strOfNums t501).toList == ((strOfNums l0) ++ (strOfNums t504)).toList)) else (none)))) = some r := H
                    have A30 := Aside0.mk A300
                    clear A300
                    replace H := Option.bind_eq_some_iff.mp H
                    obtain ⟨t501, A310, H⟩ := H
                    replace H : ((spec_DocElem.f k3 a1 t475 t476 t477 t478 t479 t480 t481 t484).bind fun t504 => (if (strOfNums l0).size + (strOfNums t504).size ≤ 9223372036854775807 then (some ((strOfNums t501).toList == ((strOfNums l0) ++ (strOfNums t504)).toList)) else (none))) = some r := H
                    have A31 := Aside0.mk A310
                    clear A310
                    replace H := Option.bind_eq_some_iff.mp H
                    obtain ⟨t504, A320, H⟩ := H
                    replace H : (if (strOfNums l0).size + (strOfNums t504).size ≤ 9223372036854775807 then (some ((strOfNums t501).toList == ((strOfNums l0) ++ (strOfNums t504)).toList)) else (none)) = some r := H
                    have A32 := Aside0.mk A320
                    clear A320
                    by_cases c33 : (strOfNums l0).size + (strOfNums t504).size ≤ 9223372036854775807
                    · rw [if_pos c33] at H
                      have c33b0 := eq_true c33
                      have c33b1 : decide ((strOfNums l0).size + (strOfNums t504).size ≤ 9223372036854775807) = true := decide_eq_true c33
                      try have c33b2 : (9223372036854775807 < (strOfNums l0).size + (strOfNums t504).size) = False := eq_false (Nat.not_lt.2 c33)
                      focus
                        obtain rfl := Option.some.inj H
                        obtain ⟨Ao34, co34, eo34⟩ := Kd.N_slice HO_8.out
                        subst eo34
                        try go_wp2
                        have n0_ := Aside0.mk (Kd.N_drew HO_8.out)
                        have n1_ := Aside0.mk (Kd.R_drew HO_488006.out)
                        have n2_ := Aside0.mk (Kd.N_drew HO_488007.out)
                        have n3_ := Aside0.mk (blk_drew BK487.out)
                        have n4_ := Aside0.mk (below_drew1 HB.out)
                        clear HO_8
                        clear HO_488006
                        clear HO_488007
                        clear BK487
                        clear HB
                        have HO_8 := n0_
                        have HO_488006 := n1_
                        have HO_488007 := n2_
                        have BK487 := n3_
                        have HB := n4_
                        clear n0_ n1_ n2_ n3_ n4_
                        refine start_ (n := 16) (S := fun w' => w'.cell? ⟨gb487, 0, none⟩ = some (.int .i64 t475) ∧ w'.cell? ⟨gb487, 1, none⟩ = some (.string t476) ∧ w'.cell? ⟨gb487, 2, none⟩ = some (.string t477) ∧ w'.cell? ⟨gb487, 3, none⟩ = some (.int .i64 t478) ∧ w'.cell? ⟨gb487, 4, none⟩ = some (.int .u64 t479) ∧ w'.cell? ⟨gb487, 5, none⟩ = some (.int .u64 t480) ∧ w'.cell? ⟨gb487, 6, none⟩ = some (.slice Ao13 t481.length co13) ∧ w'.cell? ⟨gb487, 7, none⟩ = some (.slice Ao14 t484.length co14) ∧ Kd.C (Kd.int .u8) w' A0 l0.length l0) (ds := []) #[false, false, false, false, false, false, false, false, false, false, false, false, false, false, false, false] (by kernel_rfl) rfl rfl ⟨(blk_cell BK487.out 0).trans rfl, (blk_cell BK487.out 1).trans rfl, (blk_cell BK487.out 2).trans rfl, (blk_cell BK487.out 3).trans rfl, (blk_cell BK487.out 4).trans rfl, (blk_cell BK487.out 5).trans rfl, (blk_cell BK487.out 6).trans rfl, (blk_cell BK487.out 7).trans rfl, Kd.C_below HR0.out (by repeat (first | (with_reducible first | exact HB.out | apply below_alloc | apply pw_below_drewN | apply below_drew1 | refine below_set ?_ GE487.out) | exact HB.out))⟩ (fun hHeld => ?_); refine with_tabW laws_FnDocBuildArrayElement.tab11 laws_FnDocBuildArrayElement.bits11 (fun HT_ HW_ => ?_)
                        generalize wr.drew = w35 at HO_8 HO_488006 HO_488007 BK487 HB hHeld ⊢
                        refine pure_ (i := 0) (N := some 57) (v := ?_) (a' := ?_) #[true, false, false, false, false, false, false, false, false, false, false, false, false, false, false, false] rfl rfl (any_of HT_.out (by kernel_rfl)) (fun _ _ _ h => h) (Or.inl ⟨by rfl, ?_⟩) ?_ ?_
                        rotate_left
                        · intro w'
                          go_simp
                          with_reducible rfl
                        rotate_left
                        · simp only [Act.put, List.setIfInBounds_toArray, List.set_cons_zero, List.set_cons_succ, i64_w, i32_w]
                          rfl
                        refine pure_ (i := 2) (N := some 59) (v := ?_) (a' := ?_) #[true, false, true, false, false, false, false, false, false, false, false, false, false, false, false, false] rfl rfl (any_of HT_.out (by kernel_rfl)) (fun _ _ _ h => h) (Or.inl ⟨by rfl, ?_⟩) ?_ ?_
                        rotate_left
                        · intro w'
                          go_simp
                          with_reducible rfl
                        rotate_left
                        · simp only [Act.put, List.setIfInBounds_toArray, List.set_cons_zero, List.set_cons_succ, i64_w, i32_w]
                          rfl
                        refine pure_ (i := 3) (N := some 60) (v := ?_) (a' := ?_) #[true, false, true, true, false, false, false, false, false, false, false, false, false, false, false, false] rfl rfl (any_of HT_.out (by kernel_rfl)) (fun _ _ _ h => h) (Or.inl ⟨by rfl, ?_⟩) ?_ ?_
                        rotate_left
                        · intro w'
                          go_simp
                          with_reducible rfl
                        rotate_left
                        · simp only [Act.put, List.setIfInBounds_toArray, List.set_cons_zero, List.set_cons_succ, i64_w, i32_w]
                          rfl
                        refine pure_ (i := 6) (N := some 63) (v := ?_) (a' := ?_) #[true, false, true, true, false, false, true, false, false, false, false, false, false, false, false, false] rfl rfl (any_of HT_.out (by kernel_rfl)) (fun _ _ _ h => h) (Or.inl ⟨by rfl, ?_⟩) ?_ ?_
                        rotate_left
                        · intro w'
                          go_simp
                          with_reducible rfl
                        rotate_left
                        · simp only [Act.put, List.setIfInBounds_toArray, List.set_cons_zero, List.set_cons_succ, i64_w, i32_w]
                          rfl
                        refine take_ (i := 7) (N := some 64) (v := ?_) (a' := ?_) #[true, false, true, true, false, false, true, true, false, false, false, false, false, false, false, false] rfl rfl (take_ofW HT_.out HW_.out (by kernel_rfl)) (fun _ _ _ h => h) (Or.inl ⟨by rfl, ?_⟩) hHeld ?_ ?_
                        rotate_left
                        · rintro w' ⟨s0, s1, s2, s3, s4, s5, s6, s7, s8⟩
                          have hcv7 := Kd.C_string (P := Tryd.prog) (dst := 9) (c := c0) Tryd.underlying23 Tryd.underlying5 Tryd.underlying9 s8
                          go_simp
                          first | with_reducible rfl | rfl
                        rotate_left
                        · simp only [Act.put, List.setIfInBounds_toArray, List.set_cons_zero, List.set_cons_succ, i64_w, i32_w]
                          rfl
                        refine pure_ (i := 8) (N := some 65) (v := ?_) (a' := ?_) #[true, false, true, true, false, false, true, true, true, false, false, false, false, false, false, false] rfl rfl (any_of HT_.out (by kernel_rfl)) (fun _ _ _ h => h) (Or.inl ⟨by rfl, ?_⟩) ?_ ?_
                        rotate_left
                        · intro w'
                          go_simp
                          with_reducible rfl
                        rotate_left
                        · simp only [Act.put, List.setIfInBounds_toArray, List.set_cons_zero, List.set_cons_succ, i64_w, i32_w]
                          rfl
                        refine take_ (i := 9) (N := some 66) (v := ?_) (a' := ?_) #[true, false, true, true, false, false, true, true, true, true, false, false, false, false, false, false] rfl rfl (take_ofW HT_.out HW_.out (by kernel_rfl)) (fun _ _ _ h => h) (Or.inl ⟨by rfl, ?_⟩) hHeld ?_ ?_
                        rotate_left
                        · rintro w' ⟨s0, s1, s2, s3, s4, s5, s6, s7, s8⟩
                          go_simp
                          with_reducible rfl
                        rotate_left
                        · simp only [Act.put, List.setIfInBounds_toArray, List.set_cons_zero, List.set_cons_succ, i64_w, i32_w]
                          rfl
                        refine pure_ (i := 10) (N := some 67) (v := ?_) (a' := ?_) #[true, false, true, true, false, false, true, true, true, true, true, false, false, false, false, false] rfl rfl (any_of HT_.out (by kernel_rfl)) (fun _ _ _ h => h) (Or.inl ⟨by rfl, ?_⟩) ?_ ?_
                        rotate_left
                        · intro w'
                          go_simp
                          with_reducible rfl
                        rotate_left
                        · simp only [Act.put, List.setIfInBounds_toArray, List.set_cons_zero, List.set_cons_succ, i64_w, i32_w]
                          rfl
                        refine one_ (i := 1) (N := some 58) #[true, true, true, true, false, false, true, true, true, true, true, false, false, false, false, false] rfl rfl (one_of HT_.out (by kernel_rfl)) (by decide) (fun K hK => ?_)
                        refine goes_ Tryd.func18 (by kernel_rfl) rfl #[.slice A0 l0.length c0] (by rfl) rfl rfl (by (try simp only [List.map_toArray, List.map_cons, List.map_nil]); first | done | rfl | (simp only [List.length_drop, List.length_take]; rfl)) ?_
                        with_reducible refine (laws_docCopy.calls _ _ l0 t498 _ ?side1 ?side2 A30.out).mono ?_
                        (case side1 => repeat (first | exact (Kd.C_below HR0.out HB.out) | (with_reducible refine Kd.C_alloc ?_ _) | (with_reducible refine Kd.C_drewN ?_ _) | (with_reducible refine Kd.C_drew ?_)))
                        (case side2 => exact HC0.out)
                        rintro e w36 ⟨v499, rfl, ho0, hb⟩
                        refine ⟨_, rfl, ?_⟩
                        have n0_ := Aside0.mk (Kd.N_elder' (by (with_reducible repeat (first | apply Kd.N_alloc | apply Kd.N_drewN | apply Kd.N_drew)); exact HO_8.out) (Kd.R_base ho0) hb)
                        have n1_ := Aside0.mk (Kd.R_elder' (by (with_reducible repeat (first | apply Kd.R_alloc | apply Kd.R_drewN | apply Kd.R_drew)); exact HO_488006.out) (Kd.R_base ho0) hb)
                        have n2_ := Aside0.mk (Kd.N_elder' (by (with_reducible repeat (first | apply Kd.N_alloc | apply Kd.N_drewN | apply Kd.N_drew)); exact HO_488007.out) (Kd.R_base ho0) hb)
                        have n3_ := Aside0.mk (Kd.R_lower (Kd.R_new' ho0 (Kd.R_lt (by (with_reducible repeat (first | apply Kd.R_alloc | apply Kd.R_drewN | apply Kd.R_drew)); exact HO_488006.out))) (below_size (by repeat (first | (with_reducible first | exact HB.out | apply below_alloc | apply pw_below_drewN | apply below_drew1 | refine below_set ?_ GE487.out) | exact HB.out))))
                        have n4_ := Aside0.mk (blk_below (g := gb487) (o := .cells #[.int .i64 t475, .string t476, .string t477, .int .i64 t478, .int .u64 t479, .int .u64 t480, .slice Ao13 t481.length co13, .slice Ao14 t484.length co14] 26 (0, 0)) (by (with_reducible repeat (first | refine blk_drewN ?_ _ | refine blk_drew ?_ | refine blk_alloc ?_ _)); exact BK487.out) hb)
                        have n5_ := Aside0.mk (below_step (by repeat (first | (with_reducible first | exact HB.out | apply below_alloc | apply pw_below_drewN | apply below_drew1 | refine below_set ?_ GE487.out) | exact HB.out)) hb)
                        clear HO_8
                        clear HO_488006
                        clear HO_488007
                        clear BK487
                        clear HB
                        have HO_8 := n0_
                        have HO_488006 := n1_
                        have HO_488007 := n2_
                        have HO500 := n3_
                        have BK487 := n4_
                        have HB := n5_
                        clear n0_ n1_ n2_ n3_ n4_ n5_
                        (try clear hb)
                        (try clear hb2)
                        (try clear hk)
                        (try clear hi)
                        (try clear ho0)
                        obtain ⟨Ao37, co37, eo37⟩ := Kd.R_slice HO500.out
                        (first | subst eo37 | (injection eo37 with f1_ f2_ f3_; have f4_ := f1_.symm; have f5_ := f3_.symm; clear f1_ f2_ f3_; subst f4_; subst f5_))
                        refine hK.out _ _ ⟨(blk_cell BK487.out 0).trans rfl, (blk_cell BK487.out 1).trans rfl, (blk_cell BK487.out 2).trans rfl, (blk_cell BK487.out 3).trans rfl, (blk_cell BK487.out 4).trans rfl, (blk_cell BK487.out 5).trans rfl, (blk_cell BK487.out 6).trans rfl, (blk_cell BK487.out 7).trans rfl, Kd.C_below HR0.out (by repeat (first | (with_reducible first | exact HB.out | apply below_alloc | apply pw_below_drewN | apply below_drew1 | refine below_set ?_ GE487.out) | exact HB.out))⟩ (fun hHeld => ?_)
                        clear hK K
                        refine norm_ (a' := ?_) ?_ ?_
                        rotate_left
                        · show Act.put _ (some 58) _ = _
                          simp only [Act.put, List.setIfInBounds_toArray, List.set_cons_zero, List.set_cons_succ, i64_w, i32_w]
                          rfl
                        refine one_ (i := 4) (N := some 61) #[true, true, true, true, true, false, true, true, true, true, true, false, false, false, false, false] rfl rfl (one_of HT_.out (by kernel_rfl)) (by decide) (fun K hK => ?_)
                        refine goes_ Tryd.func17 (by kernel_rfl) rfl #[.slice Ao37 t498.length co37, .string a1, .slice Ao34 x8_3.length co34] (by rfl) rfl rfl (by (try simp only [List.map_toArray, List.map_cons, List.map_nil]); first | done | rfl | (simp only [List.length_drop, List.length_take]; rfl)) ?_
                        with_reducible refine (impl_BuildArrayElement.calls k3 _ _ t498 a1 _ _ x8_3 t501 _ ?aLD ?side1 ?side2 ?side3 ?side4 A31.out).mono ?_
                        (case aLD => exact Ito.LaidT.below HLAID.out (Ito.LaidT.lt HLAID.out) (by repeat (first | (with_reducible first | exact HB.out | apply below_alloc | apply pw_below_drewN | apply below_drew1 | refine below_set ?_ GE487.out) | exact HB.out)))
                        (case side1 => repeat (first | exact (Kd.R_reads' HO500.out).2.2 | (with_reducible refine Kd.C_alloc ?_ _) | (with_reducible refine Kd.C_drewN ?_ _) | (with_reducible refine Kd.C_drew ?_)))
                        (case side2 => exact (Kd.R_reads' HO500.out).2.1)
                        (case side3 => repeat (first | exact (Kd.N_reads' HO_8.out).2.2 | (with_reducible refine Kd.C_alloc ?_ _) | (with_reducible refine Kd.C_drewN ?_ _) | (with_reducible refine Kd.C_drew ?_)))
                        (case side4 => exact (Kd.N_reads' HO_8.out).2.1)
                        rintro e w38 ⟨v502, rfl, ho0, hb⟩
                        refine ⟨_, rfl, ?_⟩
                        have n0_ := Aside0.mk (Kd.N_elder' (by (with_reducible repeat (first | apply Kd.N_alloc | apply Kd.N_drewN | apply Kd.N_drew)); exact HO_8.out) (Kd.R_base ho0) hb)
                        have n1_ := Aside0.mk (Kd.R_elder' (by (with_reducible repeat (first | apply Kd.R_alloc | apply Kd.R_drewN | apply Kd.R_drew)); exact HO_488006.out) (Kd.R_base ho0) hb)
                        have n2_ := Aside0.mk (Kd.N_elder' (by (with_reducible repeat (first | apply Kd.N_alloc | apply Kd.N_drewN | apply Kd.N_drew)); exact HO_488007.out) (Kd.R_base ho0) hb)
                        have n3_ := Aside0.mk (Kd.R_elder' (by (with_reducible repeat (first | apply Kd.R_alloc | apply Kd.R_drewN | apply Kd.R_drew)); exact HO500.out) (Kd.R_base ho0) hb)
                        have n4_ := Aside0.mk (Kd.R_lower (Kd.R_new' (Kd.R_new' ho0 (Kd.R_lt (by (with_reducible repeat (first | apply Kd.R_alloc | apply Kd.R_drewN | apply Kd.R_drew)); exact HO_488006.out))) (Kd.R_lt (by (with_reducible repeat (first | apply Kd.R_alloc | apply Kd.R_drewN | apply Kd.R_drew)); exact HO500.out))) (below_size (by repeat (first | (with_reducible first | exact HB.out | apply below_alloc | apply pw_below_drewN | apply below_drew1 | refine below_set ?_ GE487.out) | exact HB.out))))
                        have n5_ := Aside0.mk (blk_below (g := gb487) (o := .cells #[.int .i64 t475, .string t476, .string t477, .int .i64 t478, .int .u64 t479, .int .u64 t480, .slice Ao13 t481.length co13, .slice Ao14 t484.length co14] 26 (0, 0)) (by (with_reducible repeat (first | refine blk_drewN ?_ _ | refine blk_drew ?_ | refine blk_alloc ?_ _)); exact BK487.out) hb)
                        have n6_ := Aside0.mk (below_step (by repeat (first | (with_reducible first | exact HB.out | apply below_alloc | apply pw_below_drewN | apply below_drew1 | refine below_set ?_ GE487.out) | exact HB.out)) hb)
                        clear HO_8
                        clear HO_488006
                        clear HO_488007
                        clear HO500
                        clear BK487
                        clear HB
                        have HO_8 := n0_
                        have HO_488006 := n1_
                        have HO_488007 := n2_
                        have HO500 := n3_
                        have HO503 := n4_
                        have BK487 := n5_
                        have HB := n6_
                        clear n0_ n1_ n2_ n3_ n4_ n5_ n6_
                        (try clear hb)
                        (try clear hb2)
                        (try clear hk)
                        (try clear hi)
                        (try clear ho0)
                        have hcv39 := Kd.C_string (P := Tryd.prog) (A := A0) (c := c0) Tryd.underlying23 Tryd.underlying5 Tryd.underlying9 (Kd.C_below HR0.out HB.out)
                        refine hK.out _ _ ⟨(blk_cell BK487.out 0).trans rfl, (blk_cell BK487.out 1).trans rfl, (blk_cell BK487.out 2).trans rfl, (blk_cell BK487.out 3).trans rfl, (blk_cell BK487.out 4).trans rfl, (blk_cell BK487.out 5).trans rfl, (blk_cell BK487.out 6).trans rfl, (blk_cell BK487.out 7).trans rfl, Kd.C_below HR0.out (by repeat (first | (with_reducible first | exact HB.out | apply below_alloc | apply pw_below_drewN | apply below_drew1 | refine below_set ?_ GE487.out) | exact HB.out))⟩ (fun hHeld => ?_)
                        clear hK K
                        refine norm_ (a' := ?_) ?_ ?_
                        rotate_left
                        · show Act.put _ (some 61) _ = _
                          simp only [Act.put, List.setIfInBounds_toArray, List.set_cons_zero, List.set_cons_succ, i64_w, i32_w]
                          rfl
                        refine join_ (σ := Value) 2 #[true, true, true, true, true, true, true, true, true, true, true, true, true, true, false, false] (fun s_ => [(62, .string (strOfNums t501)), (68, s_), (69, .string (strOfNums t504)), (70, .string ((strOfNums l0) ++ (strOfNums t504)))]) (fun s_ w' => (w'.cell? ⟨gb487, 0, none⟩ = some (.int .i64 t475) ∧ w'.cell? ⟨gb487, 1, none⟩ = some (.string t476) ∧ w'.cell? ⟨gb487, 2, none⟩ = some (.string t477) ∧ w'.cell? ⟨gb487, 3, none⟩ = some (.int .i64 t478) ∧ w'.cell? ⟨gb487, 4, none⟩ = some (.int .u64 t479) ∧ w'.cell? ⟨gb487, 5, none⟩ = some (.int .u64 t480) ∧ w'.cell? ⟨gb487, 6, none⟩ = some (.slice Ao13 t481.length co13) ∧ w'.cell? ⟨gb487, 7, none⟩ = some (.slice Ao14 t484.length co14) ∧ Kd.C (Kd.int .u8) w' A0 l0.length l0) ∧ (Kd.R (Kd.int .u8) 5 w' w.heap.size (fun k_ => some k_ ≠ (v502 : Value).ownBlock ∧ some k_ ≠ (s_ : Value).ownBlock ∧ some k_ ≠ (.slice Ao13 t481.length co13 : Value).ownBlock) (.slice Ao37 t498.length co37) t498) ∧ (Kd.R (Kd.int .u8) 5 w' w.heap.size (fun k_ => some k_ ≠ (.slice Ao37 t498.length co37 : Value).ownBlock ∧ some k_ ≠ (s_ : Value).ownBlock ∧ some k_ ≠ (.slice Ao13 t481.length co13 : Value).ownBlock) v502 t501) ∧ (Kd.R (Kd.int .u8) 5 w' w.heap.size (fun k_ => some k_ ≠ (.slice Ao37 t498.length co37 : Value).ownBlock ∧ some k_ ≠ (v502 : Value).ownBlock ∧ some k_ ≠ (.slice Ao13 t481.length co13 : Value).ownBlock) s_ t504) ∧ (Kd.R (Kd.int .u8) 5 w' w.heap.size (fun k_ => some k_ ≠ (.slice Ao37 t498.length co37 : Value).ownBlock ∧ some k_ ≠ (v502 : Value).ownBlock ∧ some k_ ≠ (s_ : Value).ownBlock) (.slice Ao13 t481.length co13) t481) ∧ (Kd.N k31 31 w' w.heap.size (fun k_ => some k_ ≠ (.slice Ao37 t498.length co37 : Value).ownBlock ∧ some k_ ≠ (v502 : Value).ownBlock ∧ some k_ ≠ (s_ : Value).ownBlock ∧ some k_ ≠ (.slice Ao13 t481.length co13 : Value).ownBlock ∧ some k_ ≠ (.slice Ao34 x8_3.length co34 : Value).ownBlock ∧ k_ ≠ gb487) (.slice Ao14 t484.length co14) t484) ∧ (Kd.N k37 37 w' w.heap.size (fun k_ => some k_ ≠ (.slice Ao37 t498.length co37 : Value).ownBlock ∧ some k_ ≠ (v502 : Value).ownBlock ∧ some k_ ≠ (s_ : Value).ownBlock ∧ some k_ ≠ (.slice Ao13 t481.length co13 : Value).ownBlock ∧ some k_ ≠ (.slice Ao14 t484.length co14 : Value).ownBlock ∧ k_ ≠ gb487) (.slice Ao34 x8_3.length co34) x8_3) ∧ (w'.heap[gb487]? = some (.cells #[.int .i64 t475, .string t476, .string t477, .int .i64 t478, .int .u64 t479, .int .u64 t480, .slice Ao13 t481.length co13, .slice Ao14 t484.length co14] 26 (0, 0))) ∧ (Below w.heap.size w w')) ?_ ?_
                        rotate_left
                        · intro hCont
                          refine two_ (i := 5) (j := 11) (Ni := some 62) (Nj := some 68) #[true, true, true, true, true, true, true, true, true, true, true, false, false, false, false, false] #[true, true, true, true, true, false, true, true, true, true, true, true, false, false, false, false] rfl rfl rfl rfl (two_of HT_.out (by kernel_rfl)) (by decide) (by decide) (fun K hK => ?_) (fun K hK => ?_)
                          · skip
                            have hcv40 := own_string (P := Tryd.prog) Tryd.underlying23 Tryd.underlying5 Tryd.underlying9 (Kd.own_of_R HO503.out)
                            refine value_ (w1 := ?_) (v := ?_) (by rfl) rfl ?_ ?_
                            rotate_left 2
                            · go_simp
                              constructor
                              · rfl
                              · rfl
                            clear hcv40
                            refine hK.out _ _ ⟨(blk_cell BK487.out 0).trans rfl, (blk_cell BK487.out 1).trans rfl, (blk_cell BK487.out 2).trans rfl, (blk_cell BK487.out 3).trans rfl, (blk_cell BK487.out 4).trans rfl, (blk_cell BK487.out 5).trans rfl, (blk_cell BK487.out 6).trans rfl, (blk_cell BK487.out 7).trans rfl, Kd.C_below HR0.out (by repeat (first | (with_reducible first | exact HB.out | apply below_alloc | apply pw_below_drewN | apply below_drew1 | refine below_set ?_ GE487.out) | exact HB.out))⟩ (fun hHeld => ?_)
                            clear hK K
                            refine norm_ (a' := ?_) ?_ ?_
                            rotate_left
                            · show Act.put _ (some 62) _ = _
                              simp only [Act.put, List.setIfInBounds_toArray, List.set_cons_zero, List.set_cons_succ, i64_w, i32_w]
                              rfl
                            refine one_ (i := 11) (N := some 68) #[true, true, true, true, true, true, true, true, true, true, true, true, false, false, false, false] rfl rfl (one_of HT_.out (by kernel_rfl)) (by decide) (fun K hK => ?_)
                            refine goes_ Tryd.func8 (by kernel_rfl) rfl #[.agg #[.string a1, .int .i64 t475, .string t476, .string t477, .int .i64 t478, .int .u64 t479, .int .u64 t480, .slice Ao13 t481.length co13, .slice Ao14 t484.length co14]] (by rfl) rfl rfl (by (try simp only [List.map_toArray, List.map_cons, List.map_nil]); first | done | rfl | (simp only [List.length_drop, List.length_take]; rfl)) ?_
                            with_reducible refine (spec_DocElem.calls k3 a1 t475 t476 t477 t478 t479 t480 _ _ t481 _ _ t484 t504 _ ?side1 ?side2 ?side3 ?side4 A32.out).mono ?_
                            (case side1 => repeat (first | exact (Kd.R_reads' HO_488006.out).2.2 | (with_reducible refine Kd.C_alloc ?_ _) | (with_reducible refine Kd.C_drewN ?_ _) | (with_reducible refine Kd.C_drew ?_)))
                            (case side2 => exact (Kd.R_reads' HO_488006.out).2.1)
                            (case side3 => repeat (first | exact (Kd.N_reads' HO_488007.out).2.2 | (with_reducible refine Kd.C_alloc ?_ _) | (with_reducible refine Kd.C_drewN ?_ _) | (with_reducible refine Kd.C_drew ?_)))
                            (case side4 => exact (Kd.N_reads' HO_488007.out).2.1)
                            rintro e w41 ⟨v505, rfl, ho0, hb⟩
                            refine ⟨_, rfl, ?_⟩
                            have n0_ := Aside0.mk (Kd.N_elder' (by (with_reducible repeat (first | apply Kd.N_alloc | apply Kd.N_drewN | apply Kd.N_drew)); exact HO_8.out) (Kd.R_base ho0) hb)
                            have n1_ := Aside0.mk (Kd.R_elder' (by (with_reducible repeat (first | apply Kd.R_alloc | apply Kd.R_drewN | apply Kd.R_drew)); exact HO_488006.out) (Kd.R_base ho0) hb)
                            have n2_ := Aside0.mk (Kd.N_elder' (by (with_reducible repeat (first | apply Kd.N_alloc | apply Kd.N_drewN | apply Kd.N_drew)); exact HO_488007.out) (Kd.R_base ho0) hb)
                            have n3_ := Aside0.mk (Kd.R_elder' (by (with_reducible repeat (first | apply Kd.R_alloc | apply Kd.R_drewN | apply Kd.R_drew)); exact HO500.out) (Kd.R_base ho0) hb)
                            have n4_ := Aside0.mk (Kd.R_elder' (by (with_reducible repeat (first | apply Kd.R_alloc | apply Kd.R_drewN | apply Kd.R_drew)); exact HO503.out) (Kd.R_base ho0) hb)
                            have n5_ := Aside0.mk (Kd.R_lower (Kd.R_new' (Kd.R_new' (Kd.R_new' ho0 (Kd.R_lt (by (with_reducible repeat (first | apply Kd.R_alloc | apply Kd.R_drewN | apply Kd.R_drew)); exact HO_488006.out))) (Kd.R_lt (by (with_reducible repeat (first | apply Kd.R_alloc | apply Kd.R_drewN | apply Kd.R_drew)); exact HO500.out))) (Kd.R_lt (by (with_reducible repeat (first | apply Kd.R_alloc | apply Kd.R_drewN | apply Kd.R_drew)); exact HO503.out))) (below_size (by repeat (first | (with_reducible first | exact HB.out | apply below_alloc | apply pw_below_drewN | apply below_drew1 | refine below_set ?_ GE487.out) | exact HB.out))))
                            have n6_ := Aside0.mk (blk_below (g := gb487) (o := .cells #[.int .i64 t475, .string t476, .string t477, .int .i64 t478, .int .u64 t479, .int .u64 t480, .slice Ao13 t481.length co13, .slice Ao14 t484.length co14] 26 (0, 0)) (by (with_reducible repeat (first | refine blk_drewN ?_ _ | refine blk_drew ?_ | refine blk_alloc ?_ _)); exact BK487.out) hb)
                            have n7_ := Aside0.mk (below_step (by repeat (first | (with_reducible first | exact HB.out | apply below_alloc | apply pw_below_drewN | apply below_drew1 | refine below_set ?_ GE487.out) | exact HB.out)) hb)
                            clear HO_8
                            clear HO_488006
                            clear HO_488007
                            clear HO500
                            clear HO503
                            clear BK487
                            clear HB
                            have HO_8 := n0_
                            have HO_488006 := n1_
                            have HO_488007 := n2_
                            have HO500 := n3_
                            have HO503 := n4_
                            have HO506 := n5_
                            have BK487 := n6_
                            have HB := n7_
                            clear n0_ n1_ n2_ n3_ n4_ n5_ n6_ n7_
                            (try clear hb)
                            (try clear hb2)
                            (try clear hk)
                            (try clear hi)
                            (try clear ho0)
                            refine hK.out _ _ ⟨(blk_cell BK487.out 0).trans rfl, (blk_cell BK487.out 1).trans rfl, (blk_cell BK487.out 2).trans rfl, (blk_cell BK487.out 3).trans rfl, (blk_cell BK487.out 4).trans rfl, (blk_cell BK487.out 5).trans rfl, (blk_cell BK487.out 6).trans rfl, (blk_cell BK487.out 7).trans rfl, Kd.C_below HR0.out (by repeat (first | (with_reducible first | exact HB.out | apply below_alloc | apply pw_below_drewN | apply below_drew1 | refine below_set ?_ GE487.out) | exact HB.out))⟩ (fun hHeld => ?_)
                            clear hK K
                            refine norm_ (a' := ?_) ?_ ?_
                            rotate_left
                            · show Act.put _ (some 68) _ = _
                              simp only [Act.put, List.setIfInBounds_toArray, List.set_cons_zero, List.set_cons_succ, i64_w, i32_w]
                              rfl
                            refine one_ (i := 12) (N := some 69) #[true, true, true, true, true, true, true, true, true, true, true, true, true, false, false, false] rfl rfl (one_of HT_.out (by kernel_rfl)) (by decide) (fun K hK => ?_)
                            have hcv42 := own_string (P := Tryd.prog) Tryd.underlying23 Tryd.underlying5 Tryd.underlying9 (Kd.own_of_R HO506.out)
                            refine value_ (w1 := ?_) (v := ?_) (by rfl) rfl ?_ ?_
                            rotate_left 2
                            · go_simp
                              constructor
                              · rfl
                              · rfl
                            clear hcv42
                            refine hK.out _ _ ⟨(blk_cell BK487.out 0).trans rfl, (blk_cell BK487.out 1).trans rfl, (blk_cell BK487.out 2).trans rfl, (blk_cell BK487.out 3).trans rfl, (blk_cell BK487.out 4).trans rfl, (blk_cell BK487.out 5).trans rfl, (blk_cell BK487.out 6).trans rfl, (blk_cell BK487.out 7).trans rfl, Kd.C_below HR0.out (by repeat (first | (with_reducible first | exact HB.out | apply below_alloc | apply pw_below_drewN | apply below_drew1 | refine below_set ?_ GE487.out) | exact HB.out))⟩ (fun hHeld => ?_)
                            clear hK K
                            refine norm_ (a' := ?_) ?_ ?_
                            rotate_left
                            · show Act.put _ (some 69) _ = _
                              simp only [Act.put, List.setIfInBounds_toArray, List.set_cons_zero, List.set_cons_succ, i64_w, i32_w]
                              rfl
                            refine pure_ (i := 13) (N := some 70) (v := ?_) (a' := ?_) #[true, true, true, true, true, true, true, true, true, true, true, true, true, true, false, false] rfl rfl (any_of HT_.out (by kernel_rfl)) (fun _ _ _ h => h) (Or.inl ⟨by rfl, ?_⟩) ?_ ?_
                            rotate_left
                            · intro w'
                              go_simp
                              with_reducible rfl
                            rotate_left
                            · simp only [Act.put, List.setIfInBounds_toArray, List.set_cons_zero, List.set_cons_succ, i64_w, i32_w]
                              rfl
                            exact norm_ (by simp only [putAll, Act.put, List.setIfInBounds_toArray, List.set_cons_zero, List.set_cons_succ]) (hCont (v505) _ ⟨hHeld, (by (with_reducible repeat (first | apply Kd.R_alloc | apply Kd.R_drewN | apply Kd.R_drew)); exact Kd.R_mono HO500.out (fun _ hk => ⟨hk.1.2, ⟨hk.2, hk.1.1.2⟩⟩)), (by (with_reducible repeat (first | apply Kd.R_alloc | apply Kd.R_drewN | apply Kd.R_drew)); exact Kd.R_mono HO503.out (fun _ hk => ⟨hk.1.2, ⟨hk.2, hk.1.1.2⟩⟩)), (by (with_reducible repeat (first | apply Kd.R_alloc | apply Kd.R_drewN | apply Kd.R_drew)); exact Kd.R_mono HO506.out (fun _ hk => ⟨hk.1.2, ⟨hk.2, hk.1.1.2⟩⟩)), (by (with_reducible repeat (first | apply Kd.R_alloc | apply Kd.R_drewN | apply Kd.R_drew)); exact Kd.R_mono HO_488006.out (fun _ hk => ⟨hk.1.1.2, ⟨hk.1.2, hk.2⟩⟩)), (by (with_reducible repeat (first | apply Kd.N_alloc | apply Kd.N_drewN | apply Kd.N_drew)); exact Kd.N_mono HO_488007.out (fun _ hk => ⟨hk.1.1.2, ⟨hk.1.2, ⟨hk.2, ⟨hk.1.1.1.2.1, ⟨hk.1.1.1.1, hk.1.1.1.2.2⟩⟩⟩⟩⟩)), (by (with_reducible repeat (first | apply Kd.N_alloc | apply Kd.N_drewN | apply Kd.N_drew)); exact Kd.N_mono HO_8.out (fun _ hk => ⟨hk.1.1.2, ⟨hk.1.2, ⟨hk.2, ⟨hk.1.1.1.1, ⟨hk.1.1.1.2.1, hk.1.1.1.2.2⟩⟩⟩⟩⟩)), (by (with_reducible repeat (first | refine blk_drewN ?_ _ | refine blk_drew ?_ | refine blk_alloc ?_ _)); exact BK487.out), (by repeat (first | (with_reducible first | exact HB.out | apply below_alloc | apply pw_below_drewN | apply below_drew1 | refine below_set ?_ GE487.out) | exact HB.out))⟩)
                          · skip
                            refine goes_ Tryd.func8 (by kernel_rfl) rfl #[.agg #[.string a1, .int .i64 t475, .string t476, .string t477, .int .i64 t478, .int .u64 t479, .int .u64 t480, .slice Ao13 t481.length co13, .slice Ao14 t484.length co14]] (by rfl) rfl rfl (by (try simp only [List.map_toArray, List.map_cons, List.map_nil]); first | done | rfl | (simp only [List.length_drop, List.length_take]; rfl)) ?_
                            with_reducible refine (spec_DocElem.calls k3 a1 t475 t476 t477 t478 t479 t480 _ _ t481 _ _ t484 t504 _ ?side1 ?side2 ?side3 ?side4 A32.out).mono ?_
                            (case side1 => repeat (first | exact (Kd.R_reads' HO_488006.out).2.2 | (with_reducible refine Kd.C_alloc ?_ _) | (with_reducible refine Kd.C_drewN ?_ _) | (with_reducible refine Kd.C_drew ?_)))
                            (case side2 => exact (Kd.R_reads' HO_488006.out).2.1)
                            (case side3 => repeat (first | exact (Kd.N_reads' HO_488007.out).2.2 | (with_reducible refine Kd.C_alloc ?_ _) | (with_reducible refine Kd.C_drewN ?_ _) | (with_reducible refine Kd.C_drew ?_)))
                            (case side4 => exact (Kd.N_reads' HO_488007.out).2.1)
                            rintro e w40 ⟨v505, rfl, ho0, hb⟩
                            refine ⟨_, rfl, ?_⟩
                            have n0_ := Aside0.mk (Kd.N_elder' (by (with_reducible repeat (first | apply Kd.N_alloc | apply Kd.N_drewN | apply Kd.N_drew)); exact HO_8.out) (Kd.R_base ho0) hb)
                            have n1_ := Aside0.mk (Kd.R_elder' (by (with_reducible repeat (first | apply Kd.R_alloc | apply Kd.R_drewN | apply Kd.R_drew)); exact HO_488006.out) (Kd.R_base ho0) hb)
                            have n2_ := Aside0.mk (Kd.N_elder' (by (with_reducible repeat (first | apply Kd.N_alloc | apply Kd.N_drewN | apply Kd.N_drew)); exact HO_488007.out) (Kd.R_base ho0) hb)
                            have n3_ := Aside0.mk (Kd.R_elder' (by (with_reducible repeat (first | apply Kd.R_alloc | apply Kd.R_drewN | apply Kd.R_drew)); exact HO500.out) (Kd.R_base ho0) hb)
                            have n4_ := Aside0.mk (Kd.R_elder' (by (with_reducible repeat (first | apply Kd.R_alloc | apply Kd.R_drewN | apply Kd.R_drew)); exact HO503.out) (Kd.R_base ho0) hb)
                            have n5_ := Aside0.mk (Kd.R_lower (Kd.R_new' (Kd.R_new' (Kd.R_new' ho0 (Kd.R_lt (by (with_reducible repeat (first | apply Kd.R_alloc | apply Kd.R_drewN | apply Kd.R_drew)); exact HO_488006.out))) (Kd.R_lt (by (with_reducible repeat (first | apply Kd.R_alloc | apply Kd.R_drewN | apply Kd.R_drew)); exact HO500.out))) (Kd.R_lt (by (with_reducible repeat (first | apply Kd.R_alloc | apply Kd.R_drewN | apply Kd.R_drew)); exact HO503.out))) (below_size (by repeat (first | (with_reducible first | exact HB.out | apply below_alloc | apply pw_below_drewN | apply below_drew1 | refine below_set ?_ GE487.out) | exact HB.out))))
                            have n6_ := Aside0.mk (blk_below (g := gb487) (o := .cells #[.int .i64 t475, .string t476, .string t477, .int .i64 t478, .int .u64 t479, .int .u64 t480, .slice Ao13 t481.length co13, .slice Ao14 t484.length co14] 26 (0, 0)) (by (with_reducible repeat (first | refine blk_drewN ?_ _ | refine blk_drew ?_ | refine blk_alloc ?_ _)); exact BK487.out) hb)
                            have n7_ := Aside0.mk (below_step (by repeat (first | (with_reducible first | exact HB.out | apply below_alloc | apply pw_below_drewN | apply below_drew1 | refine below_set ?_ GE487.out) | exact HB.out)) hb)
                            clear HO_8
                            clear HO_488006
                            clear HO_488007
                            clear HO500
                            clear HO503
                            clear BK487
                            clear HB
                            have HO_8 := n0_
                            have HO_488006 := n1_
                            have HO_488007 := n2_
                            have HO500 := n3_
                            have HO503 := n4_
                            have HO506 := n5_
                            have BK487 := n6_
                            have HB := n7_
                            clear n0_ n1_ n2_ n3_ n4_ n5_ n6_ n7_
                            (try clear hb)
                            (try clear hb2)
                            (try clear hk)
                            (try clear hi)
                            (try clear ho0)
                            refine hK.out _ _ ⟨(blk_cell BK487.out 0).trans rfl, (blk_cell BK487.out 1).trans rfl, (blk_cell BK487.out 2).trans rfl, (blk_cell BK487.out 3).trans rfl, (blk_cell BK487.out 4).trans rfl, (blk_cell BK487.out 5).trans rfl, (blk_cell BK487.out 6).trans rfl, (blk_cell BK487.out 7).trans rfl, Kd.C_below HR0.out (by repeat (first | (with_reducible first | exact HB.out | apply below_alloc | apply pw_below_drewN | apply below_drew1 | refine below_set ?_ GE487.out) | exact HB.out))⟩ (fun hHeld => ?_)
                            clear hK K
                            refine norm_ (a' := ?_) ?_ ?_
                            rotate_left
                            · show Act.put _ (some 68) _ = _
                              simp only [Act.put, List.setIfInBounds_toArray, List.set_cons_zero, List.set_cons_succ, i64_w, i32_w]
                              rfl
                            refine two_ (i := 5) (j := 12) (Ni := some 62) (Nj := some 69) #[true, true, true, true, true, true, true, true, true, true, true, true, false, false, false, false] #[true, true, true, true, true, false, true, true, true, true, true, true, true, false, false, false] rfl rfl rfl rfl (two_of HT_.out (by kernel_rfl)) (by decide) (by decide) (fun K hK => ?_) (fun K hK => ?_)
                            · skip
                              have hcv41 := own_string (P := Tryd.prog) Tryd.underlying23 Tryd.underlying5 Tryd.underlying9 (Kd.own_of_R HO503.out)
                              refine value_ (w1 := ?_) (v := ?_) (by rfl) rfl ?_ ?_
                              rotate_left 2
                              · go_simp
                                constructor
                                · rfl
                                · rfl
                              clear hcv41
                              refine hK.out _ _ ⟨(blk_cell BK487.out 0).trans rfl, (blk_cell BK487.out 1).trans rfl, (blk_cell BK487.out 2).trans rfl, (blk_cell BK487.out 3).trans rfl, (blk_cell BK487.out 4).trans rfl, (blk_cell BK487.out 5).trans rfl, (blk_cell BK487.out 6).trans rfl, (blk_cell BK487.out 7).trans rfl, Kd.C_below HR0.out (by repeat (first | (with_reducible first | exact HB.out | apply below_alloc | apply pw_below_drewN | apply below_drew1 | refine below_set ?_ GE487.out) | exact HB.out))⟩ (fun hHeld => ?_)
                              clear hK K
                              refine norm_ (a' := ?_) ?_ ?_
                              rotate_left
                              · show Act.put _ (some 62) _ = _
                                simp only [Act.put, List.setIfInBounds_toArray, List.set_cons_zero, List.set_cons_succ, i64_w, i32_w]
                                rfl
                              refine one_ (i := 12) (N := some 69) #[true, true, true, true, true, true, true, true, true, true, true, true, true, false, false, false] rfl rfl (one_of HT_.out (by kernel_rfl)) (by decide) (fun K hK => ?_)
                              have hcv42 := own_string (P := Tryd.prog) Tryd.underlying23 Tryd.underlying5 Tryd.underlying9 (Kd.own_of_R HO506.out)
                              refine value_ (w1 := ?_) (v := ?_) (by rfl) rfl ?_ ?_
                              rotate_left 2
                              · go_simp
                                constructor
                                · rfl
                                · rfl
                              clear hcv42
                              refine hK.out _ _ ⟨(blk_cell BK487.out 0).trans rfl, (blk_cell BK487.out 1).trans rfl, (blk_cell BK487.out 2).trans rfl, (blk_cell BK487.out 3).trans rfl, (blk_cell BK487.out 4).trans rfl, (blk_cell BK487.out 5).trans rfl, (blk_cell BK487.out 6).trans rfl, (blk_cell BK487.out 7).trans rfl, Kd.C_below HR0.out (by repeat (first | (with_reducible first | exact HB.out | apply below_alloc | apply pw_below_drewN | apply below_drew1 | refine below_set ?_ GE487.out) | exact HB.out))⟩ (fun hHeld => ?_)
                              clear hK K
                              refine norm_ (a' := ?_) ?_ ?_
                              rotate_left
                              · show Act.put _ (some 69) _ = _
                                simp only [Act.put, List.setIfInBounds_toArray, List.set_cons_zero, List.set_cons_succ, i64_w, i32_w]
                                rfl
                              refine pure_ (i := 13) (N := some 70) (v := ?_) (a' := ?_) #[true, true, true, true, true, true, true, true, true, true, true, true, true, true, false, false] rfl rfl (any_of HT_.out (by kernel_rfl)) (fun _ _ _ h => h) (Or.inl ⟨by rfl, ?_⟩) ?_ ?_
                              rotate_left
                              · intro w'
                                go_simp
                                with_reducible rfl
                              rotate_left
                              · simp only [Act.put, List.setIfInBounds_toArray, List.set_cons_zero, List.set_cons_succ, i64_w, i32_w]
                                rfl
                              exact norm_ (by simp only [putAll, Act.put, List.setIfInBounds_toArray, List.set_cons_zero, List.set_cons_succ]) (hCont (v505) _ ⟨hHeld, (by (with_reducible repeat (first | apply Kd.R_alloc | apply Kd.R_drewN | apply Kd.R_drew)); exact Kd.R_mono HO500.out (fun _ hk => ⟨hk.1.2, ⟨hk.2, hk.1.1.2⟩⟩)), (by (with_reducible repeat (first | apply Kd.R_alloc | apply Kd.R_drewN | apply Kd.R_drew)); exact Kd.R_mono HO503.out (fun _ hk => ⟨hk.1.2, ⟨hk.2, hk.1.1.2⟩⟩)), (by (with_reducible repeat (first | apply Kd.R_alloc | apply Kd.R_drewN | apply Kd.R_drew)); exact Kd.R_mono HO506.out (fun _ hk => ⟨hk.1.2, ⟨hk.2, hk.1.1.2⟩⟩)), (by (with_reducible repeat (first | apply Kd.R_alloc | apply Kd.R_drewN | apply Kd.R_drew)); exact Kd.R_mono HO_488006.out (fun _ hk => ⟨hk.1.1.2, ⟨hk.1.2, hk.2⟩⟩)), (by (with_reducible repeat (first | apply Kd.N_alloc | apply Kd.N_drewN | apply Kd.N_drew)); exact Kd.N_mono HO_488007.out (fun _ hk => ⟨hk.1.1.2, ⟨hk.1.2, ⟨hk.2, ⟨hk.1.1.1.2.1, ⟨hk.1.1.1.1, hk.1.1.1.2.2⟩⟩⟩⟩⟩)), (by (with_reducible repeat (first | apply Kd.N_alloc | apply Kd.N_drewN | apply Kd.N_drew)); exact Kd.N_mono HO_8.out (fun _ hk => ⟨hk.1.1.2, ⟨hk.1.2, ⟨hk.2, ⟨hk.1.1.1.1, ⟨hk.1.1.1.2.1, hk.1.1.1.2.2⟩⟩⟩⟩⟩)), (by (with_reducible repeat (first | refine blk_drewN ?_ _ | refine blk_drew ?_ | refine blk_alloc ?_ _)); exact BK487.out), (by repeat (first | (with_reducible first | exact HB.out | apply below_alloc | apply pw_below_drewN | apply below_drew1 | refine below_set ?_ GE487.out) | exact HB.out))⟩)
                            · skip
                              have hcv41 := own_string (P := Tryd.prog) Tryd.underlying23 Tryd.underlying5 Tryd.underlying9 (Kd.own_of_R HO506.out)
                              refine value_ (w1 := ?_) (v := ?_) (by rfl) rfl ?_ ?_
                              rotate_left 2
                              · go_simp
                                constructor
                                · rfl
                                · rfl
                              clear hcv41
                              refine hK.out _ _ ⟨(blk_cell BK487.out 0).trans rfl, (blk_cell BK487.out 1).trans rfl, (blk_cell BK487.out 2).trans rfl, (blk_cell BK487.out 3).trans rfl, (blk_cell BK487.out 4).trans rfl, (blk_cell BK487.out 5).trans rfl, (blk_cell BK487.out 6).trans rfl, (blk_cell BK487.out 7).trans rfl, Kd.C_below HR0.out (by repeat (first | (with_reducible first | exact HB.out | apply below_alloc | apply pw_below_drewN | apply below_drew1 | refine below_set ?_ GE487.out) | exact HB.out))⟩ (fun hHeld => ?_)
                              clear hK K
                              refine norm_ (a' := ?_) ?_ ?_
                              rotate_left
                              · show Act.put _ (some 69) _ = _
                                simp only [Act.put, List.setIfInBounds_toArray, List.set_cons_zero, List.set_cons_succ, i64_w, i32_w]
                                rfl
                              refine pure_ (i := 13) (N := some 70) (v := ?_) (a' := ?_) #[true, true, true, true, true, false, true, true, true, true, true, true, true, true, false, false] rfl rfl (any_of HT_.out (by kernel_rfl)) (fun _ _ _ h => h) (Or.inl ⟨by rfl, ?_⟩) ?_ ?_
                              rotate_left
                              · intro w'
                                go_simp
                                with_reducible rfl
                              rotate_left
                              · simp only [Act.put, List.setIfInBounds_toArray, List.set_cons_zero, List.set_cons_succ, i64_w, i32_w]
                                rfl
                              refine one_ (i := 5) (N := some 62) #[true, true, true, true, true, true, true, true, true, true, true, true, true, true, false, false] rfl rfl (one_of HT_.out (by kernel_rfl)) (by decide) (fun K hK => ?_)
                              have hcv42 := own_string (P := Tryd.prog) Tryd.underlying23 Tryd.underlying5 Tryd.underlying9 (Kd.own_of_R HO503.out)
                              refine value_ (w1 := ?_) (v := ?_) (by rfl) rfl ?_ ?_
                              rotate_left 2
                              · go_simp
                                constructor
                                · rfl
                                · rfl
                              clear hcv42
                              refine hK.out _ _ ⟨(blk_cell BK487.out 0).trans rfl, (blk_cell BK487.out 1).trans rfl, (blk_cell BK487.out 2).trans rfl, (blk_cell BK487.out 3).trans rfl, (blk_cell BK487.out 4).trans rfl, (blk_cell BK487.out 5).trans rfl, (blk_cell BK487.out 6).trans rfl, (blk_cell BK487.out 7).trans rfl, Kd.C_below HR0.out (by repeat (first | (with_reducible first | exact HB.out | apply below_alloc | apply pw_below_drewN | apply below_drew1 | refine below_set ?_ GE487.out) | exact HB.out))⟩ (fun hHeld => ?_)
                              clear hK K
                              refine norm_ (a' := ?_) ?_ ?_
                              rotate_left
                              · show Act.put _ (some 62) _ = _
                                simp only [Act.put, List.setIfInBounds_toArray, List.set_cons_zero, List.set_cons_succ, i64_w, i32_w]
                                rfl
                              exact norm_ (by simp only [putAll, Act.put, List.setIfInBounds_toArray, List.set_cons_zero, List.set_cons_succ]) (hCont (v505) _ ⟨hHeld, (by (with_reducible repeat (first | apply Kd.R_alloc | apply Kd.R_drewN | apply Kd.R_drew)); exact Kd.R_mono HO500.out (fun _ hk => ⟨hk.1.2, ⟨hk.2, hk.1.1.2⟩⟩)), (by (with_reducible repeat (first | apply Kd.R_alloc | apply Kd.R_drewN | apply Kd.R_drew)); exact Kd.R_mono HO503.out (fun _ hk => ⟨hk.1.2, ⟨hk.2, hk.1.1.2⟩⟩)), (by (with_reducible repeat (first | apply Kd.R_alloc | apply Kd.R_drewN | apply Kd.R_drew)); exact Kd.R_mono HO506.out (fun _ hk => ⟨hk.1.2, ⟨hk.2, hk.1.1.2⟩⟩)), (by (with_reducible repeat (first | apply Kd.R_alloc | apply Kd.R_drewN | apply Kd.R_drew)); exact Kd.R_mono HO_488006.out (fun _ hk => ⟨hk.1.1.2, ⟨hk.1.2, hk.2⟩⟩)), (by (with_reducible repeat (first | apply Kd.N_alloc | apply Kd.N_drewN | apply Kd.N_drew)); exact Kd.N_mono HO_488007.out (fun _ hk => ⟨hk.1.1.2, ⟨hk.1.2, ⟨hk.2, ⟨hk.1.1.1.2.1, ⟨hk.1.1.1.1, hk.1.1.1.2.2⟩⟩⟩⟩⟩)), (by (with_reducible repeat (first | apply Kd.N_alloc | apply Kd.N_drewN | apply Kd.N_drew)); exact Kd.N_mono HO_8.out (fun _ hk => ⟨hk.1.1.2, ⟨hk.1.2, ⟨hk.2, ⟨hk.1.1.1.1, ⟨hk.1.1.1.2.1, hk.1.1.1.2.2⟩⟩⟩⟩⟩)), (by (with_reducible repeat (first | refine blk_drewN ?_ _ | refine blk_drew ?_ | refine blk_alloc ?_ _)); exact BK487.out), (by repeat (first | (with_reducible first | exact HB.out | apply below_alloc | apply pw_below_drewN | apply below_drew1 | refine below_set ?_ GE487.out) | exact HB.out))⟩)
                        rintro v505 w43 ⟨hS_, h0_, h1_, h2_, h3_, h4_, h5_, h6_, h7_⟩
                        have n0_ : Aside0 (Kd.R (Kd.int .u8) 5 w43 w.heap.size (fun k_ => some k_ ≠ (v502 : Value).ownBlock ∧ some k_ ≠ (v505 : Value).ownBlock ∧ some k_ ≠ (.slice Ao13 t481.length co13 : Value).ownBlock) (.slice Ao37 t498.length co37) t498) := ⟨h0_⟩
                        have n1_ : Aside0 (Kd.R (Kd.int .u8) 5 w43 w.heap.size (fun k_ => some k_ ≠ (.slice Ao37 t498.length co37 : Value).ownBlock ∧ some k_ ≠ (v505 : Value).ownBlock ∧ some k_ ≠ (.slice Ao13 t481.length co13 : Value).ownBlock) v502 t501) := ⟨h1_⟩
                        have n2_ : Aside0 (Kd.R (Kd.int .u8) 5 w43 w.heap.size (fun k_ => some k_ ≠ (.slice Ao37 t498.length co37 : Value).ownBlock ∧ some k_ ≠ (v502 : Value).ownBlock ∧ some k_ ≠ (.slice Ao13 t481.length co13 : Value).ownBlock) v505 t504) := ⟨h2_⟩
                        have n3_ : Aside0 (Kd.R (Kd.int .u8) 5 w43 w.heap.size (fun k_ => some k_ ≠ (.slice Ao37 t498.length co37 : Value).ownBlock ∧ some k_ ≠ (v502 : Value).ownBlock ∧ some k_ ≠ (v505 : Value).ownBlock) (.slice Ao13 t481.length co13) t481) := ⟨h3_⟩
                        have n4_ : Aside0 (Kd.N k31 31 w43 w.heap.size (fun k_ => some k_ ≠ (.slice Ao37 t498.length co37 : Value).ownBlock ∧ some k_ ≠ (v502 : Value).ownBlock ∧ some k_ ≠ (v505 : Value).ownBlock ∧ some k_ ≠ (.slice Ao13 t481.length co13 : Value).ownBlock ∧ some k_ ≠ (.slice Ao34 x8_3.length co34 : Value).ownBlock ∧ k_ ≠ gb487) (.slice Ao14 t484.length co14) t484) := ⟨h4_⟩
                        have n5_ : Aside0 (Kd.N k37 37 w43 w.heap.size (fun k_ => some k_ ≠ (.slice Ao37 t498.length co37 : Value).ownBlock ∧ some k_ ≠ (v502 : Value).ownBlock ∧ some k_ ≠ (v505 : Value).ownBlock ∧ some k_ ≠ (.slice Ao13 t481.length co13 : Value).ownBlock ∧ some k_ ≠ (.slice Ao14 t484.length co14 : Value).ownBlock ∧ k_ ≠ gb487) (.slice Ao34 x8_3.length co34) x8_3) := ⟨h5_⟩
                        have n6_ : Aside0 (w43.heap[gb487]? = some (.cells #[.int .i64 t475, .string t476, .string t477, .int .i64 t478, .int .u64 t479, .int .u64 t480, .slice Ao13 t481.length co13, .slice Ao14 t484.length co14] 26 (0, 0))) := ⟨h6_⟩
                        have n7_ : Aside0 (Below w.heap.size w w43) := ⟨h7_⟩
                        clear HO_8
                        clear HO_488006
                        clear HO_488007
                        clear BK487
                        clear HB
                        clear h0_ h1_ h2_ h3_ h4_ h5_ h6_ h7_
                        have HO500 := n0_
                        have HO503 := n1_
                        have HO506 := n2_
                        have HO_488006 := n3_
                        have HO_488007 := n4_
                        have HO_8 := n5_
                        have BK487 := n6_
                        have HB := n7_
                        clear n0_ n1_ n2_ n3_ n4_ n5_ n6_ n7_
                        have hHeld : w43.cell? ⟨gb487, 0, none⟩ = some (.int .i64 t475) ∧ w43.cell? ⟨gb487, 1, none⟩ = some (.string t476) ∧ w43.cell? ⟨gb487, 2, none⟩ = some (.string t477) ∧ w43.cell? ⟨gb487, 3, none⟩ = some (.int .i64 t478) ∧ w43.cell? ⟨gb487, 4, none⟩ = some (.int .u64 t479) ∧ w43.cell? ⟨gb487, 5, none⟩ = some (.int .u64 t480) ∧ w43.cell? ⟨gb487, 6, none⟩ = some (.slice Ao13 t481.length co13) ∧ w43.cell? ⟨gb487, 7, none⟩ = some (.slice Ao14 t484.length co14) ∧ Kd.C (Kd.int .u8) w43 A0 l0.length l0 := hS_
                        refine norm_ (a' := ?_) ?_ ?_
                        rotate_left
                        · simp only [putAll, Act.put, List.setIfInBounds_toArray, List.set_cons_zero, List.set_cons_succ]
                          rfl
                        refine pure_ (i := 14) (N := some 71) (v := ?_) (a' := ?_) #[true, true, true, true, true, true, true, true, true, true, true, true, true, true, true, false] rfl rfl (any_of HT_.out (by kernel_rfl)) (fun _ _ _ h => h) (Or.inl ⟨by rfl, ?_⟩) ?_ ?_
                        rotate_left
                        · intro w'
                          go_simp
                          with_reducible rfl
                        rotate_left
                        · simp only [Act.put, List.setIfInBounds_toArray, List.set_cons_zero, List.set_cons_succ, i64_w, i32_w]
                          rfl
                        refine pure_ (i := 15) (N := some 6) (v := ?_) (a' := ?_) #[true, true, true, true, true, true, true, true, true, true, true, true, true, true, true, true] rfl rfl (any_of HT_.out (by kernel_rfl)) (fun _ _ _ h => h) (Or.inl ⟨by rfl, ?_⟩) ?_ ?_
                        rotate_left
                        · intro w'
                          go_simp
                          with_reducible rfl
                        rotate_left
                        · simp only [Act.put, List.setIfInBounds_toArray, List.set_cons_zero, List.set_cons_succ, i64_w, i32_w]
                          rfl
                        refine done_ (done_of HT_.out (by kernel_rfl)) ?_
                        try go_wp2
                        go_ret
                        exact ⟨by first | rfl | (simp [errW_none, errW_some] <;> rfl) | (simp [*, errW_none, errW_some] <;> rfl), by repeat (first | (with_reducible first | exact HB.out | apply below_alloc | apply pw_below_drewN | apply below_drew1 | refine below_set ?_ GE487.out) | exact HB.out)⟩
                    · rw [if_neg c33] at H
                      exact absurd H (by simp)

end Go.Proofs.YtndpbbgniflckaaDoor.PBa
