/- Printed by a program of this session (a turned copy of the printer of the kit): contracts of functions of the translation, each with the Lean function that it computes. Conditions: as each theorem states them. -/
import Derived.Test.YthlpmeiihchdjaaPDHx0
import Derived.Test.YthlpmeiihchdjaaPDHx1
import Derived.Test.YthlpmeiihchdjaaPDHx2
namespace Go.Proofs.Ythlpmeiihchdjaa.PDH
open Go.RowKit Go.Proofs.YthlpmeiihchdjaaW.PrintWords Go.Proofs.YthlpmeiihchdjaaW.PrintLast Go.Proofs.YthlpmeiihchdjaaW.PrintMore
attribute [local go_sem] max2_int min2_int max_two min_two max_three min_three max_four min_four   -- for this text's walks alone
set_option linter.unusedVariables false
set_option linter.unusedSimpArgs false

/-! ### laws_FnDocHeader: function 7 -/
mutual
def laws_FnDocHeader.j0 : Nat → List Int → Int → ByteArray → List Int → Bool → Option (Bool)
  | 0, _, _, _, _, _ => none
  | k + 1, x0, x1, x2, x3, x41 => if x41 = true then (some true) else (if (x0.length : Int) > 1000 then (laws_FnDocHeader.j1 k x0 x1 x2 x3 true) else (if (x2.size : Int) > 1000 then (laws_FnDocHeader.j1 k x0 x1 x2 x3 true) else (if (x3.length : Int) > 1000 then (laws_FnDocHeader.j1 k x0 x1 x2 x3 true) else ((spec_DocPlain.f k x2).bind fun t245 => (laws_FnDocHeader.j1 k x0 x1 x2 x3 (!t245))))))
def laws_FnDocHeader.j1 : Nat → List Int → Int → ByteArray → List Int → Bool → Option (Bool)
  | 0, _, _, _, _, _ => none
  | k + 1, x0, x1, x2, x3, x59 => if x59 = true then (some true) else ((spec_DocHead.f (wrap64 (x1)) x2).bind fun t246 => ((laws_docCopy.f x0).bind fun t249 => ((impl_AppendHeader.f t249 (wrap64 (x1)) x2).bind fun t252 => ((laws_docCopy.f x0).bind fun t255 => ((impl_AppendType.f t255 (wrap64 (x1))).bind fun t258 => ((impl_AppendKey.f t258 x2).bind fun t261 => (if (strOfNums x0).size + (strOfNums t246).size ≤ 9223372036854775807 then (if (strOfNums t252).toList = ((strOfNums x0) ++ (strOfNums t246)).toList then (laws_FnDocHeader.j2 k x1 x2 x3 t246 ((strOfNums t261).toList != (strOfNums t252).toList)) else (laws_FnDocHeader.j2 k x1 x2 x3 t246 true)) else (none))))))))
def laws_FnDocHeader.j2 : Nat → Int → ByteArray → List Int → List Int → Bool → Option (Bool)
  | 0, _, _, _, _, _ => none
  | k + 1, x1, x2, x3, x9, x91 => if x91 = true then (some false) else ((laws_docCopy.f x9).bind fun t264 => (if t264.length + x3.length < 140737488355328 then ((some (t264 ++ x3 : List Int)).bind fun y267 => ((impl_ReadHeader.f y267).bind fun bt270 => ((impl_ReadType.f y267).bind fun bt276 => ((impl_ReadKey.f bt276.2.1).bind fun bt281 => ((impl_ReadKeyBytes.f bt276.2.1).bind fun bt286 => ((impl_ReadCString.f bt276.2.1).bind fun bt293 => (if bt270.2.2.2 = true then (if bt276.2.2 = true then (if bt281.2.2 = true then (if bt286.2.2 = true then (laws_FnDocHeader.j3 k x1 x2 x3 bt270.1 bt270.2.1 bt270.2.2.1 bt276.1 bt281.1 bt281.2.1 bt286.1 bt286.2.1 bt293.1 bt293.2.1 (!bt293.2.2)) else (laws_FnDocHeader.j3 k x1 x2 x3 bt270.1 bt270.2.1 bt270.2.2.1 bt276.1 bt281.1 bt281.2.1 bt286.1 bt286.2.1 bt293.1 bt293.2.1 true)) else (laws_FnDocHeader.j3 k x1 x2 x3 bt270.1 bt270.2.1 bt270.2.2.1 bt276.1 bt281.1 bt281.2.1 bt286.1 bt286.2.1 bt293.1 bt293.2.1 true)) else (laws_FnDocHeader.j3 k x1 x2 x3 bt270.1 bt270.2.1 bt270.2.2.1 bt276.1 bt281.1 bt281.2.1 bt286.1 bt286.2.1 bt293.1 bt293.2.1 true)) else (laws_FnDocHeader.j3 k x1 x2 x3 bt270.1 bt270.2.1 bt270.2.2.1 bt276.1 bt281.1 bt281.2.1 bt286.1 bt286.2.1 bt293.1 bt293.2.1 true)))))))) else (none)))
def laws_FnDocHeader.j3 : Nat → Int → ByteArray → List Int → Int → ByteArray → List Int → Int → ByteArray → List Int → List Int → List Int → ByteArray → List Int → Bool → Option (Bool)
  | 0, _, _, _, _, _, _, _, _, _, _, _, _, _, _ => none
  | k + 1, x1, x2, x3, x13, x14, x15, x17, x20, x21, x23, x24, x26, x27, x144 => if x144 = true then (some false) else (if x13 = (wrap64 (x1)) then (if x17 = x13 then (if x14.toList = x2.toList then (if x20.toList = x2.toList then (if (strOfNums x23).toList = x2.toList then (if x26.toList = x2.toList then (if (strOfNums x15).toList = (strOfNums x3).toList then (if (strOfNums x21).toList = (strOfNums x3).toList then (if (strOfNums x24).toList = (strOfNums x3).toList then (some ((strOfNums x27).toList == (strOfNums x3).toList)) else (some false)) else (some false)) else (some false)) else (some false)) else (some false)) else (some false)) else (some false)) else (some false)) else (some false))
end
def laws_FnDocHeader.f (k : Nat) (l0 : List Int) (a1 : Int) (a2 : ByteArray) (l3 : List Int) : Option (Bool) := if (l0.length : Int) > 2147483647 then (laws_FnDocHeader.j0 k l0 a1 a2 l3 true) else (if (a2.size : Int) > 2147483647 then (laws_FnDocHeader.j0 k l0 a1 a2 l3 true) else (laws_FnDocHeader.j0 k l0 a1 a2 l3 (decide ((l3.length : Int) > 2147483647))))
theorem laws_FnDocHeader.mono_l : ∀ k, (∀ y0 y1 y2 y3 y4, LeO (laws_FnDocHeader.j0 k y0 y1 y2 y3 y4) (laws_FnDocHeader.j0 (k + 1) y0 y1 y2 y3 y4)) ∧ (∀ y0 y1 y2 y3 y4, LeO (laws_FnDocHeader.j1 k y0 y1 y2 y3 y4) (laws_FnDocHeader.j1 (k + 1) y0 y1 y2 y3 y4)) ∧ (∀ y0 y1 y2 y3 y4, LeO (laws_FnDocHeader.j2 k y0 y1 y2 y3 y4) (laws_FnDocHeader.j2 (k + 1) y0 y1 y2 y3 y4)) ∧ (∀ y0 y1 y2 y3 y4 y5 y6 y7 y8 y9 y10 y11 y12 y13, LeO (laws_FnDocHeader.j3 k y0 y1 y2 y3 y4 y5 y6 y7 y8 y9 y10 y11 y12 y13) (laws_FnDocHeader.j3 (k + 1) y0 y1 y2 y3 y4 y5 y6 y7 y8 y9 y10 y11 y12 y13))
  | 0 => ⟨fun _ _ _ _ _ r h => by simp [laws_FnDocHeader.j0] at h, fun _ _ _ _ _ r h => by simp [laws_FnDocHeader.j1] at h, fun _ _ _ _ _ r h => by simp [laws_FnDocHeader.j2] at h, fun _ _ _ _ _ _ _ _ _ _ _ _ _ _ r h => by simp [laws_FnDocHeader.j3] at h⟩
  | k + 1 => by
    obtain ⟨ih0, ih1, ih2, ih3⟩ := laws_FnDocHeader.mono_l k
    refine ⟨?_, ?_, ?_, ?_⟩
    · intro y0 y1 y2 y3 y4
      unfold laws_FnDocHeader.j0
      repeat' first
      | (with_reducible exact ih0 _ _ _ _ _)
      | (with_reducible exact ih1 _ _ _ _ _)
      | (with_reducible exact ih2 _ _ _ _ _)
      | (with_reducible exact ih3 _ _ _ _ _ _ _ _ _ _ _ _ _ _)
      | (with_reducible exact spec_DocPlain.mono _ _)
      | (with_reducible exact LeO.refl _)
      | (with_reducible exact LeO.none _)
      | (with_reducible refine LeO.ite ?_ ?_)
      | (with_reducible refine LeO.bind ?_ (fun _ => ?_))
      | exact ih0 _ _ _ _ _
      | exact ih1 _ _ _ _ _
      | exact ih2 _ _ _ _ _
      | exact ih3 _ _ _ _ _ _ _ _ _ _ _ _ _ _
      | exact spec_DocPlain.mono _ _
      | exact LeO.none _
      | refine LeO.ite ?_ ?_
      | refine LeO.bind ?_ (fun _ => ?_)
    · intro y0 y1 y2 y3 y4
      unfold laws_FnDocHeader.j1
      repeat' first
      | (with_reducible exact ih0 _ _ _ _ _)
      | (with_reducible exact ih1 _ _ _ _ _)
      | (with_reducible exact ih2 _ _ _ _ _)
      | (with_reducible exact ih3 _ _ _ _ _ _ _ _ _ _ _ _ _ _)
      | (with_reducible exact spec_DocPlain.mono _ _)
      | (with_reducible exact LeO.refl _)
      | (with_reducible exact LeO.none _)
      | (with_reducible refine LeO.ite ?_ ?_)
      | (with_reducible refine LeO.bind ?_ (fun _ => ?_))
      | exact ih0 _ _ _ _ _
      | exact ih1 _ _ _ _ _
      | exact ih2 _ _ _ _ _
      | exact ih3 _ _ _ _ _ _ _ _ _ _ _ _ _ _
      | exact spec_DocPlain.mono _ _
      | exact LeO.none _
      | refine LeO.ite ?_ ?_
      | refine LeO.bind ?_ (fun _ => ?_)
    · intro y0 y1 y2 y3 y4
      unfold laws_FnDocHeader.j2
      repeat' first
      | (with_reducible exact ih0 _ _ _ _ _)
      | (with_reducible exact ih1 _ _ _ _ _)
      | (with_reducible exact ih2 _ _ _ _ _)
      | (with_reducible exact ih3 _ _ _ _ _ _ _ _ _ _ _ _ _ _)
      | (with_reducible exact spec_DocPlain.mono _ _)
      | (with_reducible exact LeO.refl _)
      | (with_reducible exact LeO.none _)
      | (with_reducible refine LeO.ite ?_ ?_)
      | (with_reducible refine LeO.bind ?_ (fun _ => ?_))
      | exact ih0 _ _ _ _ _
      | exact ih1 _ _ _ _ _
      | exact ih2 _ _ _ _ _
      | exact ih3 _ _ _ _ _ _ _ _ _ _ _ _ _ _
      | exact spec_DocPlain.mono _ _
      | exact LeO.none _
      | refine LeO.ite ?_ ?_
      | refine LeO.bind ?_ (fun _ => ?_)
    · intro y0 y1 y2 y3 y4 y5 y6 y7 y8 y9 y10 y11 y12 y13
      unfold laws_FnDocHeader.j3
      repeat' first
      | (with_reducible exact ih0 _ _ _ _ _)
      | (with_reducible exact ih1 _ _ _ _ _)
      | (with_reducible exact ih2 _ _ _ _ _)
      | (with_reducible exact ih3 _ _ _ _ _ _ _ _ _ _ _ _ _ _)
      | (with_reducible exact spec_DocPlain.mono _ _)
      | (with_reducible exact LeO.refl _)
      | (with_reducible exact LeO.none _)
      | (with_reducible refine LeO.ite ?_ ?_)
      | (with_reducible refine LeO.bind ?_ (fun _ => ?_))
      | exact ih0 _ _ _ _ _
      | exact ih1 _ _ _ _ _
      | exact ih2 _ _ _ _ _
      | exact ih3 _ _ _ _ _ _ _ _ _ _ _ _ _ _
      | exact spec_DocPlain.mono _ _
      | exact LeO.none _
      | refine LeO.ite ?_ ?_
      | refine LeO.bind ?_ (fun _ => ?_)
theorem laws_FnDocHeader.mono : ∀ a0 a1 a2 a3 k, LeO (laws_FnDocHeader.f k a0 a1 a2 a3) (laws_FnDocHeader.f (k + 1) a0 a1 a2 a3) := by
  intro a0 a1 a2 a3 k
  obtain ⟨ih0, ih1, ih2, ih3⟩ := laws_FnDocHeader.mono_l k
  unfold laws_FnDocHeader.f
  repeat' first
      | (with_reducible exact ih0 _ _ _ _ _)
      | (with_reducible exact ih1 _ _ _ _ _)
      | (with_reducible exact ih2 _ _ _ _ _)
      | (with_reducible exact ih3 _ _ _ _ _ _ _ _ _ _ _ _ _ _)
      | (with_reducible exact spec_DocPlain.mono _ _)
      | (with_reducible exact LeO.refl _)
      | (with_reducible exact LeO.none _)
      | (with_reducible refine LeO.ite ?_ ?_)
      | (with_reducible refine LeO.bind ?_ (fun _ => ?_))
      | exact ih0 _ _ _ _ _
      | exact ih1 _ _ _ _ _
      | exact ih2 _ _ _ _ _
      | exact ih3 _ _ _ _ _ _ _ _ _ _ _ _ _ _
      | exact spec_DocPlain.mono _ _
      | exact LeO.none _
      | refine LeO.ite ?_ ?_
      | refine LeO.bind ?_ (fun _ => ?_)
set_option maxHeartbeats 8000000 in
set_option maxRecDepth 100000 in
theorem laws_FnDocHeader.calls (k : Nat) (A0 : Option Addr) (c0 : Nat) (l0 : List Int) (a1 : Int) (a2 : ByteArray) (A3 : Option Addr) (c3 : Nat) (l3 : List Int) (r : Bool) (w : World) (hr0 : Kd.C (Kd.int .u8) w A0 l0.length l0) (hc0 : l0.length ≤ c0) (hr3 : Kd.C (Kd.int .u8) w A3 l3.length l3) (hc3 : l3.length ≤ c3) (h : laws_FnDocHeader.f k l0 a1 a2 l3 = some r) :
    Calls Try.prog 7 #[.slice A0 l0.length c0, .int .u8 a1, .string a2, .slice A3 l3.length c3] w fun e w' => e = .returned (.bool r) ∧ Below w.heap.size w w' := by
  have HR0 := Aside0.mk hr0
  have HC0 := Aside0.mk hc0
  clear hr0 hc0
  have HR3 := Aside0.mk hr3
  have HC3 := Aside0.mk hc3
  clear hr3 hc3
  have HB := Aside0.mk (Below.refl w.heap.size w)
  have H : (if (l0.length : Int) > 2147483647 then (laws_FnDocHeader.j0 k l0 a1 a2 l3 true) else (if (a2.size : Int) > 2147483647 then (laws_FnDocHeader.j0 k l0 a1 a2 l3 true) else (laws_FnDocHeader.j0 k l0 a1 a2 l3 (decide ((l3.length : Int) > 2147483647))))) = some r := h
  clear h
  have HC5 := Aside0.mk H
  clear H
  go_enter Try.func7, Try.ntmps7
  go_upto_region 1 with (fail)
  go_cut [41] (fun v41 wc => ∃ (kq : Nat) (x41_4 : Bool), v41 = .bool x41_4 ∧ Aside0 (laws_FnDocHeader.j0 kq l0 a1 a2 l3 x41_4 = some r) ∧ Aside0 (kq ≤ k) ∧ Aside0 (Below w.heap.size w wc))
  case first =>
    have H := HC5.out
    clear HC5
    by_cases c6 : (l0.length : Int) > 2147483647
    · rw [if_pos c6] at H
      have c6b0 : decide (2147483647 < (l0.length : Int)) = true := decide_eq_true c6
      have c6b1 : decide (2147483647 < l0.length) = true := decide_eq_true (by omega)
      clear c6
      (first | rw [c6b0] | (simp only [i64_w, i32_w]; rw [c6b0]) | skip)
      as_aux_lemma =>
        have H' := Aside0.mk H
        clear H
        go_wp2
        go_meet
        case rel => exact ⟨_, (true), (by first | rfl | (simp; done) | (simp [*]; done)), H', ⟨by first | omega | exact Nat.le_refl _⟩, ⟨by repeat (first | (with_reducible first | exact HB.out | apply below_alloc | apply pw_below_drewN | apply below_drew1) | exact HB.out)⟩⟩
    · rw [if_neg c6] at H
      have c6b0 : decide (2147483647 < (l0.length : Int)) = false := decide_eq_false c6
      have c6b1 : decide (2147483647 < l0.length) = false := decide_eq_false (by omega)
      clear c6
      (first | rw [c6b0] | (simp only [i64_w, i32_w]; rw [c6b0]) | skip)
      by_cases c7 : (a2.size : Int) > 2147483647
      · rw [if_pos c7] at H
        have c7b0 : decide (2147483647 < (a2.size : Int)) = true := decide_eq_true c7
        have c7b1 : decide (2147483647 < a2.size) = true := decide_eq_true (by omega)
        clear c7
        as_aux_lemma =>
          have H' := Aside0.mk H
          clear H
          go_wp2
          go_meet
          case rel => exact ⟨_, (true), (by first | rfl | (simp; done) | (simp [*]; done)), H', ⟨by first | omega | exact Nat.le_refl _⟩, ⟨by repeat (first | (with_reducible first | exact HB.out | apply below_alloc | apply pw_below_drewN | apply below_drew1) | exact HB.out)⟩⟩
      · rw [if_neg c7] at H
        have c7b0 : decide (2147483647 < (a2.size : Int)) = false := decide_eq_false c7
        have c7b1 : decide (2147483647 < a2.size) = false := decide_eq_false (by omega)
        clear c7
        as_aux_lemma =>
          have H' := Aside0.mk H
          clear H
          go_wp2
          go_meet
          case rel => exact ⟨_, (decide ((l3.length : Int) > 2147483647)), (by first | rfl | (simp; done) | (simp [*]; done)), H', ⟨by first | omega | exact Nat.le_refl _⟩, ⟨by repeat (first | (with_reducible first | exact HB.out | apply below_alloc | apply pw_below_drewN | apply below_drew1) | exact HB.out)⟩⟩
  case rest =>
    clear HC5
    try clear p2
    try clear c3
    try clear c6
    try clear c6b0
    try clear c6b1
    try clear c7
    try clear c7b0
    try clear c7b1
    obtain ⟨kq, x41_4, rfl, HA, HJ4, HB⟩ := hcut
    cases kq with
    | zero => exact absurd HA.out (by simp [laws_FnDocHeader.j0])
    | succ kj4 =>
      have H := HA.out
      clear HA
      simp only [laws_FnDocHeader.j0] at H
      by_cases c8 : x41_4 = true
      · subst c8
        have H1 : (some true) = some r := by rw [if_pos rfl] at H; exact H
        clear H
        have H := H1
        clear H1
        as_aux_lemma =>
          obtain rfl := Option.some.inj H
          go_wp2
          go_ret
          exact ⟨by first | rfl | (simp [errW_none, errW_some] <;> rfl) | (simp [*, errW_none, errW_some] <;> rfl), by repeat (first | (with_reducible first | exact HB.out | apply below_alloc | apply pw_below_drewN | apply below_drew1) | exact HB.out)⟩
      · replace c8 := Bool.eq_false_iff.mpr c8
        subst c8
        have H1 : (if (l0.length : Int) > 1000 then (laws_FnDocHeader.j1 kj4 l0 a1 a2 l3 true) else (if (a2.size : Int) > 1000 then (laws_FnDocHeader.j1 kj4 l0 a1 a2 l3 true) else (if (l3.length : Int) > 1000 then (laws_FnDocHeader.j1 kj4 l0 a1 a2 l3 true) else ((spec_DocPlain.f kj4 a2).bind fun t245 => (laws_FnDocHeader.j1 kj4 l0 a1 a2 l3 (!t245)))))) = some r := by rw [if_neg (show ¬ (false = true) by decide)] at H; exact H
        clear H
        have H := H1
        clear H1
        have HC9 := Aside0.mk H
        clear H
        go_upto_region 3 with (fail)
        go_cut [59] (fun v59 wc => ∃ (kq : Nat) (x59_8 : Bool), v59 = .bool x59_8 ∧ Aside0 (laws_FnDocHeader.j1 kq l0 a1 a2 l3 x59_8 = some r) ∧ Aside0 (kq ≤ kj4) ∧ Aside0 (Below w.heap.size w wc))
        case first =>
          have H := HC9.out
          clear HC9
          by_cases c10 : (l0.length : Int) > 1000
          · rw [if_pos c10] at H
            have c10b0 : decide (1000 < (l0.length : Int)) = true := decide_eq_true c10
            have c10b1 : decide (1000 < l0.length) = true := decide_eq_true (by omega)
            clear c10
            (first | rw [c10b0] | (simp only [i64_w, i32_w]; rw [c10b0]) | skip)
            as_aux_lemma =>
              have H' := Aside0.mk H
              clear H
              go_wp2
              go_meet
              case rel => exact ⟨_, (true), (by first | rfl | (simp; done) | (simp [*]; done)), H', ⟨by have := HJ4.out; first | omega | exact Nat.le_refl _⟩, ⟨by repeat (first | (with_reducible first | exact HB.out | apply below_alloc | apply pw_below_drewN | apply below_drew1) | exact HB.out)⟩⟩
          · rw [if_neg c10] at H
            have c10b0 : decide (1000 < (l0.length : Int)) = false := decide_eq_false c10
            have c10b1 : decide (1000 < l0.length) = false := decide_eq_false (by omega)
            clear c10
            (first | rw [c10b0] | (simp only [i64_w, i32_w]; rw [c10b0]) | skip)
            by_cases c11 : (a2.size : Int) > 1000
            · rw [if_pos c11] at H
              have c11b0 : decide (1000 < (a2.size : Int)) = true := decide_eq_true c11
              have c11b1 : decide (1000 < a2.size) = true := decide_eq_true (by omega)
              clear c11
              as_aux_lemma =>
                have H' := Aside0.mk H
                clear H
                go_wp2
                go_meet
                case rel => exact ⟨_, (true), (by first | rfl | (simp; done) | (simp [*]; done)), H', ⟨by have := HJ4.out; first | omega | exact Nat.le_refl _⟩, ⟨by repeat (first | (with_reducible first | exact HB.out | apply below_alloc | apply pw_below_drewN | apply below_drew1) | exact HB.out)⟩⟩
            · rw [if_neg c11] at H
              have c11b0 : decide (1000 < (a2.size : Int)) = false := decide_eq_false c11
              have c11b1 : decide (1000 < a2.size) = false := decide_eq_false (by omega)
              clear c11
              by_cases c12 : (l3.length : Int) > 1000
              · rw [if_pos c12] at H
                have c12b0 : decide (1000 < (l3.length : Int)) = true := decide_eq_true c12
                have c12b1 : decide (1000 < l3.length) = true := decide_eq_true (by omega)
                clear c12
                as_aux_lemma =>
                  have H' := Aside0.mk H
                  clear H
                  go_wp2
                  go_meet
                  case rel => exact ⟨_, (true), (by first | rfl | (simp; done) | (simp [*]; done)), H', ⟨by have := HJ4.out; first | omega | exact Nat.le_refl _⟩, ⟨by repeat (first | (with_reducible first | exact HB.out | apply below_alloc | apply pw_below_drewN | apply below_drew1) | exact HB.out)⟩⟩
              · rw [if_neg c12] at H
                have c12b0 : decide (1000 < (l3.length : Int)) = false := decide_eq_false c12
                have c12b1 : decide (1000 < l3.length) = false := decide_eq_false (by omega)
                clear c12
                replace H := Option.bind_eq_some_iff.mp H
                obtain ⟨t245, A130, H⟩ := H
                replace H : (laws_FnDocHeader.j1 kj4 l0 a1 a2 l3 (!t245)) = some r := H
                have A13 := Aside0.mk A130
                clear A130
                as_aux_lemma =>
                  have H' := Aside0.mk H
                  clear H
                  go_wp2_with (first | (go_at_call 18; (with_reducible refine (spec_DocPlain.calls kj4 a2 t245 _ A13.out).mono ?_); rintro e w' ⟨rfl, ⟨nd, rfl⟩⟩))
                  go_meet
                  case rel => exact ⟨_, (!t245), (by first | rfl | (simp; done) | (simp [*]; done)), H', ⟨by have := HJ4.out; first | omega | exact Nat.le_refl _⟩, ⟨by repeat (first | (with_reducible first | exact HB.out | apply below_alloc | apply pw_below_drewN | apply below_drew1) | exact HB.out)⟩⟩
        case rest =>
          clear HC9
          try clear c1
          try clear p2
          try clear c3
          try clear c6
          try clear c6b0
          try clear c6b1
          try clear c7
          try clear c7b0
          try clear c7b1
          try clear c8
          try clear c10
          try clear c10b0
          try clear c10b1
          try clear c11
          try clear c11b0
          try clear c11b1
          try clear c12
          try clear c12b0
          try clear c12b1
          try clear p2
          obtain ⟨kq, x59_8, rfl, HA, HJ8, HB⟩ := hcut
          cases kq with
          | zero => exact absurd HA.out (by simp [laws_FnDocHeader.j1])
          | succ kj8 =>
            have H := HA.out
            clear HA
            simp only [laws_FnDocHeader.j1] at H
            by_cases c14 : x59_8 = true
            · subst c14
              have H1 : (some true) = some r := by rw [if_pos rfl] at H; exact H
              clear H
              have H := H1
              clear H1
              as_aux_lemma =>
                obtain rfl := Option.some.inj H
                go_wp2
                go_ret
                exact ⟨by first | rfl | (simp [errW_none, errW_some] <;> rfl) | (simp [*, errW_none, errW_some] <;> rfl), by repeat (first | (with_reducible first | exact HB.out | apply below_alloc | apply pw_below_drewN | apply below_drew1) | exact HB.out)⟩
            · replace c14 := Bool.eq_false_iff.mpr c14
              subst c14
              have H1 : ((spec_DocHead.f (wrap64 (a1)) a2).bind fun t246 => ((laws_docCopy.f l0).bind fun t249 => ((impl_AppendHeader.f t249 (wrap64 (a1)) a2).bind fun t252 => ((laws_docCopy.f l0).bind fun t255 => ((impl_AppendType.f t255 (wrap64 (a1))).bind fun t258 => ((impl_AppendKey.f t258 a2).bind fun t261 => (if (strOfNums l0).size + (strOfNums t246).size ≤ 9223372036854775807 then (if (strOfNums t252).toList = ((strOfNums l0) ++ (strOfNums t246)).toList then (laws_FnDocHeader.j2 kj8 a1 a2 l3 t246 ((strOfNums t261).toList != (strOfNums t252).toList)) else (laws_FnDocHeader.j2 kj8 a1 a2 l3 t246 true)) else (none)))))))) = some r := by rw [if_neg (show ¬ (false = true) by decide)] at H; exact H
              clear H
              have H := H1
              clear H1
              replace H := Option.bind_eq_some_iff.mp H
              obtain ⟨t246, A150, H⟩ := H
              replace H : ((laws_docCopy.f l0).bind fun t249 => ((impl_AppendHeader.f t249 (wrap64 (a1)) a2).bind fun t252 => ((laws_docCopy.f l0).bind fun t255 => ((impl_AppendType.f t255 (wrap64 (a1))).bind fun t258 => ((impl_AppendKey.f t258 a2).bind fun t261 => (if (strOfNums l0).size + (strOfNums t246).size ≤ 9223372036854775807 then (if (strOfNums t252).toList = ((strOfNums l0) ++ (strOfNums t246)).toList then (laws_FnDocHeader.j2 kj8 a1 a2 l3 t246 ((strOfNums t261).toList != (strOfNums t252).toList)) else (laws_FnDocHeader.j2 kj8 a1 a2 l3 t246 true)) else (none))))))) = some r := H
              have A15 := Aside0.mk A150
              clear A150
              replace H := Option.bind_eq_some_iff.mp H
              obtain ⟨t249, A160, H⟩ := H
              replace H : ((impl_AppendHeader.f t249 (wrap64 (a1)) a2).bind fun t252 => ((laws_docCopy.f l0).bind fun t255 => ((impl_AppendType.f t255 (wrap64 (a1))).bind fun t258 => ((impl_AppendKey.f t258 a2).bind fun t261 => (if (strOfNums l0).size + (strOfNums t246).size ≤ 9223372036854775807 then (if (strOfNums t252).toList = ((strOfNums l0) ++ (strOfNums t246)).toList then (laws_FnDocHeader.j2 kj8 a1 a2 l3 t246 ((strOfNums t261).toList != (strOfNums t252).toList)) else (laws_FnDocHeader.j2 kj8 a1 a2 l3 t246 true)) else (none)))))) = some r := H
              have A16 := Aside0.mk A160
              clear A160
              replace H := Option.bind_eq_some_iff.mp H
              obtain ⟨t252, A170, H⟩ := H
              replace H : ((laws_docCopy.f l0).bind fun t255 => ((impl_AppendType.f t255 (wrap64 (a1))).bind fun t258 => ((impl_AppendKey.f t258 a2).bind fun t261 => (if (strOfNums l0).size + (strOfNums t246).size ≤ 9223372036854775807 then (if (strOfNums t252).toList = ((strOfNums l0) ++ (strOfNums t246)).toList then (laws_FnDocHeader.j2 kj8 a1 a2 l3 t246 ((strOfNums t261).toList != (strOfNums t252).toList)) else (laws_FnDocHeader.j2 kj8 a1 a2 l3 t246 true)) else (none))))) = some r := H
              have A17 := Aside0.mk A170
              clear A170
              replace H := Option.bind_eq_some_iff.mp H
              obtain ⟨t255, A180, H⟩ := H
              replace H : ((impl_AppendType.f t255 (wrap64 (a1))).bind fun t258 => ((impl_AppendKey.f t258 a2).bind fun t261 => (if (strOfNums l0).size + (strOfNums t246).size ≤ 9223372036854775807 then (if (strOfNums t252).toList = ((strOfNums l0) ++ (strOfNums t246)).toList then (laws_FnDocHeader.j2 kj8 a1 a2 l3 t246 ((strOfNums t261).toList != (strOfNums t252).toList)) else (laws_FnDocHeader.j2 kj8 a1 a2 l3 t246 true)) else (none)))) = some r := H
              have A18 := Aside0.mk A180
              clear A180
              replace H := Option.bind_eq_some_iff.mp H
              obtain ⟨t258, A190, H⟩ := H
              replace H : ((impl_AppendKey.f t258 a2).bind fun t261 => (if (strOfNums l0).size + (strOfNums t246).size ≤ 9223372036854775807 then (if (strOfNums t252).toList = ((strOfNums l0) ++ (strOfNums t246)).toList then (laws_FnDocHeader.j2 kj8 a1 a2 l3 t246 ((strOfNums t261).toList != (strOfNums t252).toList)) else (laws_FnDocHeader.j2 kj8 a1 a2 l3 t246 true)) else (none))) = some r := H
              have A19 := Aside0.mk A190
              clear A190
              replace H := Option.bind_eq_some_iff.mp H
              obtain ⟨t261, A200, H⟩ := H
              replace H : (if (strOfNums l0).size + (strOfNums t246).size ≤ 9223372036854775807 then (if (strOfNums t252).toList = ((strOfNums l0) ++ (strOfNums t246)).toList then (laws_FnDocHeader.j2 kj8 a1 a2 l3 t246 ((strOfNums t261).toList != (strOfNums t252).toList)) else (laws_FnDocHeader.j2 kj8 a1 a2 l3 t246 true)) else (none)) = some r := H
              have A20 := Aside0.mk A200
              clear A200
              have HC21 := Aside0.mk H
              clear H
              go_upto_region 8 with (first | ((with_reducible refine gate_callee (f := 22) rfl ?_); refine goesL_ (some 63) rfl rfl Try.func22 (by kernel_rfl) rfl #[.int .i64 (wrap64 (a1)), .string a2] rfl (by (try simp only [List.map_toArray, List.map_cons, List.map_nil]); first | done | rfl | (simp only [List.length_drop, List.length_take]; rfl)) ?_; (with_reducible refine (spec_DocHead.calls (wrap64 (a1)) a2 t246 _ A15.out).mono ?_); rintro e w22 ⟨v247, rfl, ho0, hb⟩; refine ⟨_, rfl, ?_⟩; have n0_ := Aside0.mk (Kd.R_lower ho0 (below_size (by repeat (first | (with_reducible first | exact HB.out | apply below_alloc | apply pw_below_drewN | apply below_drew1) | exact HB.out)))); have n1_ := Aside0.mk (below_step (by repeat (first | (with_reducible first | exact HB.out | apply below_alloc | apply pw_below_drewN | apply below_drew1) | exact HB.out)) hb); clear HB; have HO248 := n0_; have HB := n1_; clear n0_ n1_; (try clear hb); (try clear hb2); (try clear hk); (try clear hi); (try clear ho0)) | ((with_reducible refine gate_callee (f := 12) rfl ?_); refine goesL_ (some 65) rfl rfl Try.func12 (by kernel_rfl) rfl #[.slice A0 l0.length c0] rfl (by (try simp only [List.map_toArray, List.map_cons, List.map_nil]); first | done | rfl | (simp only [List.length_drop, List.length_take]; rfl)) ?_; (with_reducible refine (laws_docCopy.calls _ _ l0 t249 _ ?side1 ?side2 A16.out).mono ?_); (case side1 => repeat (first | exact (Kd.C_below HR0.out HB.out) | (with_reducible refine Kd.C_alloc ?_ _) | (with_reducible refine Kd.C_drewN ?_ _) | (with_reducible refine Kd.C_drew ?_))); (case side2 => exact HC0.out); rintro e w23 ⟨v250, rfl, ho0, hb⟩; refine ⟨_, rfl, ?_⟩; have n0_ := Aside0.mk (Kd.R_elder' (by (with_reducible repeat (first | apply Kd.R_alloc | apply Kd.R_drewN | apply Kd.R_drew)); exact HO248.out) (Kd.R_base ho0) hb); have n1_ := Aside0.mk (Kd.R_lower (Kd.R_new' ho0 (Kd.R_lt (by (with_reducible repeat (first | apply Kd.R_alloc | apply Kd.R_drewN | apply Kd.R_drew)); exact HO248.out))) (below_size (by repeat (first | (with_reducible first | exact HB.out | apply below_alloc | apply pw_below_drewN | apply below_drew1) | exact HB.out)))); have n2_ := Aside0.mk (below_step (by repeat (first | (with_reducible first | exact HB.out | apply below_alloc | apply pw_below_drewN | apply below_drew1) | exact HB.out)) hb); clear HO248; clear HB; have HO248 := n0_; have HO251 := n1_; have HB := n2_; clear n0_ n1_ n2_; (try clear hb); (try clear hb2); (try clear hk); (try clear hi); (try clear ho0); obtain ⟨Ao24, co24, eo24⟩ := Kd.R_slice HO251.out; subst eo24) | ((with_reducible refine gate_callee (f := 23) rfl ?_); refine goesL_ (some 69) rfl rfl Try.func23 (by kernel_rfl) rfl #[.slice Ao24 t249.length co24, .int .i64 (wrap64 (a1)), .string a2] rfl (by (try simp only [List.map_toArray, List.map_cons, List.map_nil]); first | done | rfl | (simp only [List.length_drop, List.length_take]; rfl)) ?_; (with_reducible refine (impl_AppendHeader.calls _ _ t249 (wrap64 (a1)) a2 t252 _ ?side1 ?side2 A17.out).mono ?_); (case side1 => repeat (first | exact (Kd.R_reads' HO251.out).2.2 | (with_reducible refine Kd.C_alloc ?_ _) | (with_reducible refine Kd.C_drewN ?_ _) | (with_reducible refine Kd.C_drew ?_))); (case side2 => exact (Kd.R_reads' HO251.out).2.1); rintro e w25 ⟨v253, rfl, ho0, hb⟩; refine ⟨_, rfl, ?_⟩; have n0_ := Aside0.mk (Kd.R_elder' (by (with_reducible repeat (first | apply Kd.R_alloc | apply Kd.R_drewN | apply Kd.R_drew)); exact HO248.out) (Kd.R_base ho0) hb); have n1_ := Aside0.mk (Kd.R_elder' (by (with_reducible repeat (first | apply Kd.R_alloc | apply Kd.R_drewN | apply Kd.R_drew)); exact HO251.out) (Kd.R_base ho0) hb); have n2_ := Aside0.mk (Kd.R_lower (Kd.R_new' (Kd.R_new' ho0 (Kd.R_lt (by (with_reducible repeat (first | apply Kd.R_alloc | apply Kd.R_drewN | apply Kd.R_drew)); exact HO248.out))) (Kd.R_lt (by (with_reducible repeat (first | apply Kd.R_alloc | apply Kd.R_drewN | apply Kd.R_drew)); exact HO251.out))) (below_size (by repeat (first | (with_reducible first | exact HB.out | apply below_alloc | apply pw_below_drewN | apply below_drew1) | exact HB.out)))); have n3_ := Aside0.mk (below_step (by repeat (first | (with_reducible first | exact HB.out | apply below_alloc | apply pw_below_drewN | apply below_drew1) | exact HB.out)) hb); clear HO248; clear HO251; clear HB; have HO248 := n0_; have HO251 := n1_; have HO254 := n2_; have HB := n3_; clear n0_ n1_ n2_ n3_; (try clear hb); (try clear hb2); (try clear hk); (try clear hi); (try clear ho0)) | ((with_reducible refine gate_callee (f := 12) rfl ?_); refine goesL_ (some 71) rfl rfl Try.func12 (by kernel_rfl) rfl #[.slice A0 l0.length c0] rfl (by (try simp only [List.map_toArray, List.map_cons, List.map_nil]); first | done | rfl | (simp only [List.length_drop, List.length_take]; rfl)) ?_; (with_reducible refine (laws_docCopy.calls _ _ l0 t255 _ ?side1 ?side2 A18.out).mono ?_); (case side1 => repeat (first | exact (Kd.C_below HR0.out HB.out) | (with_reducible refine Kd.C_alloc ?_ _) | (with_reducible refine Kd.C_drewN ?_ _) | (with_reducible refine Kd.C_drew ?_))); (case side2 => exact HC0.out); rintro e w26 ⟨v256, rfl, ho0, hb⟩; refine ⟨_, rfl, ?_⟩; have n0_ := Aside0.mk (Kd.R_elder' (by (with_reducible repeat (first | apply Kd.R_alloc | apply Kd.R_drewN | apply Kd.R_drew)); exact HO248.out) (Kd.R_base ho0) hb); have n1_ := Aside0.mk (Kd.R_elder' (by (with_reducible repeat (first | apply Kd.R_alloc | apply Kd.R_drewN | apply Kd.R_drew)); exact HO251.out) (Kd.R_base ho0) hb); have n2_ := Aside0.mk (Kd.R_elder' (by (with_reducible repeat (first | apply Kd.R_alloc | apply Kd.R_drewN | apply Kd.R_drew)); exact HO254.out) (Kd.R_base ho0) hb); have n3_ := Aside0.mk (Kd.R_lower (Kd.R_new' (Kd.R_new' (Kd.R_new' ho0 (Kd.R_lt (by (with_reducible repeat (first | apply Kd.R_alloc | apply Kd.R_drewN | apply Kd.R_drew)); exact HO248.out))) (Kd.R_lt (by (with_reducible repeat (first | apply Kd.R_alloc | apply Kd.R_drewN | apply Kd.R_drew)); exact HO251.out))) (Kd.R_lt (by (with_reducible repeat (first | apply Kd.R_alloc | apply Kd.R_drewN | apply Kd.R_drew)); exact HO254.out))) (below_size (by repeat (first | (with_reducible first | exact HB.out | apply below_alloc | apply pw_below_drewN | apply below_drew1) | exact HB.out)))); have n4_ := Aside0.mk (below_step (by repeat (first | (with_reducible first | exact HB.out | apply below_alloc | apply pw_below_drewN | apply below_drew1) | exact HB.out)) hb); clear HO248; clear HO251; clear HO254; clear HB; have HO248 := n0_; have HO251 := n1_; have HO254 := n2_; have HO257 := n3_; have HB := n4_; clear n0_ n1_ n2_ n3_ n4_; (try clear hb); (try clear hb2); (try clear hk); (try clear hi); (try clear ho0); obtain ⟨Ao27, co27, eo27⟩ := Kd.R_slice HO257.out; subst eo27) | ((with_reducible refine gate_callee (f := 25) rfl ?_); refine goesL_ (some 74) rfl rfl Try.func25 (by kernel_rfl) rfl #[.slice Ao27 t255.length co27, .int .i64 (wrap64 (a1))] rfl (by (try simp only [List.map_toArray, List.map_cons, List.map_nil]); first | done | rfl | (simp only [List.length_drop, List.length_take]; rfl)) ?_; (with_reducible refine (impl_AppendType.calls _ _ t255 (wrap64 (a1)) t258 _ ?side1 ?side2 A19.out).mono ?_); (case side1 => repeat (first | exact (Kd.R_reads' HO257.out).2.2 | (with_reducible refine Kd.C_alloc ?_ _) | (with_reducible refine Kd.C_drewN ?_ _) | (with_reducible refine Kd.C_drew ?_))); (case side2 => exact (Kd.R_reads' HO257.out).2.1); rintro e w28 ⟨v259, rfl, ho0, hb⟩; refine ⟨_, rfl, ?_⟩; have n0_ := Aside0.mk (Kd.R_elder' (by (with_reducible repeat (first | apply Kd.R_alloc | apply Kd.R_drewN | apply Kd.R_drew)); exact HO248.out) (Kd.R_base ho0) hb); have n1_ := Aside0.mk (Kd.R_elder' (by (with_reducible repeat (first | apply Kd.R_alloc | apply Kd.R_drewN | apply Kd.R_drew)); exact HO251.out) (Kd.R_base ho0) hb); have n2_ := Aside0.mk (Kd.R_elder' (by (with_reducible repeat (first | apply Kd.R_alloc | apply Kd.R_drewN | apply Kd.R_drew)); exact HO254.out) (Kd.R_base ho0) hb); have n3_ := Aside0.mk (Kd.R_elder' (by (with_reducible repeat (first | apply Kd.R_alloc | apply Kd.R_drewN | apply Kd.R_drew)); exact HO257.out) (Kd.R_base ho0) hb); have n4_ := Aside0.mk (Kd.R_lower (Kd.R_new' (Kd.R_new' (Kd.R_new' (Kd.R_new' ho0 (Kd.R_lt (by (with_reducible repeat (first | apply Kd.R_alloc | apply Kd.R_drewN | apply Kd.R_drew)); exact HO248.out))) (Kd.R_lt (by (with_reducible repeat (first | apply Kd.R_alloc | apply Kd.R_drewN | apply Kd.R_drew)); exact HO251.out))) (Kd.R_lt (by (with_reducible repeat (first | apply Kd.R_alloc | apply Kd.R_drewN | apply Kd.R_drew)); exact HO254.out))) (Kd.R_lt (by (with_reducible repeat (first | apply Kd.R_alloc | apply Kd.R_drewN | apply Kd.R_drew)); exact HO257.out))) (below_size (by repeat (first | (with_reducible first | exact HB.out | apply below_alloc | apply pw_below_drewN | apply below_drew1) | exact HB.out)))); have n5_ := Aside0.mk (below_step (by repeat (first | (with_reducible first | exact HB.out | apply below_alloc | apply pw_below_drewN | apply below_drew1) | exact HB.out)) hb); clear HO248; clear HO251; clear HO254; clear HO257; clear HB; have HO248 := n0_; have HO251 := n1_; have HO254 := n2_; have HO257 := n3_; have HO260 := n4_; have HB := n5_; clear n0_ n1_ n2_ n3_ n4_ n5_; (try clear hb); (try clear hb2); (try clear hk); (try clear hi); (try clear ho0); obtain ⟨Ao29, co29, eo29⟩ := Kd.R_slice HO260.out; subst eo29) | ((with_reducible refine gate_callee (f := 24) rfl ?_); refine goesL_ (some 76) rfl rfl Try.func24 (by kernel_rfl) rfl #[.slice Ao29 t258.length co29, .string a2] rfl (by (try simp only [List.map_toArray, List.map_cons, List.map_nil]); first | done | rfl | (simp only [List.length_drop, List.length_take]; rfl)) ?_; (with_reducible refine (impl_AppendKey.calls _ _ t258 a2 t261 _ ?side1 ?side2 A20.out).mono ?_); (case side1 => repeat (first | exact (Kd.R_reads' HO260.out).2.2 | (with_reducible refine Kd.C_alloc ?_ _) | (with_reducible refine Kd.C_drewN ?_ _) | (with_reducible refine Kd.C_drew ?_))); (case side2 => exact (Kd.R_reads' HO260.out).2.1); rintro e w30 ⟨v262, rfl, ho0, hb⟩; refine ⟨_, rfl, ?_⟩; have n0_ := Aside0.mk (Kd.R_elder' (by (with_reducible repeat (first | apply Kd.R_alloc | apply Kd.R_drewN | apply Kd.R_drew)); exact HO248.out) (Kd.R_base ho0) hb); have n1_ := Aside0.mk (Kd.R_elder' (by (with_reducible repeat (first | apply Kd.R_alloc | apply Kd.R_drewN | apply Kd.R_drew)); exact HO251.out) (Kd.R_base ho0) hb); have n2_ := Aside0.mk (Kd.R_elder' (by (with_reducible repeat (first | apply Kd.R_alloc | apply Kd.R_drewN | apply Kd.R_drew)); exact HO254.out) (Kd.R_base ho0) hb); have n3_ := Aside0.mk (Kd.R_elder' (by (with_reducible repeat (first | apply Kd.R_alloc | apply Kd.R_drewN | apply Kd.R_drew)); exact HO257.out) (Kd.R_base ho0) hb); have n4_ := Aside0.mk (Kd.R_elder' (by (with_reducible repeat (first | apply Kd.R_alloc | apply Kd.R_drewN | apply Kd.R_drew)); exact HO260.out) (Kd.R_base ho0) hb); have n5_ := Aside0.mk (Kd.R_lower (Kd.R_new' (Kd.R_new' (Kd.R_new' (Kd.R_new' (Kd.R_new' ho0 (Kd.R_lt (by (with_reducible repeat (first | apply Kd.R_alloc | apply Kd.R_drewN | apply Kd.R_drew)); exact HO248.out))) (Kd.R_lt (by (with_reducible repeat (first | apply Kd.R_alloc | apply Kd.R_drewN | apply Kd.R_drew)); exact HO251.out))) (Kd.R_lt (by (with_reducible repeat (first | apply Kd.R_alloc | apply Kd.R_drewN | apply Kd.R_drew)); exact HO254.out))) (Kd.R_lt (by (with_reducible repeat (first | apply Kd.R_alloc | apply Kd.R_drewN | apply Kd.R_drew)); exact HO257.out))) (Kd.R_lt (by (with_reducible repeat (first | apply Kd.R_alloc | apply Kd.R_drewN | apply Kd.R_drew)); exact HO260.out))) (below_size (by repeat (first | (with_reducible first | exact HB.out | apply below_alloc | apply pw_below_drewN | apply below_drew1) | exact HB.out)))); have n6_ := Aside0.mk (below_step (by repeat (first | (with_reducible first | exact HB.out | apply below_alloc | apply pw_below_drewN | apply below_drew1) | exact HB.out)) hb); clear HO248; clear HO251; clear HO254; clear HO257; clear HO260; clear HB; have HO248 := n0_; have HO251 := n1_; have HO254 := n2_; have HO257 := n3_; have HO260 := n4_; have HO263 := n5_; have HB := n6_; clear n0_ n1_ n2_ n3_ n4_ n5_ n6_; (try clear hb); (try clear hb2); (try clear hk); (try clear hi); (try clear ho0)))
              (try simp only [Act.put, List.setIfInBounds_toArray, List.set_cons_zero, List.set_cons_succ])
              go_cut [91] (fun v91 wc => ∃ (kq : Nat) (x91_20 : Bool), v91 = .bool x91_20 ∧ Aside0 (laws_FnDocHeader.j2 kq a1 a2 l3 t246 x91_20 = some r) ∧ Aside0 (kq ≤ kj8) ∧ Aside0 (Kd.R (Kd.int .u8) 5 wc w.heap.size (fun _ => True) v247 t246) ∧ Aside0 (Below w.heap.size w wc))
              case first =>
                have H := HC21.out
                clear HC21
                by_cases c31 : (strOfNums l0).size + (strOfNums t246).size ≤ 9223372036854775807
                · rw [if_pos c31] at H
                  have c31b0 := eq_true c31
                  have c31b1 : decide ((strOfNums l0).size + (strOfNums t246).size ≤ 9223372036854775807) = true := decide_eq_true c31
                  try have c31b2 : (9223372036854775807 < (strOfNums l0).size + (strOfNums t246).size) = False := eq_false (Nat.not_lt.2 c31)
                  by_cases c32 : (strOfNums t252).toList = ((strOfNums l0) ++ (strOfNums t246)).toList
                  · rw [if_pos c32] at H
                    have c32b0 : ((strOfNums t252).toList == ((strOfNums l0) ++ (strOfNums t246)).toList) = true := beq_iff_eq.mpr c32
                    have c32b1 : ((strOfNums t252).toList != ((strOfNums l0) ++ (strOfNums t246)).toList) = false := bne_eq_false_iff_eq.mpr c32
                    clear c32
                    (first | rw [c32b0] | (simp only [i64_w, i32_w]; rw [c32b0]) | skip)
                    as_aux_lemma =>
                      have H' := Aside0.mk H
                      clear H
                      have hcv33 := own_string (P := Try.prog) Try.underlying24 Try.underlying5 Try.underlying9 (Kd.own_of_R HO254.out)
                      have hcv34 := Kd.C_string (P := Try.prog) (A := A0) (c := c0) Try.underlying24 Try.underlying5 Try.underlying9 (Kd.C_below HR0.out HB.out)
                      have hcv35 := own_string (P := Try.prog) Try.underlying24 Try.underlying5 Try.underlying9 (Kd.own_of_R HO248.out)
                      have hcv36 := own_string (P := Try.prog) Try.underlying24 Try.underlying5 Try.underlying9 (Kd.own_of_R HO263.out)
                      have hcv37 := own_string (P := Try.prog) Try.underlying24 Try.underlying5 Try.underlying9 (Kd.own_of_R HO254.out)
                      go_wp2
                      go_meet
                      case rel => exact ⟨_, (((strOfNums t261).toList != (strOfNums t252).toList)), (by first | rfl | (simp; done) | (simp [*]; done)), H', ⟨by have := HJ4.out; have := HJ8.out; first | omega | exact Nat.le_refl _⟩, ⟨by (with_reducible repeat (first | apply Kd.R_alloc | apply Kd.R_drewN | apply Kd.R_drew)); exact Kd.R_mono HO248.out (fun _ hk => trivial)⟩, ⟨by repeat (first | (with_reducible first | exact HB.out | apply below_alloc | apply pw_below_drewN | apply below_drew1) | exact HB.out)⟩⟩
                  · rw [if_neg c32] at H
                    have c32b0 : ((strOfNums t252).toList == ((strOfNums l0) ++ (strOfNums t246)).toList) = false := beq_eq_false_iff_ne.mpr c32
                    have c32b1 : ((strOfNums t252).toList != ((strOfNums l0) ++ (strOfNums t246)).toList) = true := bne_iff_ne.mpr c32
                    (first | rw [c32b0] | (simp only [i64_w, i32_w]; rw [c32b0]) | skip)
                    as_aux_lemma =>
                      have H' := Aside0.mk H
                      clear H
                      have hcv38 := own_string (P := Try.prog) Try.underlying24 Try.underlying5 Try.underlying9 (Kd.own_of_R HO254.out)
                      have hcv39 := Kd.C_string (P := Try.prog) (A := A0) (c := c0) Try.underlying24 Try.underlying5 Try.underlying9 (Kd.C_below HR0.out HB.out)
                      have hcv40 := own_string (P := Try.prog) Try.underlying24 Try.underlying5 Try.underlying9 (Kd.own_of_R HO248.out)
                      go_wp2
                      go_meet
                      case rel => exact ⟨_, (true), (by first | rfl | (simp; done) | (simp [*]; done)), H', ⟨by have := HJ4.out; have := HJ8.out; first | omega | exact Nat.le_refl _⟩, ⟨by (with_reducible repeat (first | apply Kd.R_alloc | apply Kd.R_drewN | apply Kd.R_drew)); exact Kd.R_mono HO248.out (fun _ hk => trivial)⟩, ⟨by repeat (first | (with_reducible first | exact HB.out | apply below_alloc | apply pw_below_drewN | apply below_drew1) | exact HB.out)⟩⟩
                · rw [if_neg c31] at H
                  exact absurd H (by simp)
              case rest =>
                clear HC21
                try clear c1
                try clear c2
                try clear p2
                try clear c3
                try clear hcv3
                try clear hcv4
                try clear c6
                try clear c6b0
                try clear c6b1
                try clear p6
                try clear c7
                try clear c7b0
                try clear c7b1
                try clear c8
                try clear c10
                try clear c10b0
                try clear c10b1
                try clear c11
                try clear c11b0
                try clear c11b1
                try clear c12
                try clear c12b0
                try clear c12b1
                try clear c14
                try clear c22
                try clear c23
                try clear c24
                try clear c25
                try clear c31
                try clear c31b0
                try clear c31b1
                try clear c31b2
                try clear c32
                try clear c32b0
                try clear c32b1
                try clear hcv33
                try clear hcv34
                try clear hcv35
                try clear hcv36
                try clear hcv37
                try clear hcv38
                try clear hcv39
                try clear hcv40
                try clear p2
                obtain ⟨kq, x91_20, rfl, HA, HJ20, HO_9, HB⟩ := hcut
                cases kq with
                | zero => exact absurd HA.out (by simp [laws_FnDocHeader.j2])
                | succ kj20 =>
                  have H := HA.out
                  clear HA
                  simp only [laws_FnDocHeader.j2] at H
                  by_cases c41 : x91_20 = true
                  · subst c41
                    have H1 : (some false) = some r := by rw [if_pos rfl] at H; exact H
                    clear H
                    have H := H1
                    clear H1
                    as_aux_lemma =>
                      obtain rfl := Option.some.inj H
                      go_wp2
                      go_ret
                      exact ⟨by first | rfl | (simp [errW_none, errW_some] <;> rfl) | (simp [*, errW_none, errW_some] <;> rfl), by repeat (first | (with_reducible first | exact HB.out | apply below_alloc | apply pw_below_drewN | apply below_drew1) | exact HB.out)⟩
                  · replace c41 := Bool.eq_false_iff.mpr c41
                    subst c41
                    have H1 : ((laws_docCopy.f t246).bind fun t264 => (if t264.length + l3.length < 140737488355328 then ((some (t264 ++ l3 : List Int)).bind fun y267 => ((impl_ReadHeader.f y267).bind fun bt270 => ((impl_ReadType.f y267).bind fun bt276 => ((impl_ReadKey.f bt276.2.1).bind fun bt281 => ((impl_ReadKeyBytes.f bt276.2.1).bind fun bt286 => ((impl_ReadCString.f bt276.2.1).bind fun bt293 => (if bt270.2.2.2 = true then (if bt276.2.2 = true then (if bt281.2.2 = true then (if bt286.2.2 = true then (laws_FnDocHeader.j3 kj20 a1 a2 l3 bt270.1 bt270.2.1 bt270.2.2.1 bt276.1 bt281.1 bt281.2.1 bt286.1 bt286.2.1 bt293.1 bt293.2.1 (!bt293.2.2)) else (laws_FnDocHeader.j3 kj20 a1 a2 l3 bt270.1 bt270.2.1 bt270.2.2.1 bt276.1 bt281.1 bt281.2.1 bt286.1 bt286.2.1 bt293.1 bt293.2.1 true)) else (laws_FnDocHeader.j3 kj20 a1 a2 l3 bt270.1 bt270.2.1 bt270.2.2.1 bt276.1 bt281.1 bt281.2.1 bt286.1 bt286.2.1 bt293.1 bt293.2.1 true)) else (laws_FnDocHeader.j3 kj20 a1 a2 l3 bt270.1 bt270.2.1 bt270.2.2.1 bt276.1 bt281.1 bt281.2.1 bt286.1 bt286.2.1 bt293.1 bt293.2.1 true)) else (laws_FnDocHeader.j3 kj20 a1 a2 l3 bt270.1 bt270.2.1 bt270.2.2.1 bt276.1 bt281.1 bt281.2.1 bt286.1 bt286.2.1 bt293.1 bt293.2.1 true)))))))) else (none))) = some r := by rw [if_neg (show ¬ (false = true) by decide)] at H; exact H
                    clear H
                    have H := H1
                    clear H1
                    replace H := Option.bind_eq_some_iff.mp H
                    obtain ⟨t264, A420, H⟩ := H
                    replace H : (if t264.length + l3.length < 140737488355328 then ((some (t264 ++ l3 : List Int)).bind fun y267 => ((impl_ReadHeader.f y267).bind fun bt270 => ((impl_ReadType.f y267).bind fun bt276 => ((impl_ReadKey.f bt276.2.1).bind fun bt281 => ((impl_ReadKeyBytes.f bt276.2.1).bind fun bt286 => ((impl_ReadCString.f bt276.2.1).bind fun bt293 => (if bt270.2.2.2 = true then (if bt276.2.2 = true then (if bt281.2.2 = true then (if bt286.2.2 = true then (laws_FnDocHeader.j3 kj20 a1 a2 l3 bt270.1 bt270.2.1 bt270.2.2.1 bt276.1 bt281.1 bt281.2.1 bt286.1 bt286.2.1 bt293.1 bt293.2.1 (!bt293.2.2)) else (laws_FnDocHeader.j3 kj20 a1 a2 l3 bt270.1 bt270.2.1 bt270.2.2.1 bt276.1 bt281.1 bt281.2.1 bt286.1 bt286.2.1 bt293.1 bt293.2.1 true)) else (laws_FnDocHeader.j3 kj20 a1 a2 l3 bt270.1 bt270.2.1 bt270.2.2.1 bt276.1 bt281.1 bt281.2.1 bt286.1 bt286.2.1 bt293.1 bt293.2.1 true)) else (laws_FnDocHeader.j3 kj20 a1 a2 l3 bt270.1 bt270.2.1 bt270.2.2.1 bt276.1 bt281.1 bt281.2.1 bt286.1 bt286.2.1 bt293.1 bt293.2.1 true)) else (laws_FnDocHeader.j3 kj20 a1 a2 l3 bt270.1 bt270.2.1 bt270.2.2.1 bt276.1 bt281.1 bt281.2.1 bt286.1 bt286.2.1 bt293.1 bt293.2.1 true)))))))) else (none)) = some r := H
                    have A42 := Aside0.mk A420
                    clear A420
                    by_cases c43 : t264.length + l3.length < 140737488355328
                    · rw [if_pos c43] at H
                      have LMc43 := Aside0.mk c43
                      clear c43
                      obtain ⟨y267, hy267⟩ : ∃ y_ : List Int, y_ = (t264 ++ l3) := ⟨_, rfl⟩
                      replace H : ((impl_ReadHeader.f y267).bind fun bt270 => ((impl_ReadType.f y267).bind fun bt276 => ((impl_ReadKey.f bt276.2.1).bind fun bt281 => ((impl_ReadKeyBytes.f bt276.2.1).bind fun bt286 => ((impl_ReadCString.f bt276.2.1).bind fun bt293 => (if bt270.2.2.2 = true then (if bt276.2.2 = true then (if bt281.2.2 = true then (if bt286.2.2 = true then (laws_FnDocHeader.j3 kj20 a1 a2 l3 bt270.1 bt270.2.1 bt270.2.2.1 bt276.1 bt281.1 bt281.2.1 bt286.1 bt286.2.1 bt293.1 bt293.2.1 (!bt293.2.2)) else (laws_FnDocHeader.j3 kj20 a1 a2 l3 bt270.1 bt270.2.1 bt270.2.2.1 bt276.1 bt281.1 bt281.2.1 bt286.1 bt286.2.1 bt293.1 bt293.2.1 true)) else (laws_FnDocHeader.j3 kj20 a1 a2 l3 bt270.1 bt270.2.1 bt270.2.2.1 bt276.1 bt281.1 bt281.2.1 bt286.1 bt286.2.1 bt293.1 bt293.2.1 true)) else (laws_FnDocHeader.j3 kj20 a1 a2 l3 bt270.1 bt270.2.1 bt270.2.2.1 bt276.1 bt281.1 bt281.2.1 bt286.1 bt286.2.1 bt293.1 bt293.2.1 true)) else (laws_FnDocHeader.j3 kj20 a1 a2 l3 bt270.1 bt270.2.1 bt270.2.2.1 bt276.1 bt281.1 bt281.2.1 bt286.1 bt286.2.1 bt293.1 bt293.2.1 true))))))) = some r := by first | (rw [hy267]; with_reducible exact H) | (have H2_ := (Option.bind_some _ _).symm.trans H; rw [hy267]; with_reducible exact H2_) | (have H2_ := (Option.bind_some _ _).symm.trans H; with_reducible exact H2_) | with_reducible exact H | (rw [hy267]; exact H) | exact H
                      have Ny267 := Aside0.mk hy267
                      clear hy267
                      replace H := Option.bind_eq_some_iff.mp H
                      obtain ⟨⟨t270, t271, t272, t273⟩, A440, H⟩ := H
                      replace H : ((impl_ReadType.f y267).bind fun bt276 => ((impl_ReadKey.f bt276.2.1).bind fun bt281 => ((impl_ReadKeyBytes.f bt276.2.1).bind fun bt286 => ((impl_ReadCString.f bt276.2.1).bind fun bt293 => (if t273 = true then (if bt276.2.2 = true then (if bt281.2.2 = true then (if bt286.2.2 = true then (laws_FnDocHeader.j3 kj20 a1 a2 l3 t270 t271 t272 bt276.1 bt281.1 bt281.2.1 bt286.1 bt286.2.1 bt293.1 bt293.2.1 (!bt293.2.2)) else (laws_FnDocHeader.j3 kj20 a1 a2 l3 t270 t271 t272 bt276.1 bt281.1 bt281.2.1 bt286.1 bt286.2.1 bt293.1 bt293.2.1 true)) else (laws_FnDocHeader.j3 kj20 a1 a2 l3 t270 t271 t272 bt276.1 bt281.1 bt281.2.1 bt286.1 bt286.2.1 bt293.1 bt293.2.1 true)) else (laws_FnDocHeader.j3 kj20 a1 a2 l3 t270 t271 t272 bt276.1 bt281.1 bt281.2.1 bt286.1 bt286.2.1 bt293.1 bt293.2.1 true)) else (laws_FnDocHeader.j3 kj20 a1 a2 l3 t270 t271 t272 bt276.1 bt281.1 bt281.2.1 bt286.1 bt286.2.1 bt293.1 bt293.2.1 true)))))) = some r := H
                      have A44 := Aside0.mk A440
                      clear A440
                      replace H := Option.bind_eq_some_iff.mp H
                      obtain ⟨⟨t276, t277, t278⟩, A450, H⟩ := H
                      replace H : ((impl_ReadKey.f t277).bind fun bt281 => ((impl_ReadKeyBytes.f t277).bind fun bt286 => ((impl_ReadCString.f t277).bind fun bt293 => (if t273 = true then (if t278 = true then (if bt281.2.2 = true then (if bt286.2.2 = true then (laws_FnDocHeader.j3 kj20 a1 a2 l3 t270 t271 t272 t276 bt281.1 bt281.2.1 bt286.1 bt286.2.1 bt293.1 bt293.2.1 (!bt293.2.2)) else (laws_FnDocHeader.j3 kj20 a1 a2 l3 t270 t271 t272 t276 bt281.1 bt281.2.1 bt286.1 bt286.2.1 bt293.1 bt293.2.1 true)) else (laws_FnDocHeader.j3 kj20 a1 a2 l3 t270 t271 t272 t276 bt281.1 bt281.2.1 bt286.1 bt286.2.1 bt293.1 bt293.2.1 true)) else (laws_FnDocHeader.j3 kj20 a1 a2 l3 t270 t271 t272 t276 bt281.1 bt281.2.1 bt286.1 bt286.2.1 bt293.1 bt293.2.1 true)) else (laws_FnDocHeader.j3 kj20 a1 a2 l3 t270 t271 t272 t276 bt281.1 bt281.2.1 bt286.1 bt286.2.1 bt293.1 bt293.2.1 true))))) = some r := H
                      have A45 := Aside0.mk A450
                      clear A450
                      replace H := Option.bind_eq_some_iff.mp H
                      obtain ⟨⟨t281, t282, t283⟩, A460, H⟩ := H
                      replace H : ((impl_ReadKeyBytes.f t277).bind fun bt286 => ((impl_ReadCString.f t277).bind fun bt293 => (if t273 = true then (if t278 = true then (if t283 = true then (if bt286.2.2 = true then (laws_FnDocHeader.j3 kj20 a1 a2 l3 t270 t271 t272 t276 t281 t282 bt286.1 bt286.2.1 bt293.1 bt293.2.1 (!bt293.2.2)) else (laws_FnDocHeader.j3 kj20 a1 a2 l3 t270 t271 t272 t276 t281 t282 bt286.1 bt286.2.1 bt293.1 bt293.2.1 true)) else (laws_FnDocHeader.j3 kj20 a1 a2 l3 t270 t271 t272 t276 t281 t282 bt286.1 bt286.2.1 bt293.1 bt293.2.1 true)) else (laws_FnDocHeader.j3 kj20 a1 a2 l3 t270 t271 t272 t276 t281 t282 bt286.1 bt286.2.1 bt293.1 bt293.2.1 true)) else (laws_FnDocHeader.j3 kj20 a1 a2 l3 t270 t271 t272 t276 t281 t282 bt286.1 bt286.2.1 bt293.1 bt293.2.1 true)))) = some r := H
                      have A46 := Aside0.mk A460
                      clear A460
                      replace H := Option.bind_eq_some_iff.mp H
                      obtain ⟨⟨t286, t287, t288⟩, A470, H⟩ := H
                      replace H : ((impl_ReadCString.f t277).bind fun bt293 => (if t273 = true then (if t278 = true then (if t283 = true then (if t288 = true then (laws_FnDocHeader.j3 kj20 a1 a2 l3 t270 t271 t272 t276 t281 t282 t286 t287 bt293.1 bt293.2.1 (!bt293.2.2)) else (laws_FnDocHeader.j3 kj20 a1 a2 l3 t270 t271 t272 t276 t281 t282 t286 t287 bt293.1 bt293.2.1 true)) else (laws_FnDocHeader.j3 kj20 a1 a2 l3 t270 t271 t272 t276 t281 t282 t286 t287 bt293.1 bt293.2.1 true)) else (laws_FnDocHeader.j3 kj20 a1 a2 l3 t270 t271 t272 t276 t281 t282 t286 t287 bt293.1 bt293.2.1 true)) else (laws_FnDocHeader.j3 kj20 a1 a2 l3 t270 t271 t272 t276 t281 t282 t286 t287 bt293.1 bt293.2.1 true))) = some r := H
                      have A47 := Aside0.mk A470
                      clear A470
                      replace H := Option.bind_eq_some_iff.mp H
                      obtain ⟨⟨t293, t294, t295⟩, A480, H⟩ := H
                      replace H : (if t273 = true then (if t278 = true then (if t283 = true then (if t288 = true then (laws_FnDocHeader.j3 kj20 a1 a2 l3 t270 t271 t272 t276 t281 t282 t286 t287 t293 t294 (!t295)) else (laws_FnDocHeader.j3 kj20 a1 a2 l3 t270 t271 t272 t276 t281 t282 t286 t287 t293 t294 true)) else (laws_FnDocHeader.j3 kj20 a1 a2 l3 t270 t271 t272 t276 t281 t282 t286 t287 t293 t294 true)) else (laws_FnDocHeader.j3 kj20 a1 a2 l3 t270 t271 t272 t276 t281 t282 t286 t287 t293 t294 true)) else (laws_FnDocHeader.j3 kj20 a1 a2 l3 t270 t271 t272 t276 t281 t282 t286 t287 t293 t294 true)) = some r := H
                      have A48 := Aside0.mk A480
                      clear A480
                      have HC49 := Aside0.mk H
                      clear H
                      obtain ⟨Ao50, co50, eo50⟩ := Kd.R_slice HO_9.out
                      subst eo50
                      go_upto_region 16 with (first | ((with_reducible refine gate_callee (f := 12) rfl ?_); refine goesL_ (some 93) rfl rfl Try.func12 (by kernel_rfl) rfl #[.slice Ao50 t246.length co50] rfl (by (try simp only [List.map_toArray, List.map_cons, List.map_nil]); first | done | rfl | (simp only [List.length_drop, List.length_take]; rfl)) ?_; (with_reducible refine (laws_docCopy.calls _ _ t246 t264 _ ?side1 ?side2 A42.out).mono ?_); (case side1 => repeat (first | exact (Kd.R_reads' HO_9.out).2.2 | (with_reducible refine Kd.C_alloc ?_ _) | (with_reducible refine Kd.C_drewN ?_ _) | (with_reducible refine Kd.C_drew ?_))); (case side2 => exact (Kd.R_reads' HO_9.out).2.1); rintro e w51 ⟨v265, rfl, ho0, hb⟩; refine ⟨_, rfl, ?_⟩; have n0_ := Aside0.mk (Kd.R_elder' (by (with_reducible repeat (first | apply Kd.R_alloc | apply Kd.R_drewN | apply Kd.R_drew)); exact HO_9.out) (Kd.R_base ho0) hb); have n1_ := Aside0.mk (Kd.R_lower (Kd.R_new' ho0 (Kd.R_lt (by (with_reducible repeat (first | apply Kd.R_alloc | apply Kd.R_drewN | apply Kd.R_drew)); exact HO_9.out))) (below_size (by repeat (first | (with_reducible first | exact HB.out | apply below_alloc | apply pw_below_drewN | apply below_drew1) | exact HB.out)))); have n2_ := Aside0.mk (below_step (by repeat (first | (with_reducible first | exact HB.out | apply below_alloc | apply pw_below_drewN | apply below_drew1) | exact HB.out)) hb); clear HO_9; clear HB; have HO_9 := n0_; have HO266 := n1_; have HB := n2_; clear n0_ n1_ n2_; (try clear hb); (try clear hb2); (try clear hk); (try clear hi); (try clear ho0)) | ((with_reducible refine gate_builtin (b := .append) (xs := #[.tmp 93, .tmp 94]) rfl ?_); (try (refine gate_guard (by rfl) ?_; dsimp only)); at_builtin; refine Kd.R_append_rows (Kd.int .u8) (w0 := w) w.heap.size rfl (.tmp 93) (.tmp 94) 24 5 (.int .u8 0) 1 rfl Try.underlying24 info5 rfl (by decide) (by omega) v265 t264 l3 _ _ _ (fun k_ => some k_ ≠ (.slice Ao50 t246.length co50 : Value).ownBlock) (fun _ => False) rfl rfl ?aO ?aR (fun _ _ h => h) (fun _ h => h.elim) ?aF ?aB ?aS ?aL ?_; (case aR => repeat (first | exact (Kd.C_below HR3.out HB.out) | (with_reducible refine Kd.C_alloc ?_ _) | (with_reducible refine Kd.C_drewN ?_ _) | (with_reducible refine Kd.C_drew ?_))); (case aB => exact (by repeat (first | (with_reducible first | exact HB.out | apply below_alloc | apply pw_below_drewN | apply below_drew1) | exact HB.out))); (case aF => exact (fun k_ hk => Kd.fresh' (Kd.R_lt (by (with_reducible repeat (first | apply Kd.R_alloc | apply Kd.R_drewN | apply Kd.R_drew)); exact HO_9.out)) k_ hk)); (case aO => exact (by (with_reducible repeat (first | apply Kd.R_alloc | apply Kd.R_drewN | apply Kd.R_drew)); exact Kd.R_mono HO266.out (fun _ hk => hk.2))); (case aS => exact (below_size (by repeat (first | (with_reducible first | exact HB.out | apply below_alloc | apply pw_below_drewN | apply below_drew1) | exact HB.out)))); (case aL => have := LMc43.out; omega); intro v268 w52 ho hb hg hat; rw [← Ny267.out] at ho; have n0_ := Aside0.mk (Kd.R_after (ok := (fun _ => True)) (by (with_reducible repeat (first | apply Kd.R_alloc | apply Kd.R_drewN | apply Kd.R_drew)); exact HO_9.out) hg hat); have n1_ := Aside0.mk (hb); have n2_ := Aside0.mk (ho); clear HO_9; clear HB; clear HO266; have HO_9 := n0_; have HB := n1_; have HO269 := n2_; clear n0_ n1_ n2_; clear ho hb hg hat; obtain ⟨Ao53, co53, eo53⟩ := Kd.R_slice HO269.out; subst eo53) | ((with_reducible refine gate_callee (f := 26) rfl ?_); refine goesL_ (some 98) rfl rfl Try.func26 (by kernel_rfl) rfl #[.slice Ao53 y267.length co53] rfl (by (try simp only [List.map_toArray, List.map_cons, List.map_nil]); first | done | rfl | (simp only [List.length_drop, List.length_take]; rfl)) ?_; (with_reducible refine (impl_ReadHeader.calls _ _ y267 t270 t271 t272 t273 _ ?side1 ?side2 A44.out).mono ?_); (case side1 => repeat (first | exact (Kd.R_reads' HO269.out).2.2 | (with_reducible refine Kd.C_alloc ?_ _) | (with_reducible refine Kd.C_drewN ?_ _) | (with_reducible refine Kd.C_drew ?_))); (case side2 => exact (Kd.R_reads' HO269.out).2.1); rintro e w54 ⟨v274, rfl, ho0, hb⟩; refine ⟨_, rfl, ?_⟩; have n0_ := Aside0.mk (Kd.R_elder' (by (with_reducible repeat (first | apply Kd.R_alloc | apply Kd.R_drewN | apply Kd.R_drew)); exact HO_9.out) (Kd.R_base ho0) hb); have n1_ := Aside0.mk (Kd.R_elder' (by (with_reducible repeat (first | apply Kd.R_alloc | apply Kd.R_drewN | apply Kd.R_drew)); exact HO269.out) (Kd.R_base ho0) hb); have n2_ := Aside0.mk (Kd.R_lower (Kd.R_new' (Kd.R_new' ho0 (Kd.R_lt (by (with_reducible repeat (first | apply Kd.R_alloc | apply Kd.R_drewN | apply Kd.R_drew)); exact HO_9.out))) (Kd.R_lt (by (with_reducible repeat (first | apply Kd.R_alloc | apply Kd.R_drewN | apply Kd.R_drew)); exact HO269.out))) (below_size (by repeat (first | (with_reducible first | exact HB.out | apply below_alloc | apply pw_below_drewN | apply below_drew1) | exact HB.out)))); have n3_ := Aside0.mk (below_step (by repeat (first | (with_reducible first | exact HB.out | apply below_alloc | apply pw_below_drewN | apply below_drew1) | exact HB.out)) hb); clear HO_9; clear HO269; clear HB; have HO_9 := n0_; have HO269 := n1_; have HO275 := n2_; have HB := n3_; clear n0_ n1_ n2_ n3_; (try clear hb); (try clear hb2); (try clear hk); (try clear hi); (try clear ho0)) | ((with_reducible refine gate_callee (f := 27) rfl ?_); refine goesL_ (some 105) rfl rfl Try.func27 (by kernel_rfl) rfl #[.slice Ao53 y267.length co53] rfl (by (try simp only [List.map_toArray, List.map_cons, List.map_nil]); first | done | rfl | (simp only [List.length_drop, List.length_take]; rfl)) ?_; (with_reducible refine (impl_ReadType.calls _ _ y267 t276 t277 t278 _ ?side1 ?side2 A45.out).mono ?_); (case side1 => repeat (first | exact (Kd.R_reads' HO269.out).2.2 | (with_reducible refine Kd.C_alloc ?_ _) | (with_reducible refine Kd.C_drewN ?_ _) | (with_reducible refine Kd.C_drew ?_))); (case side2 => exact (Kd.R_reads' HO269.out).2.1); rintro e w55 ⟨v279, rfl, ho0, hb⟩; refine ⟨_, rfl, ?_⟩; have n0_ := Aside0.mk (Kd.R_elder' (by (with_reducible repeat (first | apply Kd.R_alloc | apply Kd.R_drewN | apply Kd.R_drew)); exact HO_9.out) (Kd.R_base ho0) hb); have n1_ := Aside0.mk (Kd.R_elder' (by (with_reducible repeat (first | apply Kd.R_alloc | apply Kd.R_drewN | apply Kd.R_drew)); exact HO269.out) (Kd.R_base ho0) hb); have n2_ := Aside0.mk (Kd.R_elder' (by (with_reducible repeat (first | apply Kd.R_alloc | apply Kd.R_drewN | apply Kd.R_drew)); exact HO275.out) (Kd.R_base ho0) hb); have n3_ := Aside0.mk (Kd.R_lower (Kd.R_new' (Kd.R_new' (Kd.R_new' ho0 (Kd.R_lt (by (with_reducible repeat (first | apply Kd.R_alloc | apply Kd.R_drewN | apply Kd.R_drew)); exact HO_9.out))) (Kd.R_lt (by (with_reducible repeat (first | apply Kd.R_alloc | apply Kd.R_drewN | apply Kd.R_drew)); exact HO269.out))) (Kd.R_lt (by (with_reducible repeat (first | apply Kd.R_alloc | apply Kd.R_drewN | apply Kd.R_drew)); exact HO275.out))) (below_size (by repeat (first | (with_reducible first | exact HB.out | apply below_alloc | apply pw_below_drewN | apply below_drew1) | exact HB.out)))); have n4_ := Aside0.mk (below_step (by repeat (first | (with_reducible first | exact HB.out | apply below_alloc | apply pw_below_drewN | apply below_drew1) | exact HB.out)) hb); clear HO_9; clear HO269; clear HO275; clear HB; have HO_9 := n0_; have HO269 := n1_; have HO275 := n2_; have HO280 := n3_; have HB := n4_; clear n0_ n1_ n2_ n3_ n4_; (try clear hb); (try clear hb2); (try clear hk); (try clear hi); (try clear ho0); obtain ⟨Ao56, co56, eo56⟩ := Kd.R_slice HO280.out; subst eo56) | ((with_reducible refine gate_callee (f := 28) rfl ?_); refine goesL_ (some 111) rfl rfl Try.func28 (by kernel_rfl) rfl #[.slice Ao56 t277.length co56] rfl (by (try simp only [List.map_toArray, List.map_cons, List.map_nil]); first | done | rfl | (simp only [List.length_drop, List.length_take]; rfl)) ?_; (with_reducible refine (impl_ReadKey.calls _ _ t277 t281 t282 t283 _ ?side1 ?side2 A46.out).mono ?_); (case side1 => repeat (first | exact (Kd.R_reads' HO280.out).2.2 | (with_reducible refine Kd.C_alloc ?_ _) | (with_reducible refine Kd.C_drewN ?_ _) | (with_reducible refine Kd.C_drew ?_))); (case side2 => exact (Kd.R_reads' HO280.out).2.1); rintro e w57 ⟨v284, rfl, ho0, hb⟩; refine ⟨_, rfl, ?_⟩; have n0_ := Aside0.mk (Kd.R_elder' (by (with_reducible repeat (first | apply Kd.R_alloc | apply Kd.R_drewN | apply Kd.R_drew)); exact HO_9.out) (Kd.R_base ho0) hb); have n1_ := Aside0.mk (Kd.R_elder' (by (with_reducible repeat (first | apply Kd.R_alloc | apply Kd.R_drewN | apply Kd.R_drew)); exact HO269.out) (Kd.R_base ho0) hb); have n2_ := Aside0.mk (Kd.R_elder' (by (with_reducible repeat (first | apply Kd.R_alloc | apply Kd.R_drewN | apply Kd.R_drew)); exact HO275.out) (Kd.R_base ho0) hb); have n3_ := Aside0.mk (Kd.R_elder' (by (with_reducible repeat (first | apply Kd.R_alloc | apply Kd.R_drewN | apply Kd.R_drew)); exact HO280.out) (Kd.R_base ho0) hb); have n4_ := Aside0.mk (Kd.R_lower (Kd.R_new' (Kd.R_new' (Kd.R_new' (Kd.R_new' ho0 (Kd.R_lt (by (with_reducible repeat (first | apply Kd.R_alloc | apply Kd.R_drewN | apply Kd.R_drew)); exact HO_9.out))) (Kd.R_lt (by (with_reducible repeat (first | apply Kd.R_alloc | apply Kd.R_drewN | apply Kd.R_drew)); exact HO269.out))) (Kd.R_lt (by (with_reducible repeat (first | apply Kd.R_alloc | apply Kd.R_drewN | apply Kd.R_drew)); exact HO275.out))) (Kd.R_lt (by (with_reducible repeat (first | apply Kd.R_alloc | apply Kd.R_drewN | apply Kd.R_drew)); exact HO280.out))) (below_size (by repeat (first | (with_reducible first | exact HB.out | apply below_alloc | apply pw_below_drewN | apply below_drew1) | exact HB.out)))); have n5_ := Aside0.mk (below_step (by repeat (first | (with_reducible first | exact HB.out | apply below_alloc | apply pw_below_drewN | apply below_drew1) | exact HB.out)) hb); clear HO_9; clear HO269; clear HO275; clear HO280; clear HB; have HO_9 := n0_; have HO269 := n1_; have HO275 := n2_; have HO280 := n3_; have HO285 := n4_; have HB := n5_; clear n0_ n1_ n2_ n3_ n4_ n5_; (try clear hb); (try clear hb2); (try clear hk); (try clear hi); (try clear ho0)) | ((with_reducible refine gate_callee (f := 29) rfl ?_); refine goesL_ (some 117) rfl rfl Try.func29 (by kernel_rfl) rfl #[.slice Ao56 t277.length co56] rfl (by (try simp only [List.map_toArray, List.map_cons, List.map_nil]); first | done | rfl | (simp only [List.length_drop, List.length_take]; rfl)) ?_; (with_reducible refine (impl_ReadKeyBytes.calls _ _ t277 t286 t287 t288 _ ?side1 ?side2 A47.out).mono ?_); (case side1 => repeat (first | exact (Kd.R_reads' HO280.out).2.2 | (with_reducible refine Kd.C_alloc ?_ _) | (with_reducible refine Kd.C_drewN ?_ _) | (with_reducible refine Kd.C_drew ?_))); (case side2 => exact (Kd.R_reads' HO280.out).2.1); rintro e w58 ⟨v289, v291, rfl, ho0, ho1, hb⟩; refine ⟨_, rfl, ?_⟩; have n0_ := Aside0.mk (Kd.R_mono (Kd.R_told (Kd.R_told (Kd.R_old (by (with_reducible repeat (first | apply Kd.R_alloc | apply Kd.R_drewN | apply Kd.R_drew)); exact HO_9.out) hb) (Kd.R_base ho0)) (Kd.R_base ho1)) (fun _ h_ => h_.1)); have n1_ := Aside0.mk (Kd.R_mono (Kd.R_told (Kd.R_told (Kd.R_old (by (with_reducible repeat (first | apply Kd.R_alloc | apply Kd.R_drewN | apply Kd.R_drew)); exact HO269.out) hb) (Kd.R_base ho0)) (Kd.R_base ho1)) (fun _ h_ => h_.1)); have n2_ := Aside0.mk (Kd.R_mono (Kd.R_told (Kd.R_told (Kd.R_old (by (with_reducible repeat (first | apply Kd.R_alloc | apply Kd.R_drewN | apply Kd.R_drew)); exact HO275.out) hb) (Kd.R_base ho0)) (Kd.R_base ho1)) (fun _ h_ => h_.1)); have n3_ := Aside0.mk (Kd.R_mono (Kd.R_told (Kd.R_told (Kd.R_old (by (with_reducible repeat (first | apply Kd.R_alloc | apply Kd.R_drewN | apply Kd.R_drew)); exact HO280.out) hb) (Kd.R_base ho0)) (Kd.R_base ho1)) (fun _ h_ => h_.1)); have n4_ := Aside0.mk (Kd.R_mono (Kd.R_told (Kd.R_told (Kd.R_old (by (with_reducible repeat (first | apply Kd.R_alloc | apply Kd.R_drewN | apply Kd.R_drew)); exact HO285.out) hb) (Kd.R_base ho0)) (Kd.R_base ho1)) (fun _ h_ => h_.1)); have n5_ := Aside0.mk (Kd.R_lower (Kd.R_new' (Kd.R_new' (Kd.R_new' (Kd.R_new' (Kd.R_new' ho0 (Kd.R_lt (by (with_reducible repeat (first | apply Kd.R_alloc | apply Kd.R_drewN | apply Kd.R_drew)); exact HO_9.out))) (Kd.R_lt (by (with_reducible repeat (first | apply Kd.R_alloc | apply Kd.R_drewN | apply Kd.R_drew)); exact HO269.out))) (Kd.R_lt (by (with_reducible repeat (first | apply Kd.R_alloc | apply Kd.R_drewN | apply Kd.R_drew)); exact HO275.out))) (Kd.R_lt (by (with_reducible repeat (first | apply Kd.R_alloc | apply Kd.R_drewN | apply Kd.R_drew)); exact HO280.out))) (Kd.R_lt (by (with_reducible repeat (first | apply Kd.R_alloc | apply Kd.R_drewN | apply Kd.R_drew)); exact HO285.out))) (below_size (by repeat (first | (with_reducible first | exact HB.out | apply below_alloc | apply pw_below_drewN | apply below_drew1) | exact HB.out)))); have n6_ := Aside0.mk (Kd.R_lower (Kd.R_new' (Kd.R_new' (Kd.R_new' (Kd.R_new' (Kd.R_new' ho1 (Kd.R_lt (by (with_reducible repeat (first | apply Kd.R_alloc | apply Kd.R_drewN | apply Kd.R_drew)); exact HO_9.out))) (Kd.R_lt (by (with_reducible repeat (first | apply Kd.R_alloc | apply Kd.R_drewN | apply Kd.R_drew)); exact HO269.out))) (Kd.R_lt (by (with_reducible repeat (first | apply Kd.R_alloc | apply Kd.R_drewN | apply Kd.R_drew)); exact HO275.out))) (Kd.R_lt (by (with_reducible repeat (first | apply Kd.R_alloc | apply Kd.R_drewN | apply Kd.R_drew)); exact HO280.out))) (Kd.R_lt (by (with_reducible repeat (first | apply Kd.R_alloc | apply Kd.R_drewN | apply Kd.R_drew)); exact HO285.out))) (below_size (by repeat (first | (with_reducible first | exact HB.out | apply below_alloc | apply pw_below_drewN | apply below_drew1) | exact HB.out)))); have n7_ := Aside0.mk (below_step (by repeat (first | (with_reducible first | exact HB.out | apply below_alloc | apply pw_below_drewN | apply below_drew1) | exact HB.out)) hb); clear HO_9; clear HO269; clear HO275; clear HO280; clear HO285; clear HB; have HO_9 := n0_; have HO269 := n1_; have HO275 := n2_; have HO280 := n3_; have HO285 := n4_; have HO290 := n5_; have HO292 := n6_; have HB := n7_; clear n0_ n1_ n2_ n3_ n4_ n5_ n6_ n7_; (try clear hb); (try clear hb2); (try clear hk); (try clear hi); (try clear ho0); (try clear ho1)) | ((with_reducible refine gate_callee (f := 30) rfl ?_); refine goesL_ (some 123) rfl rfl Try.func30 (by kernel_rfl) rfl #[.slice Ao56 t277.length co56] rfl (by (try simp only [List.map_toArray, List.map_cons, List.map_nil]); first | done | rfl | (simp only [List.length_drop, List.length_take]; rfl)) ?_; (with_reducible refine (impl_ReadCString.calls _ _ t277 t293 t294 t295 _ ?side1 ?side2 A48.out).mono ?_); (case side1 => repeat (first | exact (Kd.R_reads' HO280.out).2.2 | (with_reducible refine Kd.C_alloc ?_ _) | (with_reducible refine Kd.C_drewN ?_ _) | (with_reducible refine Kd.C_drew ?_))); (case side2 => exact (Kd.R_reads' HO280.out).2.1); rintro e w59 ⟨v296, rfl, ho0, hb⟩; refine ⟨_, rfl, ?_⟩; have n0_ := Aside0.mk (Kd.R_elder' (by (with_reducible repeat (first | apply Kd.R_alloc | apply Kd.R_drewN | apply Kd.R_drew)); exact HO_9.out) (Kd.R_base ho0) hb); have n1_ := Aside0.mk (Kd.R_elder' (by (with_reducible repeat (first | apply Kd.R_alloc | apply Kd.R_drewN | apply Kd.R_drew)); exact HO269.out) (Kd.R_base ho0) hb); have n2_ := Aside0.mk (Kd.R_elder' (by (with_reducible repeat (first | apply Kd.R_alloc | apply Kd.R_drewN | apply Kd.R_drew)); exact HO275.out) (Kd.R_base ho0) hb); have n3_ := Aside0.mk (Kd.R_elder' (by (with_reducible repeat (first | apply Kd.R_alloc | apply Kd.R_drewN | apply Kd.R_drew)); exact HO280.out) (Kd.R_base ho0) hb); have n4_ := Aside0.mk (Kd.R_elder' (by (with_reducible repeat (first | apply Kd.R_alloc | apply Kd.R_drewN | apply Kd.R_drew)); exact HO285.out) (Kd.R_base ho0) hb); have n5_ := Aside0.mk (Kd.R_elder' (by (with_reducible repeat (first | apply Kd.R_alloc | apply Kd.R_drewN | apply Kd.R_drew)); exact HO290.out) (Kd.R_base ho0) hb); have n6_ := Aside0.mk (Kd.R_elder' (by (with_reducible repeat (first | apply Kd.R_alloc | apply Kd.R_drewN | apply Kd.R_drew)); exact HO292.out) (Kd.R_base ho0) hb); have n7_ := Aside0.mk (Kd.R_lower (Kd.R_new' (Kd.R_new' (Kd.R_new' (Kd.R_new' (Kd.R_new' (Kd.R_new' (Kd.R_new' ho0 (Kd.R_lt (by (with_reducible repeat (first | apply Kd.R_alloc | apply Kd.R_drewN | apply Kd.R_drew)); exact HO_9.out))) (Kd.R_lt (by (with_reducible repeat (first | apply Kd.R_alloc | apply Kd.R_drewN | apply Kd.R_drew)); exact HO269.out))) (Kd.R_lt (by (with_reducible repeat (first | apply Kd.R_alloc | apply Kd.R_drewN | apply Kd.R_drew)); exact HO275.out))) (Kd.R_lt (by (with_reducible repeat (first | apply Kd.R_alloc | apply Kd.R_drewN | apply Kd.R_drew)); exact HO280.out))) (Kd.R_lt (by (with_reducible repeat (first | apply Kd.R_alloc | apply Kd.R_drewN | apply Kd.R_drew)); exact HO285.out))) (Kd.R_lt (by (with_reducible repeat (first | apply Kd.R_alloc | apply Kd.R_drewN | apply Kd.R_drew)); exact HO290.out))) (Kd.R_lt (by (with_reducible repeat (first | apply Kd.R_alloc | apply Kd.R_drewN | apply Kd.R_drew)); exact HO292.out))) (below_size (by repeat (first | (with_reducible first | exact HB.out | apply below_alloc | apply pw_below_drewN | apply below_drew1) | exact HB.out)))); have n8_ := Aside0.mk (below_step (by repeat (first | (with_reducible first | exact HB.out | apply below_alloc | apply pw_below_drewN | apply below_drew1) | exact HB.out)) hb); clear HO_9; clear HO269; clear HO275; clear HO280; clear HO285; clear HO290; clear HO292; clear HB; have HO_9 := n0_; have HO269 := n1_; have HO275 := n2_; have HO280 := n3_; have HO285 := n4_; have HO290 := n5_; have HO292 := n6_; have HO297 := n7_; have HB := n8_; clear n0_ n1_ n2_ n3_ n4_ n5_ n6_ n7_ n8_; (try clear hb); (try clear hb2); (try clear hk); (try clear hi); (try clear ho0)))
                      (try simp only [Act.put, List.setIfInBounds_toArray, List.set_cons_zero, List.set_cons_succ])
                      go_cut [144] (fun v144 wc => ∃ (kq : Nat) (x144_48 : Bool), v144 = .bool x144_48 ∧ Aside0 (laws_FnDocHeader.j3 kq a1 a2 l3 t270 t271 t272 t276 t281 t282 t286 t287 t293 t294 x144_48 = some r) ∧ Aside0 (kq ≤ kj20) ∧ Aside0 (Kd.R (Kd.int .u8) 5 wc w.heap.size (fun k_ => some k_ ≠ (v284 : Value).ownBlock ∧ some k_ ≠ (v289 : Value).ownBlock ∧ some k_ ≠ (v291 : Value).ownBlock ∧ some k_ ≠ (v296 : Value).ownBlock) v274 t272) ∧ Aside0 (Kd.R (Kd.int .u8) 5 wc w.heap.size (fun k_ => some k_ ≠ (v274 : Value).ownBlock ∧ some k_ ≠ (v289 : Value).ownBlock ∧ some k_ ≠ (v291 : Value).ownBlock ∧ some k_ ≠ (v296 : Value).ownBlock) v284 t282) ∧ Aside0 (Kd.R (Kd.int .u8) 5 wc w.heap.size (fun k_ => some k_ ≠ (v274 : Value).ownBlock ∧ some k_ ≠ (v284 : Value).ownBlock ∧ some k_ ≠ (v291 : Value).ownBlock ∧ some k_ ≠ (v296 : Value).ownBlock) v289 t286) ∧ Aside0 (Kd.R (Kd.int .u8) 5 wc w.heap.size (fun k_ => some k_ ≠ (v274 : Value).ownBlock ∧ some k_ ≠ (v284 : Value).ownBlock ∧ some k_ ≠ (v289 : Value).ownBlock ∧ some k_ ≠ (v296 : Value).ownBlock) v291 t287) ∧ Aside0 (Kd.R (Kd.int .u8) 5 wc w.heap.size (fun k_ => some k_ ≠ (v274 : Value).ownBlock ∧ some k_ ≠ (v284 : Value).ownBlock ∧ some k_ ≠ (v289 : Value).ownBlock ∧ some k_ ≠ (v291 : Value).ownBlock) v296 t294) ∧ Aside0 (Below w.heap.size w wc))
                      case first =>
                        have H := HC49.out
                        clear HC49
                        by_cases c60 : t273 = true
                        · subst c60
                          have H1 : (if t278 = true then (if t283 = true then (if t288 = true then (laws_FnDocHeader.j3 kj20 a1 a2 l3 t270 t271 t272 t276 t281 t282 t286 t287 t293 t294 (!t295)) else (laws_FnDocHeader.j3 kj20 a1 a2 l3 t270 t271 t272 t276 t281 t282 t286 t287 t293 t294 true)) else (laws_FnDocHeader.j3 kj20 a1 a2 l3 t270 t271 t272 t276 t281 t282 t286 t287 t293 t294 true)) else (laws_FnDocHeader.j3 kj20 a1 a2 l3 t270 t271 t272 t276 t281 t282 t286 t287 t293 t294 true)) = some r := by rw [if_pos rfl] at H; exact H
                          clear H
                          have H := H1
                          clear H1
                          by_cases c61 : t278 = true
                          · subst c61
                            have H1 : (if t283 = true then (if t288 = true then (laws_FnDocHeader.j3 kj20 a1 a2 l3 t270 t271 t272 t276 t281 t282 t286 t287 t293 t294 (!t295)) else (laws_FnDocHeader.j3 kj20 a1 a2 l3 t270 t271 t272 t276 t281 t282 t286 t287 t293 t294 true)) else (laws_FnDocHeader.j3 kj20 a1 a2 l3 t270 t271 t272 t276 t281 t282 t286 t287 t293 t294 true)) = some r := by rw [if_pos rfl] at H; exact H
                            clear H
                            have H := H1
                            clear H1
                            by_cases c62 : t283 = true
                            · subst c62
                              have H1 : (if t288 = true then (laws_FnDocHeader.j3 kj20 a1 a2 l3 t270 t271 t272 t276 t281 t282 t286 t287 t293 t294 (!t295)) else (laws_FnDocHeader.j3 kj20 a1 a2 l3 t270 t271 t272 t276 t281 t282 t286 t287 t293 t294 true)) = some r := by rw [if_pos rfl] at H; exact H
                              clear H
                              have H := H1
                              clear H1
                              by_cases c63 : t288 = true
                              · subst c63
                                have H1 : (laws_FnDocHeader.j3 kj20 a1 a2 l3 t270 t271 t272 t276 t281 t282 t286 t287 t293 t294 (!t295)) = some r := by rw [if_pos rfl] at H; exact H
                                clear H
                                have H := H1
                                clear H1
                                as_aux_lemma =>
                                  have H' := Aside0.mk H
                                  clear H
                                  go_wp2
                                  go_meet
                                  case rel => exact ⟨_, (!t295), (by first | rfl | (simp; done) | (simp [*]; done)), H', ⟨by have := HJ4.out; have := HJ8.out; have := HJ20.out; first | omega | exact Nat.le_refl _⟩, ⟨by (with_reducible repeat (first | apply Kd.R_alloc | apply Kd.R_drewN | apply Kd.R_drew)); exact Kd.R_mono HO275.out (fun _ hk => ⟨hk.1.1.1.2, ⟨hk.1.1.2, ⟨hk.1.2, hk.2⟩⟩⟩)⟩, ⟨by (with_reducible repeat (first | apply Kd.R_alloc | apply Kd.R_drewN | apply Kd.R_drew)); exact Kd.R_mono HO285.out (fun _ hk => ⟨hk.1.1.1.1.2, ⟨hk.1.1.2, ⟨hk.1.2, hk.2⟩⟩⟩)⟩, ⟨by (with_reducible repeat (first | apply Kd.R_alloc | apply Kd.R_drewN | apply Kd.R_drew)); exact Kd.R_mono HO290.out (fun _ hk => ⟨hk.1.1.1.2, ⟨hk.1.2, ⟨hk.1.1.1.1.1.1, hk.2⟩⟩⟩)⟩, ⟨by (with_reducible repeat (first | apply Kd.R_alloc | apply Kd.R_drewN | apply Kd.R_drew)); exact Kd.R_mono HO292.out (fun _ hk => ⟨hk.1.1.1.2, ⟨hk.1.2, ⟨hk.1.1.1.1.1.1, hk.2⟩⟩⟩)⟩, ⟨by (with_reducible repeat (first | apply Kd.R_alloc | apply Kd.R_drewN | apply Kd.R_drew)); exact Kd.R_mono HO297.out (fun _ hk => ⟨hk.1.1.1.1.2, ⟨hk.1.1.2, ⟨hk.1.2, hk.2⟩⟩⟩)⟩, ⟨by repeat (first | (with_reducible first | exact HB.out | apply below_alloc | apply pw_below_drewN | apply below_drew1) | exact HB.out)⟩⟩
                              · replace c63 := Bool.eq_false_iff.mpr c63
                                subst c63
                                have H1 : (laws_FnDocHeader.j3 kj20 a1 a2 l3 t270 t271 t272 t276 t281 t282 t286 t287 t293 t294 true) = some r := by rw [if_neg (show ¬ (false = true) by decide)] at H; exact H
                                clear H
                                have H := H1
                                clear H1
                                as_aux_lemma =>
                                  have H' := Aside0.mk H
                                  clear H
                                  go_wp2
                                  go_meet
                                  case rel => exact ⟨_, (true), (by first | rfl | (simp; done) | (simp [*]; done)), H', ⟨by have := HJ4.out; have := HJ8.out; have := HJ20.out; first | omega | exact Nat.le_refl _⟩, ⟨by (with_reducible repeat (first | apply Kd.R_alloc | apply Kd.R_drewN | apply Kd.R_drew)); exact Kd.R_mono HO275.out (fun _ hk => ⟨hk.1.1.1.2, ⟨hk.1.1.2, ⟨hk.1.2, hk.2⟩⟩⟩)⟩, ⟨by (with_reducible repeat (first | apply Kd.R_alloc | apply Kd.R_drewN | apply Kd.R_drew)); exact Kd.R_mono HO285.out (fun _ hk => ⟨hk.1.1.1.1.2, ⟨hk.1.1.2, ⟨hk.1.2, hk.2⟩⟩⟩)⟩, ⟨by (with_reducible repeat (first | apply Kd.R_alloc | apply Kd.R_drewN | apply Kd.R_drew)); exact Kd.R_mono HO290.out (fun _ hk => ⟨hk.1.1.1.2, ⟨hk.1.2, ⟨hk.1.1.1.1.1.1, hk.2⟩⟩⟩)⟩, ⟨by (with_reducible repeat (first | apply Kd.R_alloc | apply Kd.R_drewN | apply Kd.R_drew)); exact Kd.R_mono HO292.out (fun _ hk => ⟨hk.1.1.1.2, ⟨hk.1.2, ⟨hk.1.1.1.1.1.1, hk.2⟩⟩⟩)⟩, ⟨by (with_reducible repeat (first | apply Kd.R_alloc | apply Kd.R_drewN | apply Kd.R_drew)); exact Kd.R_mono HO297.out (fun _ hk => ⟨hk.1.1.1.1.2, ⟨hk.1.1.2, ⟨hk.1.2, hk.2⟩⟩⟩)⟩, ⟨by repeat (first | (with_reducible first | exact HB.out | apply below_alloc | apply pw_below_drewN | apply below_drew1) | exact HB.out)⟩⟩
                            · replace c62 := Bool.eq_false_iff.mpr c62
                              subst c62
                              have H1 : (laws_FnDocHeader.j3 kj20 a1 a2 l3 t270 t271 t272 t276 t281 t282 t286 t287 t293 t294 true) = some r := by rw [if_neg (show ¬ (false = true) by decide)] at H; exact H
                              clear H
                              have H := H1
                              clear H1
                              as_aux_lemma =>
                                have H' := Aside0.mk H
                                clear H
                                go_wp2
                                go_meet
                                case rel => exact ⟨_, (true), (by first | rfl | (simp; done) | (simp [*]; done)), H', ⟨by have := HJ4.out; have := HJ8.out; have := HJ20.out; first | omega | exact Nat.le_refl _⟩, ⟨by (with_reducible repeat (first | apply Kd.R_alloc | apply Kd.R_drewN | apply Kd.R_drew)); exact Kd.R_mono HO275.out (fun _ hk => ⟨hk.1.1.1.2, ⟨hk.1.1.2, ⟨hk.1.2, hk.2⟩⟩⟩)⟩, ⟨by (with_reducible repeat (first | apply Kd.R_alloc | apply Kd.R_drewN | apply Kd.R_drew)); exact Kd.R_mono HO285.out (fun _ hk => ⟨hk.1.1.1.1.2, ⟨hk.1.1.2, ⟨hk.1.2, hk.2⟩⟩⟩)⟩, ⟨by (with_reducible repeat (first | apply Kd.R_alloc | apply Kd.R_drewN | apply Kd.R_drew)); exact Kd.R_mono HO290.out (fun _ hk => ⟨hk.1.1.1.2, ⟨hk.1.2, ⟨hk.1.1.1.1.1.1, hk.2⟩⟩⟩)⟩, ⟨by (with_reducible repeat (first | apply Kd.R_alloc | apply Kd.R_drewN | apply Kd.R_drew)); exact Kd.R_mono HO292.out (fun _ hk => ⟨hk.1.1.1.2, ⟨hk.1.2, ⟨hk.1.1.1.1.1.1, hk.2⟩⟩⟩)⟩, ⟨by (with_reducible repeat (first | apply Kd.R_alloc | apply Kd.R_drewN | apply Kd.R_drew)); exact Kd.R_mono HO297.out (fun _ hk => ⟨hk.1.1.1.1.2, ⟨hk.1.1.2, ⟨hk.1.2, hk.2⟩⟩⟩)⟩, ⟨by repeat (first | (with_reducible first | exact HB.out | apply below_alloc | apply pw_below_drewN | apply below_drew1) | exact HB.out)⟩⟩
                          · replace c61 := Bool.eq_false_iff.mpr c61
                            subst c61
                            have H1 : (laws_FnDocHeader.j3 kj20 a1 a2 l3 t270 t271 t272 t276 t281 t282 t286 t287 t293 t294 true) = some r := by rw [if_neg (show ¬ (false = true) by decide)] at H; exact H
                            clear H
                            have H := H1
                            clear H1
                            as_aux_lemma =>
                              have H' := Aside0.mk H
                              clear H
                              go_wp2
                              go_meet
                              case rel => exact ⟨_, (true), (by first | rfl | (simp; done) | (simp [*]; done)), H', ⟨by have := HJ4.out; have := HJ8.out; have := HJ20.out; first | omega | exact Nat.le_refl _⟩, ⟨by (with_reducible repeat (first | apply Kd.R_alloc | apply Kd.R_drewN | apply Kd.R_drew)); exact Kd.R_mono HO275.out (fun _ hk => ⟨hk.1.1.1.2, ⟨hk.1.1.2, ⟨hk.1.2, hk.2⟩⟩⟩)⟩, ⟨by (with_reducible repeat (first | apply Kd.R_alloc | apply Kd.R_drewN | apply Kd.R_drew)); exact Kd.R_mono HO285.out (fun _ hk => ⟨hk.1.1.1.1.2, ⟨hk.1.1.2, ⟨hk.1.2, hk.2⟩⟩⟩)⟩, ⟨by (with_reducible repeat (first | apply Kd.R_alloc | apply Kd.R_drewN | apply Kd.R_drew)); exact Kd.R_mono HO290.out (fun _ hk => ⟨hk.1.1.1.2, ⟨hk.1.2, ⟨hk.1.1.1.1.1.1, hk.2⟩⟩⟩)⟩, ⟨by (with_reducible repeat (first | apply Kd.R_alloc | apply Kd.R_drewN | apply Kd.R_drew)); exact Kd.R_mono HO292.out (fun _ hk => ⟨hk.1.1.1.2, ⟨hk.1.2, ⟨hk.1.1.1.1.1.1, hk.2⟩⟩⟩)⟩, ⟨by (with_reducible repeat (first | apply Kd.R_alloc | apply Kd.R_drewN | apply Kd.R_drew)); exact Kd.R_mono HO297.out (fun _ hk => ⟨hk.1.1.1.1.2, ⟨hk.1.1.2, ⟨hk.1.2, hk.2⟩⟩⟩)⟩, ⟨by repeat (first | (with_reducible first | exact HB.out | apply below_alloc | apply pw_below_drewN | apply below_drew1) | exact HB.out)⟩⟩
                        · replace c60 := Bool.eq_false_iff.mpr c60
                          subst c60
                          have H1 : (laws_FnDocHeader.j3 kj20 a1 a2 l3 t270 t271 t272 t276 t281 t282 t286 t287 t293 t294 true) = some r := by rw [if_neg (show ¬ (false = true) by decide)] at H; exact H
                          clear H
                          have H := H1
                          clear H1
                          as_aux_lemma =>
                            have H' := Aside0.mk H
                            clear H
                            go_wp2
                            go_meet
                            case rel => exact ⟨_, (true), (by first | rfl | (simp; done) | (simp [*]; done)), H', ⟨by have := HJ4.out; have := HJ8.out; have := HJ20.out; first | omega | exact Nat.le_refl _⟩, ⟨by (with_reducible repeat (first | apply Kd.R_alloc | apply Kd.R_drewN | apply Kd.R_drew)); exact Kd.R_mono HO275.out (fun _ hk => ⟨hk.1.1.1.2, ⟨hk.1.1.2, ⟨hk.1.2, hk.2⟩⟩⟩)⟩, ⟨by (with_reducible repeat (first | apply Kd.R_alloc | apply Kd.R_drewN | apply Kd.R_drew)); exact Kd.R_mono HO285.out (fun _ hk => ⟨hk.1.1.1.1.2, ⟨hk.1.1.2, ⟨hk.1.2, hk.2⟩⟩⟩)⟩, ⟨by (with_reducible repeat (first | apply Kd.R_alloc | apply Kd.R_drewN | apply Kd.R_drew)); exact Kd.R_mono HO290.out (fun _ hk => ⟨hk.1.1.1.2, ⟨hk.1.2, ⟨hk.1.1.1.1.1.1, hk.2⟩⟩⟩)⟩, ⟨by (with_reducible repeat (first | apply Kd.R_alloc | apply Kd.R_drewN | apply Kd.R_drew)); exact Kd.R_mono HO292.out (fun _ hk => ⟨hk.1.1.1.2, ⟨hk.1.2, ⟨hk.1.1.1.1.1.1, hk.2⟩⟩⟩)⟩, ⟨by (with_reducible repeat (first | apply Kd.R_alloc | apply Kd.R_drewN | apply Kd.R_drew)); exact Kd.R_mono HO297.out (fun _ hk => ⟨hk.1.1.1.1.2, ⟨hk.1.1.2, ⟨hk.1.2, hk.2⟩⟩⟩)⟩, ⟨by repeat (first | (with_reducible first | exact HB.out | apply below_alloc | apply pw_below_drewN | apply below_drew1) | exact HB.out)⟩⟩
                      case rest =>
                        clear HC49
                        try clear c1
                        try clear c2
                        try clear p2
                        try clear c3
                        try clear hcv3
                        try clear c4
                        try clear hcv4
                        try clear c6
                        try clear c6b0
                        try clear c6b1
                        try clear p6
                        try clear c7
                        try clear c7b0
                        try clear c7b1
                        try clear c8
                        try clear c10
                        try clear c10b0
                        try clear c10b1
                        try clear c11
                        try clear c11b0
                        try clear c11b1
                        try clear c12
                        try clear c12b0
                        try clear c12b1
                        try clear c14
                        try clear c22
                        try clear c23
                        try clear c24
                        try clear c25
                        try clear c26
                        try clear c27
                        try clear c28
                        try clear c29
                        try clear c30
                        try clear c31
                        try clear c31b0
                        try clear c31b1
                        try clear c31b2
                        try clear c32
                        try clear c32b0
                        try clear c32b1
                        try clear hcv33
                        try clear hcv34
                        try clear hcv35
                        try clear hcv36
                        try clear hcv37
                        try clear hcv38
                        try clear hcv39
                        try clear hcv40
                        try clear c41
                        try clear c43
                        try clear c60
                        try clear c61
                        try clear c62
                        try clear c63
                        try clear p2
                        try clear p6
                        obtain ⟨kq, x144_48, rfl, HA, HJ48, HO_15, HO_21, HO_23, HO_24, HO_27, HB⟩ := hcut
                        cases kq with
                        | zero => exact absurd HA.out (by simp [laws_FnDocHeader.j3])
                        | succ kj48 =>
                          have H := HA.out
                          clear HA
                          simp only [laws_FnDocHeader.j3] at H
                          by_cases c64 : x144_48 = true
                          · subst c64
                            have H1 : (some false) = some r := by rw [if_pos rfl] at H; exact H
                            clear H
                            have H := H1
                            clear H1
                            as_aux_lemma =>
                              obtain rfl := Option.some.inj H
                              go_wp2
                              go_ret
                              exact ⟨by first | rfl | (simp [errW_none, errW_some] <;> rfl) | (simp [*, errW_none, errW_some] <;> rfl), by repeat (first | (with_reducible first | exact HB.out | apply below_alloc | apply pw_below_drewN | apply below_drew1) | exact HB.out)⟩
                          · replace c64 := Bool.eq_false_iff.mpr c64
                            subst c64
                            have H1 : (if t270 = (wrap64 (a1)) then (if t276 = t270 then (if t271.toList = a2.toList then (if t281.toList = a2.toList then (if (strOfNums t286).toList = a2.toList then (if t293.toList = a2.toList then (if (strOfNums t272).toList = (strOfNums l3).toList then (if (strOfNums t282).toList = (strOfNums l3).toList then (if (strOfNums t287).toList = (strOfNums l3).toList then (some ((strOfNums t294).toList == (strOfNums l3).toList)) else (some false)) else (some false)) else (some false)) else (some false)) else (some false)) else (some false)) else (some false)) else (some false)) else (some false)) = some r := by rw [if_neg (show ¬ (false = true) by decide)] at H; exact H
                            clear H
                            have H := H1
                            clear H1
                            by_cases c65 : t270 = (wrap64 (a1))
                            · rw [if_pos c65] at H
                              have c65b0 : (t270 == (wrap64 (a1))) = true := beq_iff_eq.mpr c65
                              have c65b1 : (t270 != (wrap64 (a1))) = false := bne_eq_false_iff_eq.mpr c65
                              clear c65
                              by_cases c66 : t276 = t270
                              · rw [if_pos c66] at H
                                have c66b0 : (t276 == t270) = true := beq_iff_eq.mpr c66
                                have c66b1 : (t276 != t270) = false := bne_eq_false_iff_eq.mpr c66
                                clear c66
                                by_cases c67 : t271.toList = a2.toList
                                · rw [if_pos c67] at H
                                  have c67b0 : (t271.toList == a2.toList) = true := beq_iff_eq.mpr c67
                                  have c67b1 : (t271.toList != a2.toList) = false := bne_eq_false_iff_eq.mpr c67
                                  clear c67
                                  by_cases c68 : t281.toList = a2.toList
                                  · rw [if_pos c68] at H
                                    have c68b0 : (t281.toList == a2.toList) = true := beq_iff_eq.mpr c68
                                    have c68b1 : (t281.toList != a2.toList) = false := bne_eq_false_iff_eq.mpr c68
                                    clear c68
                                    by_cases c69 : (strOfNums t286).toList = a2.toList
                                    · rw [if_pos c69] at H
                                      have c69b0 : ((strOfNums t286).toList == a2.toList) = true := beq_iff_eq.mpr c69
                                      have c69b1 : ((strOfNums t286).toList != a2.toList) = false := bne_eq_false_iff_eq.mpr c69
                                      clear c69
                                      by_cases c70 : t293.toList = a2.toList
                                      · rw [if_pos c70] at H
                                        have c70b0 : (t293.toList == a2.toList) = true := beq_iff_eq.mpr c70
                                        have c70b1 : (t293.toList != a2.toList) = false := bne_eq_false_iff_eq.mpr c70
                                        clear c70
                                        by_cases c71 : (strOfNums t272).toList = (strOfNums l3).toList
                                        · rw [if_pos c71] at H
                                          have c71b0 : ((strOfNums t272).toList == (strOfNums l3).toList) = true := beq_iff_eq.mpr c71
                                          have c71b1 : ((strOfNums t272).toList != (strOfNums l3).toList) = false := bne_eq_false_iff_eq.mpr c71
                                          clear c71
                                          by_cases c72 : (strOfNums t282).toList = (strOfNums l3).toList
                                          · rw [if_pos c72] at H
                                            have c72b0 : ((strOfNums t282).toList == (strOfNums l3).toList) = true := beq_iff_eq.mpr c72
                                            have c72b1 : ((strOfNums t282).toList != (strOfNums l3).toList) = false := bne_eq_false_iff_eq.mpr c72
                                            clear c72
                                            by_cases c73 : (strOfNums t287).toList = (strOfNums l3).toList
                                            · rw [if_pos c73] at H
                                              have c73b0 : ((strOfNums t287).toList == (strOfNums l3).toList) = true := beq_iff_eq.mpr c73
                                              have c73b1 : ((strOfNums t287).toList != (strOfNums l3).toList) = false := bne_eq_false_iff_eq.mpr c73
                                              clear c73
                                              as_aux_lemma =>
                                                obtain rfl := Option.some.inj H
                                                have hcv74 := own_string (P := Try.prog) Try.underlying24 Try.underlying5 Try.underlying9 (Kd.own_of_R HO_23.out)
                                                have hcv75 := own_string (P := Try.prog) Try.underlying24 Try.underlying5 Try.underlying9 (Kd.own_of_R HO_15.out)
                                                have hcv76 := Kd.C_string (P := Try.prog) (A := A3) (c := c3) Try.underlying24 Try.underlying5 Try.underlying9 (Kd.C_below HR3.out HB.out)
                                                have hcv77 := own_string (P := Try.prog) Try.underlying24 Try.underlying5 Try.underlying9 (Kd.own_of_R HO_21.out)
                                                have hcv78 := Kd.C_string (P := Try.prog) (A := A3) (c := c3) Try.underlying24 Try.underlying5 Try.underlying9 (Kd.C_below HR3.out HB.out)
                                                have hcv79 := own_string (P := Try.prog) Try.underlying24 Try.underlying5 Try.underlying9 (Kd.own_of_R HO_24.out)
                                                have hcv80 := Kd.C_string (P := Try.prog) (A := A3) (c := c3) Try.underlying24 Try.underlying5 Try.underlying9 (Kd.C_below HR3.out HB.out)
                                                have hcv81 := own_string (P := Try.prog) Try.underlying24 Try.underlying5 Try.underlying9 (Kd.own_of_R HO_27.out)
                                                have hcv82 := Kd.C_string (P := Try.prog) (A := A3) (c := c3) Try.underlying24 Try.underlying5 Try.underlying9 (Kd.C_below HR3.out HB.out)
                                                go_wp2
                                                go_ret
                                                exact ⟨by first | rfl | (simp [errW_none, errW_some] <;> rfl) | (simp [*, errW_none, errW_some] <;> rfl), by repeat (first | (with_reducible first | exact HB.out | apply below_alloc | apply pw_below_drewN | apply below_drew1) | exact HB.out)⟩
                                            · rw [if_neg c73] at H
                                              have c73b0 : ((strOfNums t287).toList == (strOfNums l3).toList) = false := beq_eq_false_iff_ne.mpr c73
                                              have c73b1 : ((strOfNums t287).toList != (strOfNums l3).toList) = true := bne_iff_ne.mpr c73
                                              as_aux_lemma =>
                                                obtain rfl := Option.some.inj H
                                                have hcv83 := own_string (P := Try.prog) Try.underlying24 Try.underlying5 Try.underlying9 (Kd.own_of_R HO_23.out)
                                                have hcv84 := own_string (P := Try.prog) Try.underlying24 Try.underlying5 Try.underlying9 (Kd.own_of_R HO_15.out)
                                                have hcv85 := Kd.C_string (P := Try.prog) (A := A3) (c := c3) Try.underlying24 Try.underlying5 Try.underlying9 (Kd.C_below HR3.out HB.out)
                                                have hcv86 := own_string (P := Try.prog) Try.underlying24 Try.underlying5 Try.underlying9 (Kd.own_of_R HO_21.out)
                                                have hcv87 := Kd.C_string (P := Try.prog) (A := A3) (c := c3) Try.underlying24 Try.underlying5 Try.underlying9 (Kd.C_below HR3.out HB.out)
                                                have hcv88 := own_string (P := Try.prog) Try.underlying24 Try.underlying5 Try.underlying9 (Kd.own_of_R HO_24.out)
                                                have hcv89 := Kd.C_string (P := Try.prog) (A := A3) (c := c3) Try.underlying24 Try.underlying5 Try.underlying9 (Kd.C_below HR3.out HB.out)
                                                go_wp2
                                                go_ret
                                                exact ⟨by first | rfl | (simp [errW_none, errW_some] <;> rfl) | (simp [*, errW_none, errW_some] <;> rfl), by repeat (first | (with_reducible first | exact HB.out | apply below_alloc | apply pw_below_drewN | apply below_drew1) | exact HB.out)⟩
                                          · rw [if_neg c72] at H
                                            have c72b0 : ((strOfNums t282).toList == (strOfNums l3).toList) = false := beq_eq_false_iff_ne.mpr c72
                                            have c72b1 : ((strOfNums t282).toList != (strOfNums l3).toList) = true := bne_iff_ne.mpr c72
                                            as_aux_lemma =>
                                              obtain rfl := Option.some.inj H
                                              have hcv90 := own_string (P := Try.prog) Try.underlying24 Try.underlying5 Try.underlying9 (Kd.own_of_R HO_23.out)
                                              have hcv91 := own_string (P := Try.prog) Try.underlying24 Try.underlying5 Try.underlying9 (Kd.own_of_R HO_15.out)
                                              have hcv92 := Kd.C_string (P := Try.prog) (A := A3) (c := c3) Try.underlying24 Try.underlying5 Try.underlying9 (Kd.C_below HR3.out HB.out)
                                              have hcv93 := own_string (P := Try.prog) Try.underlying24 Try.underlying5 Try.underlying9 (Kd.own_of_R HO_21.out)
                                              have hcv94 := Kd.C_string (P := Try.prog) (A := A3) (c := c3) Try.underlying24 Try.underlying5 Try.underlying9 (Kd.C_below HR3.out HB.out)
                                              go_wp2
                                              go_ret
                                              exact ⟨by first | rfl | (simp [errW_none, errW_some] <;> rfl) | (simp [*, errW_none, errW_some] <;> rfl), by repeat (first | (with_reducible first | exact HB.out | apply below_alloc | apply pw_below_drewN | apply below_drew1) | exact HB.out)⟩
                                        · rw [if_neg c71] at H
                                          have c71b0 : ((strOfNums t272).toList == (strOfNums l3).toList) = false := beq_eq_false_iff_ne.mpr c71
                                          have c71b1 : ((strOfNums t272).toList != (strOfNums l3).toList) = true := bne_iff_ne.mpr c71
                                          as_aux_lemma =>
                                            obtain rfl := Option.some.inj H
                                            have hcv95 := own_string (P := Try.prog) Try.underlying24 Try.underlying5 Try.underlying9 (Kd.own_of_R HO_23.out)
                                            have hcv96 := own_string (P := Try.prog) Try.underlying24 Try.underlying5 Try.underlying9 (Kd.own_of_R HO_15.out)
                                            have hcv97 := Kd.C_string (P := Try.prog) (A := A3) (c := c3) Try.underlying24 Try.underlying5 Try.underlying9 (Kd.C_below HR3.out HB.out)
                                            go_wp2
                                            go_ret
                                            exact ⟨by first | rfl | (simp [errW_none, errW_some] <;> rfl) | (simp [*, errW_none, errW_some] <;> rfl), by repeat (first | (with_reducible first | exact HB.out | apply below_alloc | apply pw_below_drewN | apply below_drew1) | exact HB.out)⟩
                                      · rw [if_neg c70] at H
                                        have c70b0 : (t293.toList == a2.toList) = false := beq_eq_false_iff_ne.mpr c70
                                        have c70b1 : (t293.toList != a2.toList) = true := bne_iff_ne.mpr c70
                                        as_aux_lemma =>
                                          obtain rfl := Option.some.inj H
                                          have hcv98 := own_string (P := Try.prog) Try.underlying24 Try.underlying5 Try.underlying9 (Kd.own_of_R HO_23.out)
                                          go_wp2
                                          go_ret
                                          exact ⟨by first | rfl | (simp [errW_none, errW_some] <;> rfl) | (simp [*, errW_none, errW_some] <;> rfl), by repeat (first | (with_reducible first | exact HB.out | apply below_alloc | apply pw_below_drewN | apply below_drew1) | exact HB.out)⟩
                                    · rw [if_neg c69] at H
                                      have c69b0 : ((strOfNums t286).toList == a2.toList) = false := beq_eq_false_iff_ne.mpr c69
                                      have c69b1 : ((strOfNums t286).toList != a2.toList) = true := bne_iff_ne.mpr c69
                                      as_aux_lemma =>
                                        obtain rfl := Option.some.inj H
                                        have hcv99 := own_string (P := Try.prog) Try.underlying24 Try.underlying5 Try.underlying9 (Kd.own_of_R HO_23.out)
                                        go_wp2
                                        go_ret
                                        exact ⟨by first | rfl | (simp [errW_none, errW_some] <;> rfl) | (simp [*, errW_none, errW_some] <;> rfl), by repeat (first | (with_reducible first | exact HB.out | apply below_alloc | apply pw_below_drewN | apply below_drew1) | exact HB.out)⟩
                                  · rw [if_neg c68] at H
                                    have c68b0 : (t281.toList == a2.toList) = false := beq_eq_false_iff_ne.mpr c68
                                    have c68b1 : (t281.toList != a2.toList) = true := bne_iff_ne.mpr c68
                                    as_aux_lemma =>
                                      obtain rfl := Option.some.inj H
                                      go_wp2
                                      go_ret
                                      exact ⟨by first | rfl | (simp [errW_none, errW_some] <;> rfl) | (simp [*, errW_none, errW_some] <;> rfl), by repeat (first | (with_reducible first | exact HB.out | apply below_alloc | apply pw_below_drewN | apply below_drew1) | exact HB.out)⟩
                                · rw [if_neg c67] at H
                                  have c67b0 : (t271.toList == a2.toList) = false := beq_eq_false_iff_ne.mpr c67
                                  have c67b1 : (t271.toList != a2.toList) = true := bne_iff_ne.mpr c67
                                  as_aux_lemma =>
                                    obtain rfl := Option.some.inj H
                                    go_wp2
                                    go_ret
                                    exact ⟨by first | rfl | (simp [errW_none, errW_some] <;> rfl) | (simp [*, errW_none, errW_some] <;> rfl), by repeat (first | (with_reducible first | exact HB.out | apply below_alloc | apply pw_below_drewN | apply below_drew1) | exact HB.out)⟩
                              · rw [if_neg c66] at H
                                have c66b0 : (t276 == t270) = false := beq_eq_false_iff_ne.mpr c66
                                have c66b1 : (t276 != t270) = true := bne_iff_ne.mpr c66
                                as_aux_lemma =>
                                  obtain rfl := Option.some.inj H
                                  go_wp2
                                  go_ret
                                  exact ⟨by first | rfl | (simp [errW_none, errW_some] <;> rfl) | (simp [*, errW_none, errW_some] <;> rfl), by repeat (first | (with_reducible first | exact HB.out | apply below_alloc | apply pw_below_drewN | apply below_drew1) | exact HB.out)⟩
                            · rw [if_neg c65] at H
                              have c65b0 : (t270 == (wrap64 (a1))) = false := beq_eq_false_iff_ne.mpr c65
                              have c65b1 : (t270 != (wrap64 (a1))) = true := bne_iff_ne.mpr c65
                              as_aux_lemma =>
                                obtain rfl := Option.some.inj H
                                go_wp2
                                go_ret
                                exact ⟨by first | rfl | (simp [errW_none, errW_some] <;> rfl) | (simp [*, errW_none, errW_some] <;> rfl), by repeat (first | (with_reducible first | exact HB.out | apply below_alloc | apply pw_below_drewN | apply below_drew1) | exact HB.out)⟩
                    · rw [if_neg c43] at H
                      exact absurd H (by simp)

/-- THE ONE PURE STATEMENT of laws_FnDocHeader: yours. -/
def laws_FnDocHeader.Pure : Prop := ∀ (l0 : List Int) (a1 : Int) (a2 : ByteArray) (l3 : List Int), l0.length ≤ maxLen → l0.length * 1 ≤ 140737488351232 → (∀ x ∈ l0, (Lit.int .u8 x).wf = true) → (Lit.int .u8 a1).wf = true → a2.size ≤ 140737488351232 → l3.length ≤ maxLen → l3.length * 1 ≤ 140737488351232 → (∀ x ∈ l3, (Lit.int .u8 x).wf = true) → ∃ k, laws_FnDocHeader.f k l0 a1 a2 l3 = some true
theorem laws_FnDocHeader.walk (P : laws_FnDocHeader.Pure) (a0 : Option Addr) (len0 cap0 : Nat) (z0 : List Int) (a1 : Int) (a2 : ByteArray) (a3 : Option Addr) (len3 cap3 : Nat) (z3 : List Int) (w : World) (w0 : (a0 = none ∧ len0 = 0 ∧ cap0 = 0 ∧ z0 = []) ∨ ∃ x, a0 = some x ∧ len0 ≤ cap0 ∧ cap0 ≤ maxLen ∧ z0.length = cap0 ∧ (∀ i, i < z0.length → w.cell? (x.add i) = some (.int .u8 (z0.getD i 0))) ∧ ∀ n ∈ z0, (Lit.int .u8 n).wf = true) (y0 : len0 * 1 ≤ 140737488351232) (w1 : (Lit.int .u8 a1).wf = true) (w2 : a2.size ≤ 140737488351232) (w3 : (a3 = none ∧ len3 = 0 ∧ cap3 = 0 ∧ z3 = []) ∨ ∃ x, a3 = some x ∧ len3 ≤ cap3 ∧ cap3 ≤ maxLen ∧ z3.length = cap3 ∧ (∀ i, i < z3.length → w.cell? (x.add i) = some (.int .u8 (z3.getD i 0))) ∧ ∀ n ∈ z3, (Lit.int .u8 n).wf = true) (y3 : len3 * 1 ≤ 140737488351232) :
    Calls Try.prog 7 #[.slice a0 len0 cap0, .int .u8 a1, .string a2, .slice a3 len3 cap3] w fun e w' => e = .returned (.bool true) ∧ Below w.heap.size w w' := by
  obtain ⟨l0, rfl, hr0, hm0, hw0, hc0⟩ := ReadsInt.ofRowC w0
  obtain ⟨l3, rfl, hr3, hm3, hw3, hc3⟩ := ReadsInt.ofRowC w3
  obtain ⟨k, h⟩ := P l0 a1 a2 l3 hm0 y0 hw0 w1 w2 hm3 y3 hw3
  refine (laws_FnDocHeader.calls k _ _ l0 a1 a2 _ _ l3 true w (Kd.C_of_reads (d := (0 : Int)) (h1 := fun _ => rfl) hr0) hc0 (Kd.C_of_reads (d := (0 : Int)) (h1 := fun _ => rfl) hr3) hc3 h).mono ?_
  rintro e w' ⟨rfl, hd⟩
  exact ⟨rfl, hd⟩

end Go.Proofs.Ythlpmeiihchdjaa.PDH
