/- Printed by a program of this session (a turned copy of the printer of the kit): contracts of functions of the translation, each with the Lean function that it computes. Conditions: as each theorem states them. -/
import Derived.Test.YtanecebppagakaaGreatDoorPAhx0
import Derived.Test.YtanecebppagakaaGreatDoorPAhx1
import Derived.Test.YtanecebppagakaaGreatDoorPAhx7
namespace Go.Proofs.YtanecebppagakaaGreatDoor.PAh
open Go.RowKit Go.Proofs.YtanecebppagakaaGreatDoorW.PrintWords Go.Proofs.YtanecebppagakaaGreatDoorW.PrintLast Go.Proofs.YtanecebppagakaaGreatDoorW.PrintMore
attribute [local go_sem] max2_int min2_int max_two min_two max_three min_three max_four min_four   -- for this text's walks alone
set_option linter.unusedVariables false
set_option linter.unusedSimpArgs false

/-! ### laws_FnDocAnyHeader: function 3 -/
def laws_FnDocAnyHeader.j0 : Nat → List Int → Int → ByteArray → List Int → Bool → Bool → Option (Bool)
  | 0, _, _, _, _, _, _ => none
  | k + 1, x0, x3, x4, x5, x6, x85 => if x85 = true then (none) else (if (x0.length : Int) = 0 then ((laws_docAwake.f k).bind fun t547 => (if t547 = true then (some (!x6)) else (none))) else (if 1 ≤ (x0.length : Int) then ((spec_DocName.f k (x0.drop 1)).bind fun bt549 => (if bt549.2.2 = true then ((laws_docAwake.f k).bind fun t553 => (if t553 = true then (if x6 = true then (if 0 < (x0.length : Int) then (if x3 = (wrap64 (rd x0 0)) then (if x4.toList = bt549.1.toList then (if 0 ≤ (wrap64 (1 + bt549.2.1)) then (if (wrap64 (1 + bt549.2.1)) ≤ (x0.length : Int) then (some ((strOfNums x5).toList == (strOfNums (x0.drop ((wrap64 (1 + bt549.2.1)) : Int).toNat)).toList)) else (none)) else (none)) else (none)) else (none)) else (none)) else (none)) else (none))) else ((laws_docAwake.f k).bind fun t552 => (if t552 = true then (if x6 = true then (none) else (some ((strOfNums x5).toList == (strOfNums x0).toList))) else (none))))) else (none)))
def laws_FnDocAnyHeader.f (k : Nat) (l0 : List Int) : Option (Bool) := if (l0.length : Int) > 2147483647 then (some true) else (if (l0.length : Int) > 5000 then (some true) else ((laws_docCopy.f l0).bind fun t517 => ((impl_ReadHeader.f t517).bind fun bt520 => ((laws_docCopy.f l0).bind fun t526 => ((impl_ReadKey.f t526).bind fun bt529 => ((laws_docCopy.f l0).bind fun t534 => ((impl_ReadCString.f t534).bind fun bt537 => ((spec_DocName.f k l0).bind fun bt542 => (if (bt529.2.2 != bt542.2.2) = true then (none) else (if (bt537.2.2 != bt542.2.2) = true then (none) else (if 0 ≤ bt542.2.1 then (if bt542.2.1 ≤ (l0.length : Int) then (if (strOfNums bt529.2.1).toList = (strOfNums (l0.drop (bt542.2.1 : Int).toNat)).toList then (if (strOfNums bt537.2.1).toList = (strOfNums (l0.drop (bt542.2.1 : Int).toNat)).toList then (if bt529.1.toList = bt542.1.toList then (laws_FnDocAnyHeader.j0 k l0 bt520.1 bt520.2.1 bt520.2.2.1 bt520.2.2.2 (bt537.1.toList != bt542.1.toList)) else (none)) else (none)) else (none)) else (none)) else (none))))))))))))
theorem laws_FnDocAnyHeader.mono_l : ∀ k, (∀ y0 y1 y2 y3 y4 y5, LeO (laws_FnDocAnyHeader.j0 k y0 y1 y2 y3 y4 y5) (laws_FnDocAnyHeader.j0 (k + 1) y0 y1 y2 y3 y4 y5))
  | 0 => fun _ _ _ _ _ _ r h => by simp [laws_FnDocAnyHeader.j0] at h
  | k + 1 => by
    have ih0 := laws_FnDocAnyHeader.mono_l k
    · intro y0 y1 y2 y3 y4 y5
      unfold laws_FnDocAnyHeader.j0
      repeat' first
      | (with_reducible exact ih0 _ _ _ _ _ _)
      | (with_reducible exact laws_docAwake.mono _)
      | (with_reducible exact spec_DocName.mono _ _)
      | (with_reducible exact LeO.refl _)
      | (with_reducible exact LeO.none _)
      | (with_reducible refine LeO.ite ?_ ?_)
      | (with_reducible refine LeO.bind ?_ (fun _ => ?_))
      | exact ih0 _ _ _ _ _ _
      | exact laws_docAwake.mono _
      | exact spec_DocName.mono _ _
      | exact LeO.none _
      | refine LeO.ite ?_ ?_
      | refine LeO.bind ?_ (fun _ => ?_)
theorem laws_FnDocAnyHeader.mono : ∀ a0 k, LeO (laws_FnDocAnyHeader.f k a0) (laws_FnDocAnyHeader.f (k + 1) a0) := by
  intro a0 k
  have ih0 := laws_FnDocAnyHeader.mono_l k
  unfold laws_FnDocAnyHeader.f
  repeat' first
      | (with_reducible exact ih0 _ _ _ _ _ _)
      | (with_reducible exact laws_docAwake.mono _)
      | (with_reducible exact spec_DocName.mono _ _)
      | (with_reducible exact LeO.refl _)
      | (with_reducible exact LeO.none _)
      | (with_reducible refine LeO.ite ?_ ?_)
      | (with_reducible refine LeO.bind ?_ (fun _ => ?_))
      | exact ih0 _ _ _ _ _ _
      | exact laws_docAwake.mono _
      | exact spec_DocName.mono _ _
      | exact LeO.none _
      | refine LeO.ite ?_ ?_
      | refine LeO.bind ?_ (fun _ => ?_)
def laws_FnDocAnyHeader.T9 : Bool × List (List Nat × List Nat) := (true, [([], []), ([], []), ([0, 1], [0, 1]), ([2], [2]), ([3], [3]), ([3], [3]), ([4, 5, 3], [3, 4, 5]), ([3, 6], [3, 6]), ([7, 3], [7]), ([8], [8]), ([9, 8], [8, 9]), ([8], [8]), ([8], [8]), ([11, 12, 8], [8, 11, 12]), ([13, 8], [8, 13]), ([10, 14, 8], [8, 10, 14]), ([8, 15], [8, 15]), ([16, 8], [16]), ([17], [17]), ([18, 17], [17, 18]), ([17], [17]), ([17], [17]), ([20, 21, 17], [17, 20, 21]), ([22, 17], [17, 22]), ([19, 23, 17], [17, 19, 23]), ([17, 24], [17, 24]), ([25, 17], [25]), ([26], [26]), ([26], [26]), ([27, 28, 26], [26, 27, 28]), ([26, 29], [26, 29]), ([30, 26], [30]), ([31], [31]), ([31], [31]), ([32, 33, 31], [31, 32, 33]), ([31, 34], [31, 34])])
def laws_FnDocAnyHeader.B9 : List Nat := [0, 0, 3, 7, 15, 15, 63, 127, 255, 511, 1023, 511, 511, 6655, 14847, 32767, 65535, 131071, 262143, 524287, 262143, 262143, 3407871, 7602175, 16777215, 33554431, 67108863, 134217727, 134217727, 536870911, 1073741823, 2147483647, 4294967295, 4294967295, 17179869183, 34359738367]
theorem laws_FnDocAnyHeader.tab9 : rtab .any (opsOf Tryz.f3 9) = laws_FnDocAnyHeader.T9 := by kernel_rfl
theorem laws_FnDocAnyHeader.bits9 : waitsOk laws_FnDocAnyHeader.T9.2 laws_FnDocAnyHeader.B9 = true := by kernel_rfl
def laws_FnDocAnyHeader.T16 : Bool × List (List Nat × List Nat) := (true, [([], []), ([0, 0], [0]), ([1], [1]), ([1, 2], [1, 2]), ([3, 1], [3]), ([4], [4]), ([4], [4]), ([6, 4], [4, 6]), ([7, 4], [4, 7]), ([8, 4], [4, 8]), ([5, 9, 4], [4, 5, 9]), ([4, 10], [4, 10]), ([11, 4], [11]), ([12], [12]), ([12], [12]), ([13, 14, 12], [12, 13, 14]), ([12, 15], [12, 15]), ([16, 12], [16]), ([17], [17]), ([18, 17], [17, 18]), ([17], [17]), ([17], [17]), ([21, 17], [17, 21]), ([20, 22, 17], [17, 20, 22]), ([23, 17], [17, 23]), ([19, 24, 17], [17, 19, 24]), ([17, 25], [17, 25]), ([26, 17, 0, 1, 2, 3, 4, 5, 6, 7, 8, 9, 10, 11, 12, 13, 14, 15, 16, 17, 18, 19, 20, 21, 22, 23, 24, 25, 26], [26])])
def laws_FnDocAnyHeader.B16 : List Nat := [0, 1, 3, 7, 15, 31, 31, 95, 223, 479, 1023, 2047, 4095, 8191, 8191, 32767, 65535, 131071, 262143, 524287, 262143, 262143, 2359295, 7602175, 15990783, 33554431, 67108863, 134217727]
theorem laws_FnDocAnyHeader.tab16 : rtab .any (opsOf Tryz.f3 16) = laws_FnDocAnyHeader.T16 := by kernel_rfl
theorem laws_FnDocAnyHeader.bits16 : waitsOk laws_FnDocAnyHeader.T16.2 laws_FnDocAnyHeader.B16 = true := by kernel_rfl
set_option maxHeartbeats 8000000 in
set_option maxRecDepth 100000 in
theorem laws_FnDocAnyHeader.calls (k : Nat) (A0 : Option Addr) (c0 : Nat) (l0 : List Int) (r : Bool) (w : World) (hr0 : Kd.C (Kd.int .u8) w A0 l0.length l0) (hc0 : l0.length ≤ c0) (h : laws_FnDocAnyHeader.f k l0 = some r) :
    Calls Tryz.prog 3 #[.slice A0 l0.length c0] w fun e w' => e = .returned (.bool r) ∧ Below w.heap.size w w' := by
  have HR0 := Aside0.mk hr0
  have HC0 := Aside0.mk hc0
  clear hr0 hc0
  have HB := Aside0.mk (Below.refl w.heap.size w)
  have H : (if (l0.length : Int) > 2147483647 then (some true) else (if (l0.length : Int) > 5000 then (some true) else ((laws_docCopy.f l0).bind fun t517 => ((impl_ReadHeader.f t517).bind fun bt520 => ((laws_docCopy.f l0).bind fun t526 => ((impl_ReadKey.f t526).bind fun bt529 => ((laws_docCopy.f l0).bind fun t534 => ((impl_ReadCString.f t534).bind fun bt537 => ((spec_DocName.f k l0).bind fun bt542 => (if (bt529.2.2 != bt542.2.2) = true then (none) else (if (bt537.2.2 != bt542.2.2) = true then (none) else (if 0 ≤ bt542.2.1 then (if bt542.2.1 ≤ (l0.length : Int) then (if (strOfNums bt529.2.1).toList = (strOfNums (l0.drop (bt542.2.1 : Int).toNat)).toList then (if (strOfNums bt537.2.1).toList = (strOfNums (l0.drop (bt542.2.1 : Int).toNat)).toList then (if bt529.1.toList = bt542.1.toList then (laws_FnDocAnyHeader.j0 k l0 bt520.1 bt520.2.1 bt520.2.2.1 bt520.2.2.2 (bt537.1.toList != bt542.1.toList)) else (none)) else (none)) else (none)) else (none)) else (none))))))))))))) = some r := h
  clear h
  by_cases c2 : (l0.length : Int) > 2147483647
  · rw [if_pos c2] at H
    have c2b0 : decide (2147483647 < (l0.length : Int)) = true := decide_eq_true c2
    have c2b1 : decide (2147483647 < l0.length) = true := decide_eq_true (by omega)
    clear c2
    as_aux_lemma =>
      obtain rfl := Option.some.inj H
      go_enter Tryz.func3, Tryz.ntmps3
      go_wp2
      go_ret
      exact ⟨by first | rfl | (simp [errW_none, errW_some] <;> rfl) | (simp [*, errW_none, errW_some] <;> rfl), HW.zb⟩
  rw [if_neg c2] at H
  have c2b0 : decide (2147483647 < (l0.length : Int)) = false := decide_eq_false c2
  have c2b1 : decide (2147483647 < l0.length) = false := decide_eq_false (by omega)
  clear c2
  by_cases c3 : (l0.length : Int) > 5000
  · rw [if_pos c3] at H
    have c3b0 : decide (5000 < (l0.length : Int)) = true := decide_eq_true c3
    have c3b1 : decide (5000 < l0.length) = true := decide_eq_true (by omega)
    clear c3
    as_aux_lemma =>
      obtain rfl := Option.some.inj H
      go_enter Tryz.func3, Tryz.ntmps3
      go_wp2
      go_ret
      exact ⟨by first | rfl | (simp [errW_none, errW_some] <;> rfl) | (simp [*, errW_none, errW_some] <;> rfl), HW.zb⟩
  rw [if_neg c3] at H
  have c3b0 : decide (5000 < (l0.length : Int)) = false := decide_eq_false c3
  have c3b1 : decide (5000 < l0.length) = false := decide_eq_false (by omega)
  clear c3
  replace H := Option.bind_eq_some_iff.mp H
  obtain ⟨t517, A40, H⟩ := H
  replace H : ((impl_ReadHeader.f t517).bind fun bt520 => ((laws_docCopy.f l0).bind fun t526 => ((impl_ReadKey.f t526).bind fun bt529 => ((laws_docCopy.f l0).bind fun t534 => ((impl_ReadCString.f t534).bind fun bt537 => ((spec_DocName.f k l0).bind fun bt542 => (if (bt529.2.2 != bt542.2.2) = true then (none) else (if (bt537.2.2 != bt542.2.2) = true then (none) else (if 0 ≤ bt542.2.1 then (if bt542.2.1 ≤ (l0.length : Int) then (if (strOfNums bt529.2.1).toList = (strOfNums (l0.drop (bt542.2.1 : Int).toNat)).toList then (if (strOfNums bt537.2.1).toList = (strOfNums (l0.drop (bt542.2.1 : Int).toNat)).toList then (if bt529.1.toList = bt542.1.toList then (laws_FnDocAnyHeader.j0 k l0 bt520.1 bt520.2.1 bt520.2.2.1 bt520.2.2.2 (bt537.1.toList != bt542.1.toList)) else (none)) else (none)) else (none)) else (none)) else (none)))))))))) = some r := H
  have A4 := Aside0.mk A40
  clear A40
  replace H := Option.bind_eq_some_iff.mp H
  obtain ⟨⟨t520, t521, t522, t523⟩, A50, H⟩ := H
  replace H : ((laws_docCopy.f l0).bind fun t526 => ((impl_ReadKey.f t526).bind fun bt529 => ((laws_docCopy.f l0).bind fun t534 => ((impl_ReadCString.f t534).bind fun bt537 => ((spec_DocName.f k l0).bind fun bt542 => (if (bt529.2.2 != bt542.2.2) = true then (none) else (if (bt537.2.2 != bt542.2.2) = true then (none) else (if 0 ≤ bt542.2.1 then (if bt542.2.1 ≤ (l0.length : Int) then (if (strOfNums bt529.2.1).toList = (strOfNums (l0.drop (bt542.2.1 : Int).toNat)).toList then (if (strOfNums bt537.2.1).toList = (strOfNums (l0.drop (bt542.2.1 : Int).toNat)).toList then (if bt529.1.toList = bt542.1.toList then (laws_FnDocAnyHeader.j0 k l0 t520 t521 t522 t523 (bt537.1.toList != bt542.1.toList)) else (none)) else (none)) else (none)) else (none)) else (none))))))))) = some r := H
  have A5 := Aside0.mk A50
  clear A50
  replace H := Option.bind_eq_some_iff.mp H
  obtain ⟨t526, A60, H⟩ := H
  replace H : ((impl_ReadKey.f t526).bind fun bt529 => ((laws_docCopy.f l0).bind fun t534 => ((impl_ReadCString.f t534).bind fun bt537 => ((spec_DocName.f k l0).bind fun bt542 => (if (bt529.2.2 != bt542.2.2) = true then (none) else (if (bt537.2.2 != bt542.2.2) = true then (none) else (if 0 ≤ bt542.2.1 then (if bt542.2.1 ≤ (l0.length : Int) then (if (strOfNums bt529.2.1).toList = (strOfNums (l0.drop (bt542.2.1 : Int).toNat)).toList then (if (strOfNums bt537.2.1).toList = (strOfNums (l0.drop (bt542.2.1 : Int).toNat)).toList then (if bt529.1.toList = bt542.1.toList then (laws_FnDocAnyHeader.j0 k l0 t520 t521 t522 t523 (bt537.1.toList != bt542.1.toList)) else (none)) else (none)) else (none)) else (none)) else (none)))))))) = some r := H
  have A6 := Aside0.mk A60
  clear A60
  replace H := Option.bind_eq_some_iff.mp H
  obtain ⟨⟨t529, t530, t531⟩, A70, H⟩ := H
  replace H : ((laws_docCopy.f l0).bind fun t534 => ((impl_ReadCString.f t534).bind fun bt537 => ((spec_DocName.f k l0).bind fun bt542 => (if (t531 != bt542.2.2) = true then (none) else (if (bt537.2.2 != bt542.2.2) = true then (none) else (if 0 ≤ bt542.2.1 then (if bt542.2.1 ≤ (l0.length : Int) then (if (strOfNums t530).toList = (strOfNums (l0.drop (bt542.2.1 : Int).toNat)).toList then (if (strOfNums bt537.2.1).toList = (strOfNums (l0.drop (bt542.2.1 : Int).toNat)).toList then (if t529.toList = bt542.1.toList then (laws_FnDocAnyHeader.j0 k l0 t520 t521 t522 t523 (bt537.1.toList != bt542.1.toList)) else (none)) else (none)) else (none)) else (none)) else (none))))))) = some r := H
  have A7 := Aside0.mk A70
  clear A70
  replace H := Option.bind_eq_some_iff.mp H
  obtain ⟨t534, A80, H⟩ := H
  replace H : ((impl_ReadCString.f t534).bind fun bt537 => ((spec_DocName.f k l0).bind fun bt542 => (if (t531 != bt542.2.2) = true then (none) else (if (bt537.2.2 != bt542.2.2) = true then (none) else (if 0 ≤ bt542.2.1 then (if bt542.2.1 ≤ (l0.length : Int) then (if (strOfNums t530).toList = (strOfNums (l0.drop (bt542.2.1 : Int).toNat)).toList then (if (strOfNums bt537.2.1).toList = (strOfNums (l0.drop (bt542.2.1 : Int).toNat)).toList then (if t529.toList = bt542.1.toList then (laws_FnDocAnyHeader.j0 k l0 t520 t521 t522 t523 (bt537.1.toList != bt542.1.toList)) else (none)) else (none)) else (none)) else (none)) else (none)))))) = some r := H
  have A8 := Aside0.mk A80
  clear A80
  replace H := Option.bind_eq_some_iff.mp H
  obtain ⟨⟨t537, t538, t539⟩, A90, H⟩ := H
  replace H : ((spec_DocName.f k l0).bind fun bt542 => (if (t531 != bt542.2.2) = true then (none) else (if (t539 != bt542.2.2) = true then (none) else (if 0 ≤ bt542.2.1 then (if bt542.2.1 ≤ (l0.length : Int) then (if (strOfNums t530).toList = (strOfNums (l0.drop (bt542.2.1 : Int).toNat)).toList then (if (strOfNums t538).toList = (strOfNums (l0.drop (bt542.2.1 : Int).toNat)).toList then (if t529.toList = bt542.1.toList then (laws_FnDocAnyHeader.j0 k l0 t520 t521 t522 t523 (t537.toList != bt542.1.toList)) else (none)) else (none)) else (none)) else (none)) else (none))))) = some r := H
  have A9 := Aside0.mk A90
  clear A90
  replace H := Option.bind_eq_some_iff.mp H
  obtain ⟨⟨t542, t543, t544⟩, A100, H⟩ := H
  replace H : (if (t531 != t544) = true then (none) else (if (t539 != t544) = true then (none) else (if 0 ≤ t543 then (if t543 ≤ (l0.length : Int) then (if (strOfNums t530).toList = (strOfNums (l0.drop (t543 : Int).toNat)).toList then (if (strOfNums t538).toList = (strOfNums (l0.drop (t543 : Int).toNat)).toList then (if t529.toList = t542.toList then (laws_FnDocAnyHeader.j0 k l0 t520 t521 t522 t523 (t537.toList != t542.toList)) else (none)) else (none)) else (none)) else (none)) else (none)))) = some r := H
  have A10 := Aside0.mk A100
  clear A100
  have HC11 := Aside0.mk H
  clear H
  go_enter Tryz.func3, Tryz.ntmps3
  go_upto_region 9 with (first | ((with_reducible refine gate_callee (f := 11) rfl ?_); refine HW.gz (some 24) rfl rfl Tryz.func11 (by kernel_rfl) rfl #[.slice A0 l0.length c0] rfl ?_; (with_reducible refine (laws_docCopy.calls _ _ l0 t517 _ ?side1 ?side2 A4.out).mono ?_); (case side1 => repeat (first | exact HR0.out | (with_reducible refine Kd.C_alloc ?_ _) | (with_reducible refine Kd.C_drewN ?_ _) | (with_reducible refine Kd.C_drew ?_))); (case side2 => exact HC0.out); rintro e w12 ⟨v518, rfl, ho0, hb⟩; refine ⟨_, rfl, ?_⟩; have n0_ := Aside0.mk (Kd.R_lower ho0 (below_size HW.zb)); have n1_ := Aside0.mk (below_step HW.zb hb); clear HB; have HO519 := n0_; have HB := n1_; clear n0_ n1_; (try clear hb); (try clear hb2); (try clear hk); (try clear hi); (try clear ho0); obtain ⟨Ao13, co13, eo13⟩ := Kd.R_slice HO519.out; subst eo13) | ((with_reducible refine gate_callee (f := 10) rfl ?_); refine HW.gz (some 25) rfl rfl Tryz.func10 (by kernel_rfl) rfl #[.slice Ao13 t517.length co13] rfl ?_; (with_reducible refine (impl_ReadHeader.calls _ _ t517 t520 t521 t522 t523 _ ?side1 ?side2 A5.out).mono ?_); (case side1 => repeat (first | exact (Kd.R_reads' HO519.out).2.2 | (with_reducible refine Kd.C_alloc ?_ _) | (with_reducible refine Kd.C_drewN ?_ _) | (with_reducible refine Kd.C_drew ?_))); (case side2 => exact (Kd.R_reads' HO519.out).2.1); rintro e w14 ⟨v524, rfl, ho0, hb⟩; refine ⟨_, rfl, ?_⟩; have n0_ := Aside0.mk (Kd.R_elder' (HW.zR HO519.out) (Kd.R_base ho0) hb); have n1_ := Aside0.mk (Kd.R_lower (Kd.R_new' ho0 (Kd.R_lt (HW.zR HO519.out))) (below_size HW.zb)); have n2_ := Aside0.mk (below_step HW.zb hb); clear HO519; clear HB; have HO519 := n0_; have HO525 := n1_; have HB := n2_; clear n0_ n1_ n2_; (try clear hb); (try clear hb2); (try clear hk); (try clear hi); (try clear ho0)) | ((with_reducible refine gate_callee (f := 11) rfl ?_); refine HW.gz (some 32) rfl rfl Tryz.func11 (by kernel_rfl) rfl #[.slice A0 l0.length c0] rfl ?_; (with_reducible refine (laws_docCopy.calls _ _ l0 t526 _ ?side1 ?side2 A6.out).mono ?_); (case side1 => repeat (first | exact (Kd.C_below HR0.out HB.out) | (with_reducible refine Kd.C_alloc ?_ _) | (with_reducible refine Kd.C_drewN ?_ _) | (with_reducible refine Kd.C_drew ?_))); (case side2 => exact HC0.out); rintro e w15 ⟨v527, rfl, ho0, hb⟩; refine ⟨_, rfl, ?_⟩; have n0_ := Aside0.mk (Kd.R_elder' (HW.zR HO519.out) (Kd.R_base ho0) hb); have n1_ := Aside0.mk (Kd.R_elder' (HW.zR HO525.out) (Kd.R_base ho0) hb); have n2_ := Aside0.mk (Kd.R_lower (Kd.R_new' (Kd.R_new' ho0 (Kd.R_lt (HW.zR HO519.out))) (Kd.R_lt (HW.zR HO525.out))) (below_size HW.zb)); have n3_ := Aside0.mk (below_step HW.zb hb); clear HO519; clear HO525; clear HB; have HO519 := n0_; have HO525 := n1_; have HO528 := n2_; have HB := n3_; clear n0_ n1_ n2_ n3_; (try clear hb); (try clear hb2); (try clear hk); (try clear hi); (try clear ho0); obtain ⟨Ao16, co16, eo16⟩ := Kd.R_slice HO528.out; subst eo16) | ((with_reducible refine gate_callee (f := 12) rfl ?_); refine HW.gz (some 33) rfl rfl Tryz.func12 (by kernel_rfl) rfl #[.slice Ao16 t526.length co16] rfl ?_; (with_reducible refine (impl_ReadKey.calls _ _ t526 t529 t530 t531 _ ?side1 ?side2 A7.out).mono ?_); (case side1 => repeat (first | exact (Kd.R_reads' HO528.out).2.2 | (with_reducible refine Kd.C_alloc ?_ _) | (with_reducible refine Kd.C_drewN ?_ _) | (with_reducible refine Kd.C_drew ?_))); (case side2 => exact (Kd.R_reads' HO528.out).2.1); rintro e w17 ⟨v532, rfl, ho0, hb⟩; refine ⟨_, rfl, ?_⟩; have n0_ := Aside0.mk (Kd.R_elder' (HW.zR HO519.out) (Kd.R_base ho0) hb); have n1_ := Aside0.mk (Kd.R_elder' (HW.zR HO525.out) (Kd.R_base ho0) hb); have n2_ := Aside0.mk (Kd.R_elder' (HW.zR HO528.out) (Kd.R_base ho0) hb); have n3_ := Aside0.mk (Kd.R_lower (Kd.R_new' (Kd.R_new' (Kd.R_new' ho0 (Kd.R_lt (HW.zR HO519.out))) (Kd.R_lt (HW.zR HO525.out))) (Kd.R_lt (HW.zR HO528.out))) (below_size HW.zb)); have n4_ := Aside0.mk (below_step HW.zb hb); clear HO519; clear HO525; clear HO528; clear HB; have HO519 := n0_; have HO525 := n1_; have HO528 := n2_; have HO533 := n3_; have HB := n4_; clear n0_ n1_ n2_ n3_ n4_; (try clear hb); (try clear hb2); (try clear hk); (try clear hi); (try clear ho0)) | ((with_reducible refine gate_callee (f := 11) rfl ?_); refine HW.gz (some 39) rfl rfl Tryz.func11 (by kernel_rfl) rfl #[.slice A0 l0.length c0] rfl ?_; (with_reducible refine (laws_docCopy.calls _ _ l0 t534 _ ?side1 ?side2 A8.out).mono ?_); (case side1 => repeat (first | exact (Kd.C_below HR0.out HB.out) | (with_reducible refine Kd.C_alloc ?_ _) | (with_reducible refine Kd.C_drewN ?_ _) | (with_reducible refine Kd.C_drew ?_))); (case side2 => exact HC0.out); rintro e w18 ⟨v535, rfl, ho0, hb⟩; refine ⟨_, rfl, ?_⟩; have n0_ := Aside0.mk (Kd.R_elder' (HW.zR HO519.out) (Kd.R_base ho0) hb); have n1_ := Aside0.mk (Kd.R_elder' (HW.zR HO525.out) (Kd.R_base ho0) hb); have n2_ := Aside0.mk (Kd.R_elder' (HW.zR HO528.out) (Kd.R_base ho0) hb); have n3_ := Aside0.mk (Kd.R_elder' (HW.zR HO533.out) (Kd.R_base ho0) hb); have n4_ := Aside0.mk (Kd.R_lower (Kd.R_new' (Kd.R_new' (Kd.R_new' (Kd.R_new' ho0 (Kd.R_lt (HW.zR HO519.out))) (Kd.R_lt (HW.zR HO525.out))) (Kd.R_lt (HW.zR HO528.out))) (Kd.R_lt (HW.zR HO533.out))) (below_size HW.zb)); have n5_ := Aside0.mk (below_step HW.zb hb); clear HO519; clear HO525; clear HO528; clear HO533; clear HB; have HO519 := n0_; have HO525 := n1_; have HO528 := n2_; have HO533 := n3_; have HO536 := n4_; have HB := n5_; clear n0_ n1_ n2_ n3_ n4_ n5_; (try clear hb); (try clear hb2); (try clear hk); (try clear hi); (try clear ho0); obtain ⟨Ao19, co19, eo19⟩ := Kd.R_slice HO536.out; subst eo19) | ((with_reducible refine gate_callee (f := 13) rfl ?_); refine HW.gz (some 40) rfl rfl Tryz.func13 (by kernel_rfl) rfl #[.slice Ao19 t534.length co19] rfl ?_; (with_reducible refine (impl_ReadCString.calls _ _ t534 t537 t538 t539 _ ?side1 ?side2 A9.out).mono ?_); (case side1 => repeat (first | exact (Kd.R_reads' HO536.out).2.2 | (with_reducible refine Kd.C_alloc ?_ _) | (with_reducible refine Kd.C_drewN ?_ _) | (with_reducible refine Kd.C_drew ?_))); (case side2 => exact (Kd.R_reads' HO536.out).2.1); rintro e w20 ⟨v540, rfl, ho0, hb⟩; refine ⟨_, rfl, ?_⟩; have n0_ := Aside0.mk (Kd.R_elder' (HW.zR HO519.out) (Kd.R_base ho0) hb); have n1_ := Aside0.mk (Kd.R_elder' (HW.zR HO525.out) (Kd.R_base ho0) hb); have n2_ := Aside0.mk (Kd.R_elder' (HW.zR HO528.out) (Kd.R_base ho0) hb); have n3_ := Aside0.mk (Kd.R_elder' (HW.zR HO533.out) (Kd.R_base ho0) hb); have n4_ := Aside0.mk (Kd.R_elder' (HW.zR HO536.out) (Kd.R_base ho0) hb); have n5_ := Aside0.mk (Kd.R_lower (Kd.R_new' (Kd.R_new' (Kd.R_new' (Kd.R_new' (Kd.R_new' ho0 (Kd.R_lt (HW.zR HO519.out))) (Kd.R_lt (HW.zR HO525.out))) (Kd.R_lt (HW.zR HO528.out))) (Kd.R_lt (HW.zR HO533.out))) (Kd.R_lt (HW.zR HO536.out))) (below_size HW.zb)); have n6_ := Aside0.mk (below_step HW.zb hb); clear HO519; clear HO525; clear HO528; clear HO533; clear HO536; clear HB; have HO519 := n0_; have HO525 := n1_; have HO528 := n2_; have HO533 := n3_; have HO536 := n4_; have HO541 := n5_; have HB := n6_; clear n0_ n1_ n2_ n3_ n4_ n5_ n6_; (try clear hb); (try clear hb2); (try clear hk); (try clear hi); (try clear ho0)) | ((with_reducible refine gate_callee (f := 14) rfl ?_); refine HW.gz (some 46) rfl rfl Tryz.func14 (by kernel_rfl) rfl #[.slice A0 l0.length c0] rfl ?_; (with_reducible refine (spec_DocName.calls k _ _ l0 t542 t543 t544 _ ?side1 ?side2 A10.out).mono ?_); (case side1 => repeat (first | exact (Kd.C_below HR0.out HB.out) | (with_reducible refine Kd.C_alloc ?_ _) | (with_reducible refine Kd.C_drewN ?_ _) | (with_reducible refine Kd.C_drew ?_))); (case side2 => exact HC0.out); rintro e w' ⟨rfl, ⟨nd, rfl⟩⟩; refine ⟨_, rfl, ?_⟩))
  (try simp only [Act.put, List.setIfInBounds_toArray, List.set_cons_zero, List.set_cons_succ])
  go_cut [85] (fun v85 wc => ∃ (kq : Nat) (x85_10 : Bool), v85 = .bool x85_10 ∧ Aside0 (laws_FnDocAnyHeader.j0 kq l0 t520 t521 t522 t523 x85_10 = some r) ∧ Aside0 (kq ≤ k) ∧ Aside0 (Kd.R (Kd.int .u8) 5 wc w.heap.size (fun _ => True) v524 t522) ∧ Aside0 (Below w.heap.size w wc))
  case first =>
    have H := HC11.out
    clear HC11
    by_cases c21 : (t531 != t544) = true
    · rw [if_pos c21] at H
      exact absurd H (by simp)
    rw [if_neg c21] at H
    have c21b0 : (t531 != t544) = false := by simpa using c21
    (try (have c21b1 : decide (t531 = t544) = true := by simpa using c21))
    (try (have c21b2 : (t531 == t544) = true := by simpa using c21))
    clear c21
    (first | rw [c21b0] | (simp only [i64_w, i32_w]; rw [c21b0]) | skip)
    by_cases c22 : (t539 != t544) = true
    · rw [if_pos c22] at H
      exact absurd H (by simp)
    rw [if_neg c22] at H
    have c22b0 : (t539 != t544) = false := by simpa using c22
    (try (have c22b1 : decide (t539 = t544) = true := by simpa using c22))
    (try (have c22b2 : (t539 == t544) = true := by simpa using c22))
    clear c22
    by_cases c23 : 0 ≤ t543
    rotate_left
    · rw [if_neg c23] at H
      exact absurd H (by simp)
    rw [if_pos c23] at H
    have c23b0 := eq_true c23
    have c23b1 : decide (0 ≤ t543) = true := decide_eq_true c23
    clear c23
    by_cases c24 : t543 ≤ (l0.length : Int)
    rotate_left
    · rw [if_neg c24] at H
      exact absurd H (by simp)
    rw [if_pos c24] at H
    have c24b0 := eq_true c24
    have c24b1 : decide (t543 ≤ (l0.length : Int)) = true := decide_eq_true c24
    clear c24
    by_cases c25 : (strOfNums t530).toList = (strOfNums (l0.drop (t543 : Int).toNat)).toList
    rotate_left
    · rw [if_neg c25] at H
      exact absurd H (by simp)
    rw [if_pos c25] at H
    have c25b0 : ((strOfNums t530).toList == (strOfNums (l0.drop (t543 : Int).toNat)).toList) = true := beq_iff_eq.mpr c25
    have c25b1 : ((strOfNums t530).toList != (strOfNums (l0.drop (t543 : Int).toNat)).toList) = false := bne_eq_false_iff_eq.mpr c25
    clear c25
    have c26b0 := eq_true (of_decide_eq_true (by first | (with_reducible assumption) | assumption) : 0 ≤ t543)
    have c27b0 := eq_true (of_decide_eq_true (by first | (with_reducible assumption) | assumption) : t543 ≤ (l0.length : Int))
    by_cases c28 : (strOfNums t538).toList = (strOfNums (l0.drop (t543 : Int).toNat)).toList
    rotate_left
    · rw [if_neg c28] at H
      exact absurd H (by simp)
    rw [if_pos c28] at H
    have c28b0 : ((strOfNums t538).toList == (strOfNums (l0.drop (t543 : Int).toNat)).toList) = true := beq_iff_eq.mpr c28
    have c28b1 : ((strOfNums t538).toList != (strOfNums (l0.drop (t543 : Int).toNat)).toList) = false := bne_eq_false_iff_eq.mpr c28
    clear c28
    by_cases c29 : t529.toList = t542.toList
    rotate_left
    · rw [if_neg c29] at H
      exact absurd H (by simp)
    rw [if_pos c29] at H
    have c29b0 : (t529.toList == t542.toList) = true := beq_iff_eq.mpr c29
    have c29b1 : (t529.toList != t542.toList) = false := bne_eq_false_iff_eq.mpr c29
    clear c29
    as_aux_lemma =>
      have H' := Aside0.mk H
      clear H
      try go_wp2
      have n0_ := Aside0.mk (Kd.R_drew (Kd.R_drewN HO519.out nd))
      have n1_ := Aside0.mk (Kd.R_drew (Kd.R_drewN HO525.out nd))
      have n2_ := Aside0.mk (Kd.R_drew (Kd.R_drewN HO528.out nd))
      have n3_ := Aside0.mk (Kd.R_drew (Kd.R_drewN HO533.out nd))
      have n4_ := Aside0.mk (Kd.R_drew (Kd.R_drewN HO536.out nd))
      have n5_ := Aside0.mk (Kd.R_drew (Kd.R_drewN HO541.out nd))
      have n6_ := Aside0.mk (below_drew1 (pw_below_drewN HB.out nd))
      clear HO519
      clear HO525
      clear HO528
      clear HO533
      clear HO536
      clear HO541
      clear HB
      have HO519 := n0_
      have HO525 := n1_
      have HO528 := n2_
      have HO533 := n3_
      have HO536 := n4_
      have HO541 := n5_
      have HB := n6_
      clear n0_ n1_ n2_ n3_ n4_ n5_ n6_
      obtain ⟨i031, hi031, _, hsz31, _⟩ := info_parts info5
      obtain ⟨A31, hcut31, hA31, hC31⟩ := print_drop_of (P := Tryz.prog) (Value.int .u8) 0 22 5 .i64 Tryz.underlying22 hi031 hsz31 A0 c0 l0 t543 (of_decide_eq_true (by first | (with_reducible assumption) | assumption)) (of_decide_eq_true (by first | (with_reducible assumption) | assumption)) HC0.out
      have HR545 := Aside0.mk (Kd.C_of_reads (h1 := fun _ => rfl) (hA31 _ (Kd.reads_of_C HR0.out)))
      have HC545 := Aside0.mk hC31
      clear hA31 hC31 hi031 hsz31
      have hcv32 := own_string (P := Tryz.prog) Tryz.underlying22 Tryz.underlying5 Tryz.underlying9 (Kd.own_of_R HO533.out)
      have hcv33 := Kd.C_string (P := Tryz.prog) (A := A31) (c := (c0 - t543.toNat)) Tryz.underlying22 Tryz.underlying5 Tryz.underlying9 (Kd.C_below HR545.out HB.out)
      have hcv34 := own_string (P := Tryz.prog) Tryz.underlying22 Tryz.underlying5 Tryz.underlying9 (Kd.own_of_R HO541.out)
      refine start_ (n := 36) (S := fun w' => Sem.run Tryz.prog (convert 22 9 v532) w' = .ok (.string (strOfNums t530)) w' ∧ Sem.run Tryz.prog (convert 22 9 (.slice A31 (l0.length - t543.toNat) (c0 - t543.toNat))) w' = .ok (.string (strOfNums (l0.drop t543.toNat))) w' ∧ Sem.run Tryz.prog (convert 22 9 v540) w' = .ok (.string (strOfNums t538)) w') (ds := []) #[false, false, false, false, false, false, false, false, false, false, false, false, false, false, false, false, false, false, false, false, false, false, false, false, false, false, false, false, false, false, false, false, false, false, false, false] (by kernel_rfl) rfl rfl ⟨hcv32, (by rw [List.length_drop] at hcv33; exact hcv33), hcv34⟩ (fun hHeld => ?_); refine with_tabW laws_FnDocAnyHeader.tab9 laws_FnDocAnyHeader.bits9 (fun HT_ HW_ => ?_)
      generalize (w20.drewN nd).drew = w30 at HO519 HO525 HO528 HO533 HO536 HO541 HB HR545 hHeld ⊢
      refine HW.pz (i := 0) (N := some 50) #[true, false, false, false, false, false, false, false, false, false, false, false, false, false, false, false, false, false, false, false, false, false, false, false, false, false, false, false, false, false, false, false, false, false, false, false] ?_ (hc := any_of HT_.out (by kernel_rfl))
      refine HW.pz (i := 1) (N := some 51) #[true, true, false, false, false, false, false, false, false, false, false, false, false, false, false, false, false, false, false, false, false, false, false, false, false, false, false, false, false, false, false, false, false, false, false, false] ?_ (hc := any_of HT_.out (by kernel_rfl))
      refine HW.pz (i := 2) (N := some 52) #[true, true, true, false, false, false, false, false, false, false, false, false, false, false, false, false, false, false, false, false, false, false, false, false, false, false, false, false, false, false, false, false, false, false, false, false] ?_ (hc := any_of HT_.out (by kernel_rfl))
      refine HW.pz (i := 3) (N := some 53) #[true, true, true, true, false, false, false, false, false, false, false, false, false, false, false, false, false, false, false, false, false, false, false, false, false, false, false, false, false, false, false, false, false, false, false, false] ?_ (hc := any_of HT_.out (by kernel_rfl))
      refine HW.pz (i := 4) (N := some 54) #[true, true, true, true, true, false, false, false, false, false, false, false, false, false, false, false, false, false, false, false, false, false, false, false, false, false, false, false, false, false, false, false, false, false, false, false] ?_ (hc := any_of HT_.out (by kernel_rfl))
      refine HW.pz (i := 5) (N := some 55) #[true, true, true, true, true, true, false, false, false, false, false, false, false, false, false, false, false, false, false, false, false, false, false, false, false, false, false, false, false, false, false, false, false, false, false, false] ?_ (hc := any_of HT_.out (by kernel_rfl))
      refine HW.pz (i := 6) (N := some 56) #[true, true, true, true, true, true, true, false, false, false, false, false, false, false, false, false, false, false, false, false, false, false, false, false, false, false, false, false, false, false, false, false, false, false, false, false] ?_ (hc := any_of HT_.out (by kernel_rfl))
      refine HW.pz (i := 7) (N := some 57) #[true, true, true, true, true, true, true, true, false, false, false, false, false, false, false, false, false, false, false, false, false, false, false, false, false, false, false, false, false, false, false, false, false, false, false, false] ?_ (hc := any_of HT_.out (by kernel_rfl))
      refine HW.pz (i := 8) (N := some 58) #[true, true, true, true, true, true, true, true, true, false, false, false, false, false, false, false, false, false, false, false, false, false, false, false, false, false, false, false, false, false, false, false, false, false, false, false] ?_ (hc := any_of HT_.out (by kernel_rfl))
      refine HW.pz (i := 9) (N := some 59) #[true, true, true, true, true, true, true, true, true, true, false, false, false, false, false, false, false, false, false, false, false, false, false, false, false, false, false, false, false, false, false, false, false, false, false, false] ?_ (hc := any_of HT_.out (by kernel_rfl))
      refine take_ (i := 10) (N := some 60) (v := ?_) (a' := ?_) #[true, true, true, true, true, true, true, true, true, true, true, false, false, false, false, false, false, false, false, false, false, false, false, false, false, false, false, false, false, false, false, false, false, false, false, false] rfl rfl (take_ofW HT_.out HW_.out (by kernel_rfl)) (fun _ _ _ h => h) (Or.inl ⟨by rfl, ?_⟩) hHeld ?_ ?_
      rotate_left
      · rintro w' ⟨s0, s1, s2⟩
        go_simp
        with_reducible rfl
      rotate_left
      · simp only [Act.put, List.setIfInBounds_toArray, List.set_cons_zero, List.set_cons_succ, i64_w, i32_w]
        rfl
      refine HW.pz (i := 11) (N := some 61) #[true, true, true, true, true, true, true, true, true, true, true, true, false, false, false, false, false, false, false, false, false, false, false, false, false, false, false, false, false, false, false, false, false, false, false, false] ?_ (hc := any_of HT_.out (by kernel_rfl))
      refine HW.pz (i := 12) (N := some 62) #[true, true, true, true, true, true, true, true, true, true, true, true, true, false, false, false, false, false, false, false, false, false, false, false, false, false, false, false, false, false, false, false, false, false, false, false] ?_ (hc := any_of HT_.out (by kernel_rfl))
      refine HW.pz (i := 13) (N := some 63) #[true, true, true, true, true, true, true, true, true, true, true, true, true, true, false, false, false, false, false, false, false, false, false, false, false, false, false, false, false, false, false, false, false, false, false, false] ?_ (hc := any_of HT_.out (by kernel_rfl))
      refine take_ (i := 14) (N := some 64) (v := ?_) (a' := ?_) #[true, true, true, true, true, true, true, true, true, true, true, true, true, true, true, false, false, false, false, false, false, false, false, false, false, false, false, false, false, false, false, false, false, false, false, false] rfl rfl (take_ofW HT_.out HW_.out (by kernel_rfl)) (fun _ _ _ h => h) (Or.inl ⟨by rfl, ?_⟩) hHeld ?_ ?_
      rotate_left
      · rintro w' ⟨s0, s1, s2⟩
        go_simp
        with_reducible rfl
      rotate_left
      · simp only [Act.put, List.setIfInBounds_toArray, List.set_cons_zero, List.set_cons_succ, i64_w, i32_w]
        rfl
      refine HW.pz (i := 15) (N := some 65) #[true, true, true, true, true, true, true, true, true, true, true, true, true, true, true, true, false, false, false, false, false, false, false, false, false, false, false, false, false, false, false, false, false, false, false, false] ?_ (hc := any_of HT_.out (by kernel_rfl))
      refine HW.pz (i := 16) (N := some 66) #[true, true, true, true, true, true, true, true, true, true, true, true, true, true, true, true, true, false, false, false, false, false, false, false, false, false, false, false, false, false, false, false, false, false, false, false] ?_ (hc := any_of HT_.out (by kernel_rfl))
      refine HW.pz (i := 17) (N := some 67) #[true, true, true, true, true, true, true, true, true, true, true, true, true, true, true, true, true, true, false, false, false, false, false, false, false, false, false, false, false, false, false, false, false, false, false, false] ?_ (hc := any_of HT_.out (by kernel_rfl))
      refine HW.pz (i := 18) (N := some 68) #[true, true, true, true, true, true, true, true, true, true, true, true, true, true, true, true, true, true, true, false, false, false, false, false, false, false, false, false, false, false, false, false, false, false, false, false] ?_ (hc := any_of HT_.out (by kernel_rfl))
      refine take_ (i := 19) (N := some 69) (v := ?_) (a' := ?_) #[true, true, true, true, true, true, true, true, true, true, true, true, true, true, true, true, true, true, true, true, false, false, false, false, false, false, false, false, false, false, false, false, false, false, false, false] rfl rfl (take_ofW HT_.out HW_.out (by kernel_rfl)) (fun _ _ _ h => h) (Or.inl ⟨by rfl, ?_⟩) hHeld ?_ ?_
      rotate_left
      · rintro w' ⟨s0, s1, s2⟩
        go_simp
        with_reducible rfl
      rotate_left
      · simp only [Act.put, List.setIfInBounds_toArray, List.set_cons_zero, List.set_cons_succ, i64_w, i32_w]
        rfl
      refine HW.pz (i := 20) (N := some 70) #[true, true, true, true, true, true, true, true, true, true, true, true, true, true, true, true, true, true, true, true, true, false, false, false, false, false, false, false, false, false, false, false, false, false, false, false] ?_ (hc := any_of HT_.out (by kernel_rfl))
      refine HW.pz (i := 21) (N := some 71) #[true, true, true, true, true, true, true, true, true, true, true, true, true, true, true, true, true, true, true, true, true, true, false, false, false, false, false, false, false, false, false, false, false, false, false, false] ?_ (hc := any_of HT_.out (by kernel_rfl))
      refine HW.pz (i := 22) (N := some 72) #[true, true, true, true, true, true, true, true, true, true, true, true, true, true, true, true, true, true, true, true, true, true, true, false, false, false, false, false, false, false, false, false, false, false, false, false] ?_ (hc := any_of HT_.out (by kernel_rfl))
      refine take_ (i := 23) (N := some 73) (v := ?_) (a' := ?_) #[true, true, true, true, true, true, true, true, true, true, true, true, true, true, true, true, true, true, true, true, true, true, true, true, false, false, false, false, false, false, false, false, false, false, false, false] rfl rfl (take_ofW HT_.out HW_.out (by kernel_rfl)) (fun _ _ _ h => h) (Or.inl ⟨by rfl, ?_⟩) hHeld ?_ ?_
      rotate_left
      · rintro w' ⟨s0, s1, s2⟩
        go_simp
        with_reducible rfl
      rotate_left
      · simp only [Act.put, List.setIfInBounds_toArray, List.set_cons_zero, List.set_cons_succ, i64_w, i32_w]
        rfl
      refine HW.pz (i := 24) (N := some 74) #[true, true, true, true, true, true, true, true, true, true, true, true, true, true, true, true, true, true, true, true, true, true, true, true, true, false, false, false, false, false, false, false, false, false, false, false] ?_ (hc := any_of HT_.out (by kernel_rfl))
      refine HW.pz (i := 25) (N := some 75) #[true, true, true, true, true, true, true, true, true, true, true, true, true, true, true, true, true, true, true, true, true, true, true, true, true, true, false, false, false, false, false, false, false, false, false, false] ?_ (hc := any_of HT_.out (by kernel_rfl))
      refine HW.pz (i := 26) (N := some 76) #[true, true, true, true, true, true, true, true, true, true, true, true, true, true, true, true, true, true, true, true, true, true, true, true, true, true, true, false, false, false, false, false, false, false, false, false] ?_ (hc := any_of HT_.out (by kernel_rfl))
      refine HW.pz (i := 27) (N := some 77) #[true, true, true, true, true, true, true, true, true, true, true, true, true, true, true, true, true, true, true, true, true, true, true, true, true, true, true, true, false, false, false, false, false, false, false, false] ?_ (hc := any_of HT_.out (by kernel_rfl))
      refine HW.pz (i := 28) (N := some 78) #[true, true, true, true, true, true, true, true, true, true, true, true, true, true, true, true, true, true, true, true, true, true, true, true, true, true, true, true, true, false, false, false, false, false, false, false] ?_ (hc := any_of HT_.out (by kernel_rfl))
      refine HW.pz (i := 29) (N := some 79) #[true, true, true, true, true, true, true, true, true, true, true, true, true, true, true, true, true, true, true, true, true, true, true, true, true, true, true, true, true, true, false, false, false, false, false, false] ?_ (hc := any_of HT_.out (by kernel_rfl))
      refine HW.pz (i := 30) (N := some 80) #[true, true, true, true, true, true, true, true, true, true, true, true, true, true, true, true, true, true, true, true, true, true, true, true, true, true, true, true, true, true, true, false, false, false, false, false] ?_ (hc := any_of HT_.out (by kernel_rfl))
      refine HW.pz (i := 31) (N := some 81) #[true, true, true, true, true, true, true, true, true, true, true, true, true, true, true, true, true, true, true, true, true, true, true, true, true, true, true, true, true, true, true, true, false, false, false, false] ?_ (hc := any_of HT_.out (by kernel_rfl))
      refine HW.pz (i := 32) (N := some 82) #[true, true, true, true, true, true, true, true, true, true, true, true, true, true, true, true, true, true, true, true, true, true, true, true, true, true, true, true, true, true, true, true, true, false, false, false] ?_ (hc := any_of HT_.out (by kernel_rfl))
      refine HW.pz (i := 33) (N := some 83) #[true, true, true, true, true, true, true, true, true, true, true, true, true, true, true, true, true, true, true, true, true, true, true, true, true, true, true, true, true, true, true, true, true, true, false, false] ?_ (hc := any_of HT_.out (by kernel_rfl))
      refine HW.pz (i := 34) (N := some 84) #[true, true, true, true, true, true, true, true, true, true, true, true, true, true, true, true, true, true, true, true, true, true, true, true, true, true, true, true, true, true, true, true, true, true, true, false] ?_ (hc := any_of HT_.out (by kernel_rfl))
      refine HW.pz (i := 35) (N := some 85) #[true, true, true, true, true, true, true, true, true, true, true, true, true, true, true, true, true, true, true, true, true, true, true, true, true, true, true, true, true, true, true, true, true, true, true, true] ?_ (hc := any_of HT_.out (by kernel_rfl))
      refine done_ (done_of HT_.out (by kernel_rfl)) ?_
      try go_wp2
      go_meet
      case rel => exact ⟨_, ((t537.toList != t542.toList)), (by first | rfl | (simp; done) | (simp [*]; done)), H', ⟨by first | omega | exact Nat.le_refl _⟩, ⟨by (with_reducible repeat (first | apply Kd.R_alloc | apply Kd.R_drewN | apply Kd.R_drew)); exact Kd.R_mono HO525.out (fun _ hk => trivial)⟩, ⟨HW.zb⟩⟩
  case rest =>
    clear HC11
    try clear c1
    try clear c2
    try clear c2b0
    try clear c2b1
    try clear p2
    try clear c3
    try clear c3b0
    try clear c3b1
    try clear hcv3
    try clear c5
    try clear c10
    try clear c11
    try clear c12
    try clear c13
    try clear c14
    try clear c21
    try clear c21b0
    try clear c21b1
    try clear c21b2
    try clear c22
    try clear c22b0
    try clear c22b1
    try clear c22b2
    try clear c23
    try clear c23b0
    try clear c23b1
    try clear c24
    try clear c24b0
    try clear c24b1
    try clear c25
    try clear c25b0
    try clear c25b1
    try clear c26
    try clear c26b0
    try clear c27
    try clear c27b0
    try clear c28
    try clear c28b0
    try clear c28b1
    try clear c29
    try clear c29b0
    try clear c29b1
    try clear hcv32
    try clear hcv33
    try clear hcv34
    try clear hcv35
    obtain ⟨kq, x85_10, rfl, HA, HJ10, HO_5, HB⟩ := hcut
    cases kq with
    | zero => exact absurd HA.out (by simp [laws_FnDocAnyHeader.j0])
    | succ kj10 =>
      have H := HA.out
      clear HA
      simp only [laws_FnDocAnyHeader.j0] at H
      by_cases c38 : x85_10 = true
      · subst c38
        have H1 : (none) = some r := by rw [if_pos rfl] at H; exact H
        clear H
        have H := H1
        clear H1
        exact absurd H (by simp)
      replace c38 := Bool.eq_false_iff.mpr c38
      subst c38
      have H1 : (if (l0.length : Int) = 0 then ((laws_docAwake.f kj10).bind fun t547 => (if t547 = true then (some (!t523)) else (none))) else (if 1 ≤ (l0.length : Int) then ((spec_DocName.f kj10 (l0.drop 1)).bind fun bt549 => (if bt549.2.2 = true then ((laws_docAwake.f kj10).bind fun t553 => (if t553 = true then (if t523 = true then (if 0 < (l0.length : Int) then (if t520 = (wrap64 (rd l0 0)) then (if t521.toList = bt549.1.toList then (if 0 ≤ (wrap64 (1 + bt549.2.1)) then (if (wrap64 (1 + bt549.2.1)) ≤ (l0.length : Int) then (some ((strOfNums t522).toList == (strOfNums (l0.drop ((wrap64 (1 + bt549.2.1)) : Int).toNat)).toList)) else (none)) else (none)) else (none)) else (none)) else (none)) else (none)) else (none))) else ((laws_docAwake.f kj10).bind fun t552 => (if t552 = true then (if t523 = true then (none) else (some ((strOfNums t522).toList == (strOfNums l0).toList))) else (none))))) else (none))) = some r := by rw [if_neg (show ¬ (false = true) by decide)] at H; exact H
      clear H
      have H := H1
      clear H1
      by_cases c39 : (l0.length : Int) = 0
      · rw [if_pos c39] at H
        have c39b0 : ((l0.length : Int) == 0) = true := beq_iff_eq.mpr c39
        have c39b1 : ((l0.length : Int) != 0) = false := bne_eq_false_iff_eq.mpr c39
        clear c39
        replace H := Option.bind_eq_some_iff.mp H
        obtain ⟨t547, A400, H⟩ := H
        replace H : (if t547 = true then (some (!t523)) else (none)) = some r := H
        have A40 := Aside0.mk A400
        clear A400
        by_cases c41 : t547 = true
        · subst c41
          have H1 : (some (!t523)) = some r := by rw [if_pos rfl] at H; exact H
          clear H
          have H := H1
          clear H1
          as_aux_lemma =>
            obtain rfl := Option.some.inj H
            go_wp2_with (first | ((with_reducible refine gate_callee (f := 15) rfl ?_); refine HW.gz (some 89) rfl rfl Tryz.func15 (by kernel_rfl) rfl #[] rfl ?_; (with_reducible refine (laws_docAwake.calls kj10  true _ A40.out).mono ?_); rintro e w42 ⟨rfl, hb⟩; refine ⟨_, rfl, ?_⟩; have n0_ := Aside0.mk (Kd.R_below (HW.zR HO_5.out) hb); have n1_ := Aside0.mk (below_step HW.zb hb); clear HO_5; clear HB; have HO_5 := n0_; have HB := n1_; clear n0_ n1_; (try clear hb); (try clear hb2); (try clear hk); (try clear hi)))
            go_ret
            exact ⟨by first | rfl | (simp [errW_none, errW_some] <;> rfl) | (simp [*, errW_none, errW_some] <;> rfl), HW.zb⟩
        replace c41 := Bool.eq_false_iff.mpr c41
        subst c41
        have H1 : (none) = some r := by rw [if_neg (show ¬ (false = true) by decide)] at H; exact H
        clear H
        have H := H1
        clear H1
        exact absurd H (by simp)
      rw [if_neg c39] at H
      have c39b0 : ((l0.length : Int) == 0) = false := beq_eq_false_iff_ne.mpr c39
      have c39b1 : ((l0.length : Int) != 0) = true := bne_iff_ne.mpr c39
      have c39b2 : ¬ (l0 = []) := fun h_ => c39 (by rw [h_]; rfl)
      by_cases c43 : 1 ≤ (l0.length : Int)
      rotate_left
      · rw [if_neg c43] at H
        exact absurd H (by simp)
      rw [if_pos c43] at H
      have c43b0 := eq_true c43
      have c43b1 : decide (1 ≤ (l0.length : Int)) = true := decide_eq_true c43
      clear c43
      replace H := Option.bind_eq_some_iff.mp H
      obtain ⟨⟨t549, t550, t551⟩, A440, H⟩ := H
      replace H : (if t551 = true then ((laws_docAwake.f kj10).bind fun t553 => (if t553 = true then (if t523 = true then (if 0 < (l0.length : Int) then (if t520 = (wrap64 (rd l0 0)) then (if t521.toList = t549.toList then (if 0 ≤ (wrap64 (1 + t550)) then (if (wrap64 (1 + t550)) ≤ (l0.length : Int) then (some ((strOfNums t522).toList == (strOfNums (l0.drop ((wrap64 (1 + t550)) : Int).toNat)).toList)) else (none)) else (none)) else (none)) else (none)) else (none)) else (none)) else (none))) else ((laws_docAwake.f kj10).bind fun t552 => (if t552 = true then (if t523 = true then (none) else (some ((strOfNums t522).toList == (strOfNums l0).toList))) else (none)))) = some r := H
      have A44 := Aside0.mk A440
      clear A440
      by_cases c45 : t551 = true
      rotate_left
      · replace c45 := Bool.eq_false_iff.mpr c45
        subst c45
        have H1 : ((laws_docAwake.f kj10).bind fun t552 => (if t552 = true then (if t523 = true then (none) else (some ((strOfNums t522).toList == (strOfNums l0).toList))) else (none))) = some r := by rw [if_neg (show ¬ (false = true) by decide)] at H; exact H
        clear H
        have H := H1
        clear H1
        replace H := Option.bind_eq_some_iff.mp H
        obtain ⟨t552, A620, H⟩ := H
        replace H : (if t552 = true then (if t523 = true then (none) else (some ((strOfNums t522).toList == (strOfNums l0).toList))) else (none)) = some r := H
        have A62 := Aside0.mk A620
        clear A620
        by_cases c63 : t552 = true
        rotate_left
        · replace c63 := Bool.eq_false_iff.mpr c63
          subst c63
          have H1 : (none) = some r := by rw [if_neg (show ¬ (false = true) by decide)] at H; exact H
          clear H
          have H := H1
          clear H1
          exact absurd H (by simp)
        subst c63
        have H1 : (if t523 = true then (none) else (some ((strOfNums t522).toList == (strOfNums l0).toList))) = some r := by rw [if_pos rfl] at H; exact H
        clear H
        have H := H1
        clear H1
        by_cases c64 : t523 = true
        · subst c64
          have H1 : (none) = some r := by rw [if_pos rfl] at H; exact H
          clear H
          have H := H1
          clear H1
          exact absurd H (by simp)
        replace c64 := Bool.eq_false_iff.mpr c64
        subst c64
        have H1 : (some ((strOfNums t522).toList == (strOfNums l0).toList)) = some r := by rw [if_neg (show ¬ (false = true) by decide)] at H; exact H
        clear H
        have H := H1
        clear H1
        as_aux_lemma =>
          obtain rfl := Option.some.inj H
          obtain ⟨i065, hi065, _, hsz65, _⟩ := info_parts info5
          obtain ⟨A65, hcut65, hA65, hC65⟩ := print_drop_of (P := Tryz.prog) (Value.int .u8) 0 22 5 .i64 Tryz.underlying22 hi065 hsz65 A0 c0 l0 1 (by omega) (of_decide_eq_true (by first | (with_reducible assumption) | assumption)) HC0.out
          have HR548 := Aside0.mk (Kd.C_of_reads (h1 := fun _ => rfl) (hA65 _ (Kd.reads_of_C HR0.out)))
          have HC548 := Aside0.mk hC65
          clear hA65 hC65 hi065 hsz65
          go_wp2_with (first | ((with_reducible refine gate_callee (f := 14) rfl ?_); refine goesL_ (some 97) rfl rfl Tryz.func14 (by kernel_rfl) rfl #[.slice A65 (l0.drop 1).length (c0 - 1)] rfl (by (try simp only [List.map_toArray, List.map_cons, List.map_nil]); first | done | (rw [show (l0.drop 1).length = (l0.length - 1) from List.length_drop] <;> rfl) | rfl | (simp only [List.length_drop, List.length_take]; rfl)) ?_; (with_reducible refine (spec_DocName.calls kj10 _ _ (l0.drop 1) t549 t550 false _ ?side1 ?side2 A44.out).mono ?_); (case side1 => repeat (first | exact (Kd.C_below HR548.out HB.out) | (with_reducible refine Kd.C_alloc ?_ _) | (with_reducible refine Kd.C_drewN ?_ _) | (with_reducible refine Kd.C_drew ?_))); (case side2 => exact HC548.out); rintro e w' ⟨rfl, ⟨nd, rfl⟩⟩; refine ⟨_, rfl, ?_⟩) | ((with_reducible refine gate_callee (f := 15) rfl ?_); refine HW.gz (some 103) rfl rfl Tryz.func15 (by kernel_rfl) rfl #[] rfl ?_; (with_reducible refine (laws_docAwake.calls kj10  true _ A62.out).mono ?_); rintro e w66 ⟨rfl, hb⟩; refine ⟨_, rfl, ?_⟩; have n0_ := Aside0.mk (Kd.R_below (HW.zR HO_5.out) hb); have n1_ := Aside0.mk (below_step HW.zb hb); clear HO_5; clear HB; have HO_5 := n0_; have HB := n1_; clear n0_ n1_; (try clear hb); (try clear hb2); (try clear hk); (try clear hi); have hcv67 := own_string (P := Tryz.prog) Tryz.underlying22 Tryz.underlying5 Tryz.underlying9 (Kd.own_of_R HO_5.out); have hcv68 := Kd.C_string (P := Tryz.prog) (A := A0) (c := c0) Tryz.underlying22 Tryz.underlying5 Tryz.underlying9 (Kd.C_below HR0.out HB.out)))
          go_ret
          exact ⟨by first | rfl | (simp [errW_none, errW_some] <;> rfl) | (simp [*, errW_none, errW_some] <;> rfl), HW.zb⟩
      subst c45
      have H1 : ((laws_docAwake.f kj10).bind fun t553 => (if t553 = true then (if t523 = true then (if 0 < (l0.length : Int) then (if t520 = (wrap64 (rd l0 0)) then (if t521.toList = t549.toList then (if 0 ≤ (wrap64 (1 + t550)) then (if (wrap64 (1 + t550)) ≤ (l0.length : Int) then (some ((strOfNums t522).toList == (strOfNums (l0.drop ((wrap64 (1 + t550)) : Int).toNat)).toList)) else (none)) else (none)) else (none)) else (none)) else (none)) else (none)) else (none))) = some r := by rw [if_pos rfl] at H; exact H
      clear H
      have H := H1
      clear H1
      replace H := Option.bind_eq_some_iff.mp H
      obtain ⟨t553, A460, H⟩ := H
      replace H : (if t553 = true then (if t523 = true then (if 0 < (l0.length : Int) then (if t520 = (wrap64 (rd l0 0)) then (if t521.toList = t549.toList then (if 0 ≤ (wrap64 (1 + t550)) then (if (wrap64 (1 + t550)) ≤ (l0.length : Int) then (some ((strOfNums t522).toList == (strOfNums (l0.drop ((wrap64 (1 + t550)) : Int).toNat)).toList)) else (none)) else (none)) else (none)) else (none)) else (none)) else (none)) else (none)) = some r := H
      have A46 := Aside0.mk A460
      clear A460
      by_cases c47 : t553 = true
      rotate_left
      · replace c47 := Bool.eq_false_iff.mpr c47
        subst c47
        have H1 : (none) = some r := by rw [if_neg (show ¬ (false = true) by decide)] at H; exact H
        clear H
        have H := H1
        clear H1
        exact absurd H (by simp)
      subst c47
      have H1 : (if t523 = true then (if 0 < (l0.length : Int) then (if t520 = (wrap64 (rd l0 0)) then (if t521.toList = t549.toList then (if 0 ≤ (wrap64 (1 + t550)) then (if (wrap64 (1 + t550)) ≤ (l0.length : Int) then (some ((strOfNums t522).toList == (strOfNums (l0.drop ((wrap64 (1 + t550)) : Int).toNat)).toList)) else (none)) else (none)) else (none)) else (none)) else (none)) else (none)) = some r := by rw [if_pos rfl] at H; exact H
      clear H
      have H := H1
      clear H1
      by_cases c48 : t523 = true
      rotate_left
      · replace c48 := Bool.eq_false_iff.mpr c48
        subst c48
        have H1 : (none) = some r := by rw [if_neg (show ¬ (false = true) by decide)] at H; exact H
        clear H
        have H := H1
        clear H1
        exact absurd H (by simp)
      subst c48
      have H1 : (if 0 < (l0.length : Int) then (if t520 = (wrap64 (rd l0 0)) then (if t521.toList = t549.toList then (if 0 ≤ (wrap64 (1 + t550)) then (if (wrap64 (1 + t550)) ≤ (l0.length : Int) then (some ((strOfNums t522).toList == (strOfNums (l0.drop ((wrap64 (1 + t550)) : Int).toNat)).toList)) else (none)) else (none)) else (none)) else (none)) else (none)) = some r := by rw [if_pos rfl] at H; exact H
      clear H
      have H := H1
      clear H1
      by_cases c49 : 0 < (l0.length : Int)
      rotate_left
      · rw [if_neg c49] at H
        exact absurd H (by simp)
      rw [if_pos c49] at H
      have c49b0 : decide (0 < (l0.length : Int)) = true := decide_eq_true c49
      have c49b1 : decide (0 < l0.length) = true := decide_eq_true (by omega)
      clear c49
      by_cases c50 : t520 = (wrap64 (rd l0 0))
      rotate_left
      · rw [if_neg c50] at H
        exact absurd H (by simp)
      rw [if_pos c50] at H
      have c50b0 : (t520 == (wrap64 (rd l0 0))) = true := beq_iff_eq.mpr c50
      have c50b1 : (t520 != (wrap64 (rd l0 0))) = false := bne_eq_false_iff_eq.mpr c50
      clear c50
      by_cases c51 : t521.toList = t549.toList
      rotate_left
      · rw [if_neg c51] at H
        exact absurd H (by simp)
      rw [if_pos c51] at H
      have c51b0 : (t521.toList == t549.toList) = true := beq_iff_eq.mpr c51
      have c51b1 : (t521.toList != t549.toList) = false := bne_eq_false_iff_eq.mpr c51
      clear c51
      obtain ⟨ji52, hji52⟩ : ∃ j_ : Int, (wrap64 (1 + t550)) = j_ := ⟨_, rfl⟩
      replace H : (if 0 ≤ (ji52) then (if (ji52) ≤ (l0.length : Int) then (some ((strOfNums t522).toList == (strOfNums (l0.drop ((ji52) : Int).toNat)).toList)) else (none)) else (none)) = some r := by first | (rw [hji52] at H; exact H) | (simp only [hji52] at H ⊢; exact H)
      (try rw [hji52] at A44)
      (try rw [hji52] at A46)
      have hji52w : (IntKind.i64.wrap (1 + t550)) = ji52 := (i64_w _).trans hji52
      by_cases c53 : 0 ≤ (ji52)
      rotate_left
      · rw [if_neg c53] at H
        exact absurd H (by simp)
      rw [if_pos c53] at H
      have c53b0 := eq_true c53
      have c53b1 : decide (0 ≤ (ji52)) = true := decide_eq_true c53
      clear c53
      by_cases c54 : (ji52) ≤ (l0.length : Int)
      rotate_left
      · rw [if_neg c54] at H
        exact absurd H (by simp)
      rw [if_pos c54] at H
      have c54b0 := eq_true c54
      have c54b1 : decide ((ji52) ≤ (l0.length : Int)) = true := decide_eq_true c54
      clear c54
      as_aux_lemma =>
        obtain rfl := Option.some.inj H
        obtain ⟨i055, hi055, _, hsz55, _⟩ := info_parts info5
        obtain ⟨A55, hcut55, hA55, hC55⟩ := print_drop_of (P := Tryz.prog) (Value.int .u8) 0 22 5 .i64 Tryz.underlying22 hi055 hsz55 A0 c0 l0 1 (by omega) (of_decide_eq_true (by first | (with_reducible assumption) | assumption)) HC0.out
        have HR548 := Aside0.mk (Kd.C_of_reads (h1 := fun _ => rfl) (hA55 _ (Kd.reads_of_C HR0.out)))
        have HC548 := Aside0.mk hC55
        clear hA55 hC55 hi055 hsz55
        try go_wp2_with (first | ((with_reducible refine gate_callee (f := 14) rfl ?_); refine goesL_ (some 97) rfl rfl Tryz.func14 (by kernel_rfl) rfl #[.slice A55 (l0.drop 1).length (c0 - 1)] rfl (by (try simp only [List.map_toArray, List.map_cons, List.map_nil]); first | done | (rw [show (l0.drop 1).length = (l0.length - 1) from List.length_drop] <;> rfl) | rfl | (simp only [List.length_drop, List.length_take]; rfl)) ?_; (with_reducible refine (spec_DocName.calls kj10 _ _ (l0.drop 1) t549 t550 true _ ?side1 ?side2 A44.out).mono ?_); (case side1 => repeat (first | exact (Kd.C_below HR548.out HB.out) | (with_reducible refine Kd.C_alloc ?_ _) | (with_reducible refine Kd.C_drewN ?_ _) | (with_reducible refine Kd.C_drew ?_))); (case side2 => exact HC548.out); rintro e w' ⟨rfl, ⟨nd, rfl⟩⟩; refine ⟨_, rfl, ?_⟩))
        (try (rw [drewN_self wc]; generalize hq_ : World.drewN wc _ = wc; have n0_ : Aside0 (Kd.R (Kd.int .u8) 5 wc w.heap.size (fun _ => True) v524 t522) := ⟨by rw [← hq_]; exact (HW.zR HO_5.out)⟩; have n1_ : Aside0 (Below w.heap.size w wc) := ⟨by rw [← hq_]; exact HW.zb⟩; clear HO_5 HB hq_; have HO_5 := n0_; have HB := n1_; clear n0_ n1_))
        have n0_ := Aside0.mk (Kd.R_drew HO_5.out)
        have n1_ := Aside0.mk (below_drew1 HB.out)
        clear HO_5
        clear HB
        have HO_5 := n0_
        have HB := n1_
        clear n0_ n1_
        have p554 : 0 ≤ (0 : Int) := (by omega)
        have q554 : 0 < (l0.length : Int) := of_decide_eq_true (by first | (with_reducible assumption) | assumption)
        obtain ⟨ad554, e554, hx554_0⟩ := Kd.at_int HR0.out 0 p554 q554
        have hw554_0 := hx554_0
        (try rw [show ((0 : Int)).toNat = 0 from rfl] at hw554_0)
        (try rw [show 0 * 1 = 0 from rfl] at hw554_0)
        (try rw [Addr.add_zero'] at hw554_0)
        cases e554
        have qi554 : (0 < l0.length) = True := eq_true (by omega)
        (try rw [show ((0 : Int)).toNat = 0 from rfl] at hx554_0)
        (try rw [Addr.add_zero'] at hx554_0)
        replace hx554_0 := (HB.out.cell (World.block_lt_of_cell? w _ hx554_0)).trans hx554_0
        replace p554 := eq_true p554
        replace q554 := eq_true q554
        obtain ⟨i058, hi058, _, hsz58, _⟩ := info_parts info5
        obtain ⟨A58, hcut58, hA58, hC58⟩ := print_drop_of (P := Tryz.prog) (Value.int .u8) 0 22 5 .i64 Tryz.underlying22 hi058 hsz58 (some ad554) c0 l0 (ji52) (of_decide_eq_true (by first | (with_reducible assumption) | assumption)) (of_decide_eq_true (by first | (with_reducible assumption) | assumption)) HC0.out
        have HR555 := Aside0.mk (Kd.C_of_reads (h1 := fun _ => rfl) (hA58 _ (Kd.reads_of_C HR0.out)))
        have HC555 := Aside0.mk hC58
        clear hA58 hC58 hi058 hsz58
        have hcvA := own_string (P := Tryz.prog) Tryz.underlying22 Tryz.underlying5 Tryz.underlying9 (Kd.own_of_R HO_5.out)
        have hcvB := Kd.C_string (P := Tryz.prog) (A := A58) (c := (c0 - (ji52).toNat)) Tryz.underlying22 Tryz.underlying5 Tryz.underlying9 (Kd.C_below HR555.out HB.out)
        refine start_ (n := 28) (S := fun w' => w'.cell? ad554 = some (.int .u8 (rd l0 0)) ∧ Sem.run Tryz.prog (convert 22 9 v524) w' = .ok (.string (strOfNums t522)) w' ∧ Sem.run Tryz.prog (convert 22 9 (.slice A58 (l0.length - ji52.toNat) (c0 - ji52.toNat))) w' = .ok (.string (strOfNums (l0.drop ji52.toNat))) w') (ds := []) #[false, false, false, false, false, false, false, false, false, false, false, false, false, false, false, false, false, false, false, false, false, false, false, false, false, false, false, false] (by kernel_rfl) rfl rfl ⟨(((HB.out.cell (World.block_lt_of_cell? w _ hw554_0)).trans hw554_0)), hcvA, (by rw [List.length_drop] at hcvB; exact hcvB)⟩ (fun hHeld => ?_); refine with_tabW laws_FnDocAnyHeader.tab16 laws_FnDocAnyHeader.bits16 (fun HT_ HW_ => ?_)
        clear hcvA hcvB
        generalize wc.drew = w56 at HO_5 HB hx554_0 hHeld ⊢
        refine one_ (i := 0) (N := some 115) #[true, false, false, false, false, false, false, false, false, false, false, false, false, false, false, false, false, false, false, false, false, false, false, false, false, false, false, false] rfl rfl (one_of HT_.out (by kernel_rfl)) (by decide) (fun K hK => ?_)
        refine goes_ Tryz.func15 (by kernel_rfl) rfl #[] (by rfl) rfl rfl (by (try simp only [List.map_toArray, List.map_cons, List.map_nil]); first | done | rfl | (simp only [List.length_drop, List.length_take]; rfl)) ?_
        with_reducible refine (laws_docAwake.calls kj10  true _ A46.out).mono ?_
        rintro e w57 ⟨rfl, hb⟩
        refine ⟨_, rfl, ?_⟩
        have n0_ := Aside0.mk (Kd.R_below (HW.zR HO_5.out) hb)
        have n1_ := Aside0.mk (below_step HW.zb hb)
        clear HO_5
        clear HB
        have HO_5 := n0_
        have HB := n1_
        clear n0_ n1_
        (try clear hb)
        (try clear hb2)
        (try clear hk)
        (try clear hi)
        have hcv59 := own_string (P := Tryz.prog) Tryz.underlying22 Tryz.underlying5 Tryz.underlying9 (Kd.own_of_R HO_5.out)
        have hcv60 := Kd.C_string (P := Tryz.prog) (A := A58) (c := (c0 - (ji52).toNat)) Tryz.underlying22 Tryz.underlying5 Tryz.underlying9 (Kd.C_below HR555.out HB.out)
        refine hK.out _ _ ⟨(((HB.out.cell (World.block_lt_of_cell? w _ hw554_0)).trans hw554_0)), hcv59, (by rw [List.length_drop] at hcv60; exact hcv60)⟩ (fun hHeld => ?_)
        clear hK K
        refine HW.nz (N := (some 115)) ?_
        refine HW.pz (i := 1) (N := some 116) #[true, true, false, false, false, false, false, false, false, false, false, false, false, false, false, false, false, false, false, false, false, false, false, false, false, false, false, false] ?_ (hc := any_of HT_.out (by kernel_rfl))
        refine HW.pz (i := 2) (N := some 117) #[true, true, true, false, false, false, false, false, false, false, false, false, false, false, false, false, false, false, false, false, false, false, false, false, false, false, false, false] ?_ (hc := any_of HT_.out (by kernel_rfl))
        refine HW.pz (i := 3) (N := some 118) #[true, true, true, true, false, false, false, false, false, false, false, false, false, false, false, false, false, false, false, false, false, false, false, false, false, false, false, false] ?_ (hc := any_of HT_.out (by kernel_rfl))
        refine HW.pz (i := 4) (N := some 119) #[true, true, true, true, true, false, false, false, false, false, false, false, false, false, false, false, false, false, false, false, false, false, false, false, false, false, false, false] ?_ (hc := any_of HT_.out (by kernel_rfl))
        refine HW.pz (i := 5) (N := some 120) #[true, true, true, true, true, true, false, false, false, false, false, false, false, false, false, false, false, false, false, false, false, false, false, false, false, false, false, false] ?_ (hc := any_of HT_.out (by kernel_rfl))
        refine HW.pz (i := 6) (N := some 121) #[true, true, true, true, true, true, true, false, false, false, false, false, false, false, false, false, false, false, false, false, false, false, false, false, false, false, false, false] ?_ (hc := any_of HT_.out (by kernel_rfl))
        refine HW.pz (i := 7) (N := some 122) #[true, true, true, true, true, true, true, true, false, false, false, false, false, false, false, false, false, false, false, false, false, false, false, false, false, false, false, false] ?_ (hc := any_of HT_.out (by kernel_rfl))
        refine take_ (i := 8) (N := some 123) (v := ?_) (a' := ?_) #[true, true, true, true, true, true, true, true, true, false, false, false, false, false, false, false, false, false, false, false, false, false, false, false, false, false, false, false] rfl rfl (take_ofW HT_.out HW_.out (by kernel_rfl)) (fun _ _ _ h => h) (Or.inl ⟨by rfl, ?_⟩) hHeld ?_ ?_
        rotate_left
        · rintro w' ⟨s0, s1, s2⟩
          go_simp
          with_reducible rfl
        rotate_left
        · simp only [Act.put, List.setIfInBounds_toArray, List.set_cons_zero, List.set_cons_succ, i64_w, i32_w]
          rfl
        refine HW.pz (i := 9) (N := some 124) #[true, true, true, true, true, true, true, true, true, true, false, false, false, false, false, false, false, false, false, false, false, false, false, false, false, false, false, false] ?_ (hc := any_of HT_.out (by kernel_rfl))
        refine HW.pz (i := 10) (N := some 125) #[true, true, true, true, true, true, true, true, true, true, true, false, false, false, false, false, false, false, false, false, false, false, false, false, false, false, false, false] ?_ (hc := any_of HT_.out (by kernel_rfl))
        refine HW.pz (i := 11) (N := some 126) #[true, true, true, true, true, true, true, true, true, true, true, true, false, false, false, false, false, false, false, false, false, false, false, false, false, false, false, false] ?_ (hc := any_of HT_.out (by kernel_rfl))
        refine HW.pz (i := 12) (N := some 127) #[true, true, true, true, true, true, true, true, true, true, true, true, true, false, false, false, false, false, false, false, false, false, false, false, false, false, false, false] ?_ (hc := any_of HT_.out (by kernel_rfl))
        refine HW.pz (i := 13) (N := some 128) #[true, true, true, true, true, true, true, true, true, true, true, true, true, true, false, false, false, false, false, false, false, false, false, false, false, false, false, false] ?_ (hc := any_of HT_.out (by kernel_rfl))
        refine HW.pz (i := 14) (N := some 129) #[true, true, true, true, true, true, true, true, true, true, true, true, true, true, true, false, false, false, false, false, false, false, false, false, false, false, false, false] ?_ (hc := any_of HT_.out (by kernel_rfl))
        refine HW.pz (i := 15) (N := some 130) #[true, true, true, true, true, true, true, true, true, true, true, true, true, true, true, true, false, false, false, false, false, false, false, false, false, false, false, false] ?_ (hc := any_of HT_.out (by kernel_rfl))
        refine HW.pz (i := 16) (N := some 131) #[true, true, true, true, true, true, true, true, true, true, true, true, true, true, true, true, true, false, false, false, false, false, false, false, false, false, false, false] ?_ (hc := any_of HT_.out (by kernel_rfl))
        refine HW.pz (i := 17) (N := some 132) #[true, true, true, true, true, true, true, true, true, true, true, true, true, true, true, true, true, true, false, false, false, false, false, false, false, false, false, false] ?_ (hc := any_of HT_.out (by kernel_rfl))
        refine HW.pz (i := 18) (N := some 133) #[true, true, true, true, true, true, true, true, true, true, true, true, true, true, true, true, true, true, true, false, false, false, false, false, false, false, false, false] ?_ (hc := any_of HT_.out (by kernel_rfl))
        refine take_ (i := 19) (N := some 134) (v := ?_) (a' := ?_) #[true, true, true, true, true, true, true, true, true, true, true, true, true, true, true, true, true, true, true, true, false, false, false, false, false, false, false, false] rfl rfl (take_ofW HT_.out HW_.out (by kernel_rfl)) (fun _ _ _ h => h) (Or.inl ⟨by rfl, ?_⟩) hHeld ?_ ?_
        rotate_left
        · rintro w' ⟨s0, s1, s2⟩
          go_simp
          with_reducible rfl
        rotate_left
        · simp only [Act.put, List.setIfInBounds_toArray, List.set_cons_zero, List.set_cons_succ, i64_w, i32_w]
          rfl
        refine HW.pz (i := 20) (N := some 135) #[true, true, true, true, true, true, true, true, true, true, true, true, true, true, true, true, true, true, true, true, true, false, false, false, false, false, false, false] ?_ (hc := any_of HT_.out (by kernel_rfl))
        refine HW.pz (i := 21) (N := some 136) #[true, true, true, true, true, true, true, true, true, true, true, true, true, true, true, true, true, true, true, true, true, true, false, false, false, false, false, false] ?_ (hc := any_of HT_.out (by kernel_rfl))
        refine HW.pz (i := 22) (N := some 137) #[true, true, true, true, true, true, true, true, true, true, true, true, true, true, true, true, true, true, true, true, true, true, true, false, false, false, false, false] ?_ (hc := any_of HT_.out (by kernel_rfl))
        refine HW.pz (i := 23) (N := some 138) #[true, true, true, true, true, true, true, true, true, true, true, true, true, true, true, true, true, true, true, true, true, true, true, true, false, false, false, false] ?_ (hc := any_of HT_.out (by kernel_rfl))
        refine take_ (i := 24) (N := some 139) (v := ?_) (a' := ?_) #[true, true, true, true, true, true, true, true, true, true, true, true, true, true, true, true, true, true, true, true, true, true, true, true, true, false, false, false] rfl rfl (take_ofW HT_.out HW_.out (by kernel_rfl)) (fun _ _ _ h => h) (Or.inl ⟨by rfl, ?_⟩) hHeld ?_ ?_
        rotate_left
        · rintro w' ⟨s0, s1, s2⟩
          go_simp
          with_reducible rfl
        rotate_left
        · simp only [Act.put, List.setIfInBounds_toArray, List.set_cons_zero, List.set_cons_succ, i64_w, i32_w]
          rfl
        refine HW.pz (i := 25) (N := some 140) #[true, true, true, true, true, true, true, true, true, true, true, true, true, true, true, true, true, true, true, true, true, true, true, true, true, true, false, false] ?_ (hc := any_of HT_.out (by kernel_rfl))
        refine HW.pz (i := 26) (N := some 141) #[true, true, true, true, true, true, true, true, true, true, true, true, true, true, true, true, true, true, true, true, true, true, true, true, true, true, true, false] ?_ (hc := any_of HT_.out (by kernel_rfl))
        refine HW.pz (i := 27) (N := some 2) #[true, true, true, true, true, true, true, true, true, true, true, true, true, true, true, true, true, true, true, true, true, true, true, true, true, true, true, true] ?_ (hc := any_of HT_.out (by kernel_rfl))
        refine done_ (done_of HT_.out (by kernel_rfl)) ?_
        try go_wp2
        go_ret
        exact ⟨by first | rfl | (simp [errW_none, errW_some] <;> rfl) | (simp only [← hji52]; first | rfl | (simp [errW_none, errW_some] <;> rfl)) | (simp [*, errW_none, errW_some] <;> rfl), HW.zb⟩

end Go.Proofs.YtanecebppagakaaGreatDoor.PAh
