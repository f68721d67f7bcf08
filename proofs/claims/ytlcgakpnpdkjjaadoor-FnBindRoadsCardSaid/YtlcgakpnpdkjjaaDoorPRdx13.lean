/- Printed by a program of this session (a turned copy of the printer of the kit): contracts of functions of the translation, each with the Lean function that it computes. Conditions: as each theorem states them. -/
import Derived.Test.YtlcgakpnpdkjjaaDoorPRdx0
import Derived.Test.YtlcgakpnpdkjjaaDoorPRdx8
import Derived.Test.YtlcgakpnpdkjjaaDoorPRdx10
import Derived.Test.YtlcgakpnpdkjjaaDoorPRdx11
import Derived.Test.YtlcgakpnpdkjjaaDoorPRdx12
namespace Go.Proofs.YtlcgakpnpdkjjaaDoor.PRd
open Go.RowKit Go.Proofs.YtlcgakpnpdkjjaaDoorW.PrintWords Go.Proofs.YtlcgakpnpdkjjaaDoorW.PrintLast Go.Proofs.YtlcgakpnpdkjjaaDoorW.PrintMore
attribute [local go_sem] max2_int min2_int max_two min_two max_three min_three max_four min_four   -- for this text's walks alone
set_option linter.unusedVariables false
set_option linter.unusedSimpArgs false

/-! ### bsoncore_Element_Validate: function 53 -/
def bsoncore_Element_Validate.f (k : Nat) (l0 : List Int) : Option (Option Int) := if (l0.length : Int) < 1 then (none) else (if 1 ≤ (l0.length : Int) then ((bytes_IndexByte.f (l0.drop 1) 0).bind fun t654 => (if t654 = (-1) then (none) else (if 0 < (l0.length : Int) then (if 0 ≤ (wrap64 (t654 + 2)) then (if (wrap64 (t654 + 2)) ≤ (l0.length : Int) then ((bsoncore_Value_Validate.f k (rd l0 0) (l0.drop ((wrap64 (t654 + 2)) : Int).toNat)).bind fun t657 => (some t657)) else (none)) else (none)) else (none)))) else (none))
theorem bsoncore_Element_Validate.mono : ∀ a0 k, LeO (bsoncore_Element_Validate.f k a0) (bsoncore_Element_Validate.f (k + 1) a0) := by
  intro a0 k
  unfold bsoncore_Element_Validate.f
  repeat' first
      | (with_reducible exact bsoncore_Value_Validate.mono _ _ _)
      | (with_reducible exact LeO.refl _)
      | (with_reducible exact LeO.none _)
      | (with_reducible refine LeO.ite ?_ ?_)
      | (with_reducible refine LeO.bind ?_ (fun _ => ?_))
      | exact bsoncore_Value_Validate.mono _ _ _
      | exact LeO.none _
      | refine LeO.ite ?_ ?_
      | refine LeO.bind ?_ (fun _ => ?_)
def bsoncore_Element_Validate.T6 : Bool × List (List Nat × List Nat) := (true, [([], []), ([0], [0]), ([1], [1]), ([], []), ([], []), ([4], [4]), ([3, 5], [3, 5]), ([2, 6], [2, 6]), ([7], [7]), ([8, 8, 0, 1, 2, 3, 4, 5, 6, 7, 8], [8])])
def bsoncore_Element_Validate.B6 : List Nat := [0, 1, 3, 0, 0, 16, 56, 127, 255, 511]
theorem bsoncore_Element_Validate.tab6 : rtab .any (opsOf Tryd.f53 6) = bsoncore_Element_Validate.T6 := by kernel_rfl
theorem bsoncore_Element_Validate.bits6 : waitsOk bsoncore_Element_Validate.T6.2 bsoncore_Element_Validate.B6 = true := by kernel_rfl
set_option maxHeartbeats 8000000 in
set_option maxRecDepth 100000 in
theorem bsoncore_Element_Validate.calls (k : Nat) (A0 : Option Addr) (c0 : Nat) (l0 : List Int) (r : Option Int) (w : World) (hr0 : Kd.C (Kd.int .u8) w A0 l0.length l0) (hc0 : l0.length ≤ c0) (h : bsoncore_Element_Validate.f k l0 = some r) :
    Calls Tryd.prog 53 #[.slice A0 l0.length c0] w fun e w' => e = .returned (errW r) ∧ Below w.heap.size w w' := by
  have hu77 := Tryd.underlying77
  have hu56 := Tryd.underlying56
  have HR0 := Aside0.mk hr0
  have HC0 := Aside0.mk hc0
  clear hr0 hc0
  have HB := Aside0.mk (Below.refl w.heap.size w)
  have H : (if (l0.length : Int) < 1 then (none) else (if 1 ≤ (l0.length : Int) then ((bytes_IndexByte.f (l0.drop 1) 0).bind fun t654 => (if t654 = (-1) then (none) else (if 0 < (l0.length : Int) then (if 0 ≤ (wrap64 (t654 + 2)) then (if (wrap64 (t654 + 2)) ≤ (l0.length : Int) then ((bsoncore_Value_Validate.f k (rd l0 0) (l0.drop ((wrap64 (t654 + 2)) : Int).toNat)).bind fun t657 => (some t657)) else (none)) else (none)) else (none)))) else (none))) = some r := h
  clear h
  by_cases c2 : (l0.length : Int) < 1
  · rw [if_pos c2] at H
    exact absurd H (by simp)
  rw [if_neg c2] at H
  have c2b0 : decide ((l0.length : Int) < 1) = false := decide_eq_false c2
  have c2b1 : decide (l0.length < 1) = false := decide_eq_false (by omega)
  clear c2
  by_cases c3 : 1 ≤ (l0.length : Int)
  rotate_left
  · rw [if_neg c3] at H
    exact absurd H (by simp)
  rw [if_pos c3] at H
  have c3b0 := eq_true c3
  have c3b1 : decide (1 ≤ (l0.length : Int)) = true := decide_eq_true c3
  clear c3
  replace H := Option.bind_eq_some_iff.mp H
  obtain ⟨t654, A40, H⟩ := H
  replace H : (if t654 = (-1) then (none) else (if 0 < (l0.length : Int) then (if 0 ≤ (wrap64 (t654 + 2)) then (if (wrap64 (t654 + 2)) ≤ (l0.length : Int) then ((bsoncore_Value_Validate.f k (rd l0 0) (l0.drop ((wrap64 (t654 + 2)) : Int).toNat)).bind fun t657 => (some t657)) else (none)) else (none)) else (none))) = some r := H
  have A4 := Aside0.mk A40
  clear A40
  by_cases c5 : t654 = (-1)
  · rw [if_pos c5] at H
    exact absurd H (by simp)
  rw [if_neg c5] at H
  have c5b0 : (t654 == (-1)) = false := beq_eq_false_iff_ne.mpr c5
  have c5b1 : (t654 != (-1)) = true := bne_iff_ne.mpr c5
  by_cases c6 : 0 < (l0.length : Int)
  rotate_left
  · rw [if_neg c6] at H
    exact absurd H (by simp)
  rw [if_pos c6] at H
  have c6b0 : decide (0 < (l0.length : Int)) = true := decide_eq_true c6
  have c6b1 : decide (0 < l0.length) = true := decide_eq_true (by omega)
  clear c6
  obtain ⟨ji7, hji7⟩ : ∃ j_ : Int, (wrap64 (t654 + 2)) = j_ := ⟨_, rfl⟩
  replace H : (if 0 ≤ (ji7) then (if (ji7) ≤ (l0.length : Int) then ((bsoncore_Value_Validate.f k (rd l0 0) (l0.drop ((ji7) : Int).toNat)).bind fun t657 => (some t657)) else (none)) else (none)) = some r := by first | (rw [hji7] at H; exact H) | (simp only [hji7] at H ⊢; exact H)
  (try rw [hji7] at A4)
  have hji7w : (IntKind.i64.wrap (t654 + 2)) = ji7 := (i64_w _).trans hji7
  by_cases c8 : 0 ≤ (ji7)
  rotate_left
  · rw [if_neg c8] at H
    exact absurd H (by simp)
  rw [if_pos c8] at H
  have c8b0 := eq_true c8
  have c8b1 : decide (0 ≤ (ji7)) = true := decide_eq_true c8
  clear c8
  by_cases c9 : (ji7) ≤ (l0.length : Int)
  rotate_left
  · rw [if_neg c9] at H
    exact absurd H (by simp)
  rw [if_pos c9] at H
  have c9b0 := eq_true c9
  have c9b1 : decide ((ji7) ≤ (l0.length : Int)) = true := decide_eq_true c9
  clear c9
  replace H := Option.bind_eq_some_iff.mp H
  obtain ⟨t657, A100, H⟩ := H
  replace H : (some t657) = some r := H
  have A10 := Aside0.mk A100
  clear A100
  as_aux_lemma =>
    obtain rfl := Option.some.inj H
    obtain ⟨i011, hi011, _, hsz11, _⟩ := info_parts info5
    obtain ⟨A11, hcut11, hA11, hC11⟩ := print_drop_of (P := Tryd.prog) (Value.int .u8) 0 92 5 .i64 Tryd.underlying92 hi011 hsz11 A0 c0 l0 1 (by omega) (of_decide_eq_true (by first | (with_reducible assumption) | assumption)) HC0.out
    have HR653 := Aside0.mk (Kd.C_of_reads (h1 := fun _ => rfl) (hA11 _ (Kd.reads_of_C HR0.out)))
    have HC653 := Aside0.mk hC11
    clear hA11 hC11 hi011 hsz11
    go_enter Tryd.func53, Tryd.ntmps53
    try go_wp2_with (first | ((with_reducible refine gate_callee (f := 55) rfl ?_); refine goesL_ (some 10) rfl rfl Tryd.func55 (by kernel_rfl) rfl #[.slice A11 (l0.drop 1).length (c0 - 1), .int .u8 0] rfl (by (try simp only [List.map_toArray, List.map_cons, List.map_nil]); first | done | (rw [show (l0.drop 1).length = (l0.length - 1) from List.length_drop] <;> rfl) | rfl | (simp only [List.length_drop, List.length_take]; rfl)) ?_; (with_reducible refine (bytes_IndexByte.calls _ _ (l0.drop 1) 0 t654 _ ?side1 ?side2 A4.out).mono ?_); (case side1 => repeat (first | exact HR653.out | (with_reducible refine Kd.C_alloc ?_ _) | (with_reducible refine Kd.C_drewN ?_ _) | (with_reducible refine Kd.C_drew ?_))); (case side2 => exact HC653.out); rintro e w' ⟨rfl, ⟨nd, rfl⟩⟩; refine ⟨_, rfl, ?_⟩))
    have n0_ := Aside0.mk (below_drew1 (pw_below_drewN HB.out nd))
    clear HB
    have HB := n0_
    clear n0_
    have p655 : 0 ≤ (0 : Int) := (by omega)
    have q655 : 0 < (l0.length : Int) := of_decide_eq_true (by first | (with_reducible assumption) | assumption)
    obtain ⟨ad655, e655, hx655_0⟩ := Kd.at_int HR0.out 0 p655 q655
    have hw655_0 := hx655_0
    (try rw [show ((0 : Int)).toNat = 0 from rfl] at hw655_0)
    (try rw [show 0 * 1 = 0 from rfl] at hw655_0)
    (try rw [Addr.add_zero'] at hw655_0)
    cases e655
    have qi655 : (0 < l0.length) = True := eq_true (by omega)
    (try rw [show ((0 : Int)).toNat = 0 from rfl] at hx655_0)
    (try rw [Addr.add_zero'] at hx655_0)
    replace hx655_0 := (HB.out.cell (World.block_lt_of_cell? w _ hx655_0)).trans hx655_0
    replace p655 := eq_true p655
    replace q655 := eq_true q655
    obtain ⟨i013, hi013, _, hsz13, _⟩ := info_parts info5
    obtain ⟨A13, hcut13, hA13, hC13⟩ := print_drop_of (P := Tryd.prog) (Value.int .u8) 0 92 5 .i64 Tryd.underlying92 hi013 hsz13 (some ad655) c0 l0 (ji7) (of_decide_eq_true (by first | (with_reducible assumption) | assumption)) (of_decide_eq_true (by first | (with_reducible assumption) | assumption)) HC0.out
    have HR656 := Aside0.mk (Kd.C_of_reads (h1 := fun _ => rfl) (hA13 _ (Kd.reads_of_C HR0.out)))
    have HC656 := Aside0.mk hC13
    clear hA13 hC13 hi013 hsz13
    refine start_ (n := 10) (S := fun w' => w'.cell? ad655 = some (.int .u8 (rd l0 0))) (ds := []) #[false, false, false, false, false, false, false, false, false, false] (by kernel_rfl) rfl rfl (((HB.out.cell (World.block_lt_of_cell? w _ hw655_0)).trans hw655_0)) (fun hHeld => ?_); refine with_tabW bsoncore_Element_Validate.tab6 bsoncore_Element_Validate.bits6 (fun HT_ HW_ => ?_)
    generalize (w.drewN nd).drew = w12 at HB HR656 hx655_0 hHeld ⊢
    refine HW.pz (i := 0) (N := some 14) #[true, false, false, false, false, false, false, false, false, false] ?_ (hc := any_of HT_.out (by kernel_rfl))
    refine HW.pz (i := 1) (N := some 15) #[true, true, false, false, false, false, false, false, false, false] ?_ (hc := any_of HT_.out (by kernel_rfl))
    refine HW.pz (i := 3) (N := some 17) #[true, true, false, true, false, false, false, false, false, false] ?_ (hc := any_of HT_.out (by kernel_rfl))
    refine HW.pz (i := 4) (N := some 18) #[true, true, false, true, true, false, false, false, false, false] ?_ (hc := any_of HT_.out (by kernel_rfl))
    refine HW.pz (i := 5) (N := some 19) #[true, true, false, true, true, true, false, false, false, false] ?_ (hc := any_of HT_.out (by kernel_rfl))
    refine HW.pz (i := 6) (N := some 20) #[true, true, false, true, true, true, true, false, false, false] ?_ (hc := any_of HT_.out (by kernel_rfl))
    refine take_ (i := 2) (N := some 16) (v := ?_) (a' := ?_) #[true, true, true, true, true, true, true, false, false, false] rfl rfl (take_ofW HT_.out HW_.out (by kernel_rfl)) (fun _ _ _ h => h) (Or.inl ⟨by rfl, ?_⟩) hHeld ?_ ?_
    rotate_left
    · intro w' s0
      go_simp
      with_reducible rfl
    rotate_left
    · simp only [Act.put, List.setIfInBounds_toArray, List.set_cons_zero, List.set_cons_succ, i64_w, i32_w]
      rfl
    refine HW.pz (i := 7) (N := some 21) #[true, true, true, true, true, true, true, true, false, false] ?_ (hc := any_of HT_.out (by kernel_rfl))
    refine one_ (i := 8) (N := some 22) #[true, true, true, true, true, true, true, true, true, false] rfl rfl (one_of HT_.out (by kernel_rfl)) (by decide) (fun K hK => ?_)
    refine goes_ Tryd.func61 (by kernel_rfl) rfl #[.agg #[.int .u8 (rd l0 0), .slice A13 (l0.drop ((ji7) : Int).toNat).length (c0 - (ji7).toNat)]] (by rfl) rfl rfl (by (try simp only [List.map_toArray, List.map_cons, List.map_nil]); first | done | (rw [show (l0.drop ((ji7) : Int).toNat).length = (l0.length - (ji7).toNat) from List.length_drop] <;> rfl) | (simp only [hji7]; rfl) | rfl | (simp only [List.length_drop, List.length_take]; rfl)) ?_
    with_reducible refine (bsoncore_Value_Validate.calls k (rd l0 0) _ _ (l0.drop ((ji7) : Int).toNat) t657 _ ?side1 ?side2 A10.out).mono ?_
    (case side1 => repeat (first | exact (Kd.C_below HR656.out HB.out) | (with_reducible refine Kd.C_alloc ?_ _) | (with_reducible refine Kd.C_drewN ?_ _) | (with_reducible refine Kd.C_drew ?_)))
    (case side2 => exact HC656.out)
    rintro e w14 ⟨rfl, hb⟩
    refine ⟨_, rfl, ?_⟩
    have n0_ := Aside0.mk (below_step HW.zb hb)
    clear HB
    have HB := n0_
    clear n0_
    (try clear hb)
    (try clear hb2)
    (try clear hk)
    (try clear hi)
    (try simp only [errW_none, errW_some])
    refine hK.out _ _ (((HB.out.cell (World.block_lt_of_cell? w _ hw655_0)).trans hw655_0)) (fun hHeld => ?_)
    clear hK K
    refine HW.nz (N := (some 22)) ?_
    refine HW.pz (i := 9) (N := some 2) #[true, true, true, true, true, true, true, true, true, true] ?_ (hc := any_of HT_.out (by kernel_rfl))
    refine done_ (done_of HT_.out (by kernel_rfl)) ?_
    try go_wp2
    go_ret
    exact ⟨by first | rfl | (simp [errW_none, errW_some] <;> rfl) | (simp only [← hji7]; first | rfl | (simp [errW_none, errW_some] <;> rfl)) | (simp [*, errW_none, errW_some] <;> rfl), HW.zb⟩

/-! ### bsoncore_Document_Elements: function 35 -/
def bsoncore_Document_Elements.l0 : Nat → Int → List Int → List (List Int) → Option ((List (List Int)) × Option Int)
  | 0, _, _, _ => none
  | k + 1, x4, x5, x8 => if x4 > 1 then ((bsoncore_ReadElement.f k x5).bind fun bt669 => (if bt669.2.2 = true then ((bsoncore_Element_Validate.f k bt669.1).bind fun t682 => (if t682.isNone = true then (if x8.length < 5864062014805 then (bsoncore_Document_Elements.l0 k (wrap32 (x4 - (wrap32 ((bt669.1.length : Int))))) bt669.2.1 (x8 ++ [bt669.1])) else (none)) else (none))) else (none))) else (some (x8, none))
def bsoncore_Document_Elements.f (k : Nat) (l0 : List Int) : Option ((List (List Int)) × Option Int) := (bsoncore_ReadLength.f l0).bind fun bt658 => (if bt658.2.2 = true then (bsoncore_Document_Elements.l0 k (wrap32 (bt658.1 - 4)) bt658.2.1 ([] : List (List Int))) else (none))
theorem bsoncore_Document_Elements.mono_l : ∀ k, (∀ y0 y1 y2, LeO (bsoncore_Document_Elements.l0 k y0 y1 y2) (bsoncore_Document_Elements.l0 (k + 1) y0 y1 y2))
  | 0 => fun _ _ _ r h => by simp [bsoncore_Document_Elements.l0] at h
  | k + 1 => by
    have ih0 := bsoncore_Document_Elements.mono_l k
    · intro y0 y1 y2
      unfold bsoncore_Document_Elements.l0
      repeat' first
      | (with_reducible exact ih0 _ _ _)
      | (with_reducible exact bsoncore_Element_Validate.mono _ _)
      | (with_reducible exact bsoncore_ReadElement.mono _ _)
      | (with_reducible exact LeO.refl _)
      | (with_reducible exact LeO.none _)
      | (with_reducible refine LeO.ite ?_ ?_)
      | (with_reducible refine LeO.bind ?_ (fun _ => ?_))
      | exact ih0 _ _ _
      | exact bsoncore_Element_Validate.mono _ _
      | exact bsoncore_ReadElement.mono _ _
      | exact LeO.none _
      | refine LeO.ite ?_ ?_
      | refine LeO.bind ?_ (fun _ => ?_)
theorem bsoncore_Document_Elements.mono : ∀ a0 k, LeO (bsoncore_Document_Elements.f k a0) (bsoncore_Document_Elements.f (k + 1) a0) := by
  intro a0 k
  have ih0 := bsoncore_Document_Elements.mono_l k
  unfold bsoncore_Document_Elements.f
  repeat' first
      | (with_reducible exact ih0 _ _ _)
      | (with_reducible exact bsoncore_Element_Validate.mono _ _)
      | (with_reducible exact bsoncore_ReadElement.mono _ _)
      | (with_reducible exact LeO.refl _)
      | (with_reducible exact LeO.none _)
      | (with_reducible refine LeO.ite ?_ ?_)
      | (with_reducible refine LeO.bind ?_ (fun _ => ?_))
      | exact ih0 _ _ _
      | exact bsoncore_Element_Validate.mono _ _
      | exact bsoncore_ReadElement.mono _ _
      | exact LeO.none _
      | refine LeO.ite ?_ ?_
      | refine LeO.bind ?_ (fun _ => ?_)
set_option maxHeartbeats 8000000 in
set_option maxRecDepth 100000 in
theorem bsoncore_Document_Elements.calls (k : Nat) (P0_ : Nat → Prop) (A0 : Option Addr) (c0 : Nat) (l0 : List Int) (r1 : List (List Int)) (r2 : Option Int) (w : World) (hs0 : Kd.V (Kd.int .u8) 5 w w.heap.size (fun k_ => P0_ k_) (.slice A0 l0.length c0) l0) (h : bsoncore_Document_Elements.f k l0 = some (r1, r2)) :
    Calls Tryd.prog 35 #[.slice A0 l0.length c0] w fun e w' => ∃ v0_ : Value, e = .returned (.tuple #[v0_, errW r2]) ∧ Kd.N (Kd.slice 5 (Kd.int .u8)) 92 w' w.heap.size (fun k_ => (P0_ k_ ∨ w.heap.size ≤ k_)) v0_ r1 ∧ Below w.heap.size w w' := by
  have hu56 := Tryd.underlying56
  have HO0 := Aside0.mk (show Kd.V (Kd.int .u8) 5 w w.heap.size (fun k_ => (P0_ k_ ∨ w.heap.size ≤ k_)) (.slice A0 l0.length c0) l0 from Kd.V_mono hs0 (fun k_ hk => .inl hk))
  have HB := Aside0.mk (Below.refl w.heap.size w)
  have H : ((bsoncore_ReadLength.f l0).bind fun bt658 => (if bt658.2.2 = true then (bsoncore_Document_Elements.l0 k (wrap32 (bt658.1 - 4)) bt658.2.1 ([] : List (List Int))) else (none))) = some (r1, r2) := h
  clear h
  replace H := Option.bind_eq_some_iff.mp H
  obtain ⟨⟨t658, t659, t662⟩, A20, H⟩ := H
  replace H : (if t662 = true then (bsoncore_Document_Elements.l0 k (wrap32 (t658 - 4)) t659 ([] : List (List Int))) else (none)) = some (r1, r2) := H
  have A2 := Aside0.mk A20
  clear A20
  by_cases c3 : t662 = true
  rotate_left
  · replace c3 := Bool.eq_false_iff.mpr c3
    subst c3
    have H1 : (none) = some (r1, r2) := by rw [if_neg (show ¬ (false = true) by decide)] at H; exact H
    clear H
    have H := H1
    clear H1
    exact absurd H (by simp)
  subst c3
  have H1 : (bsoncore_Document_Elements.l0 k (wrap32 (t658 - 4)) t659 ([] : List (List Int))) = some (r1, r2) := by rw [if_pos rfl] at H; exact H
  clear H
  have H := H1
  clear H1
  have H' := Aside0.mk H
  clear H
  go_enter Tryd.func35, Tryd.ntmps35
  go_wp2_with (first | ((with_reducible refine gate_callee (f := 43) rfl ?_); refine HW.gz (some 12) rfl rfl Tryd.func43 (by kernel_rfl) rfl #[.slice A0 l0.length c0] rfl ?_; (with_reducible refine (bsoncore_ReadLength.calls (fun k_ => (P0_ k_ ∨ w.heap.size ≤ k_)) _ _ l0 t658 t659 true _ ?side1 A2.out).mono ?_); (case side1 => exact HO0.out); rintro e w4 ⟨v660, rfl, ho0, hb⟩; refine ⟨_, rfl, ?_⟩; have n1_ := Aside0.mk (Kd.V_lower (Kd.V_mono (ok' := fun k_ => (P0_ k_ ∨ w.heap.size ≤ k_)) ho0 (fun k_ hk_ => Or.elim hk_ (fun hs_ => hs_) (fun hn_ => (.inr (Nat.le_trans (below_size HW.zb) hn_))))) (below_size HW.zb)); have n2_ := Aside0.mk (below_step HW.zb hb); clear HB; have HO661 := n1_; have HB := n2_; clear n1_ n2_; (try clear hb); (try clear hb2); (try clear hk); (try clear hi); (try clear ho0)))
  go_loopg [4, 5, 8] k (fun kq v4 v5 v8 w' => ∃ (x4_1 : Int) (x5_1 : List Int) (x8_1 : List (List Int)), v4 = .int .i32 x4_1 ∧ Aside0 (bsoncore_Document_Elements.l0 kq x4_1 x5_1 x8_1 = some (r1, r2)) ∧ Aside0 (kq ≤ k) ∧ Aside0 (Kd.V (Kd.int .u8) 5 w' w.heap.size (fun k_ => (P0_ k_ ∨ w.heap.size ≤ k_) ∧ some k_ ≠ (v8 : Value).ownBlock) v5 x5_1) ∧ Aside0 (Kd.N (Kd.slice 5 (Kd.int .u8)) 92 w' w.heap.size (fun k_ => (P0_ k_ ∨ w.heap.size ≤ k_)) v8 x8_1) ∧ Aside0 (Below w.heap.size w w'))
  case atStart => exact ⟨(wrap32 (t658 - 4)), (t659), (([] : List (List Int))), (by first | rfl | (simp; done) | (simp [*]; done)), H', ⟨Nat.le_refl _⟩, ⟨by (with_reducible repeat (first | apply Kd.V_alloc | apply Kd.V_drewN | apply Kd.V_drew)); exact Kd.V_mono HO661.out (fun _ hk => ⟨hk, (by simp [Value.ownBlock])⟩)⟩, ⟨by first | exact Kd.S_nil _ _ _ _ _ | exact Kd.N_nil _ _ _ _ _ | exact Kd.V_nil _ _ _ _ _ | exact Kd.Q_nil _ _ _ _ _ | exact Kd.R_nil _ _ _ _ _⟩, ⟨HW.zb⟩⟩
  case round =>
    clear H'
    try clear p2
    try clear c3
    try clear p3
    try clear c4
    obtain ⟨x4_1, x5_1, x8_1, rfl, HA, HK1, HO_5, HO_8, HB⟩ := hrel
    cases gk with
    | zero => exact absurd HA.out (by simp [bsoncore_Document_Elements.l0])
    | succ k1 =>
      have H := HA.out
      clear HA
      simp only [bsoncore_Document_Elements.l0] at H
      by_cases c5 : x4_1 > 1
      rotate_left
      · rw [if_neg c5] at H
        have c5b0 : decide (1 < x4_1) = false := decide_eq_false c5
        clear c5
        as_aux_lemma =>
          simp only [Option.some.injEq, Prod.mk.injEq] at H
          obtain ⟨rfl, rfl⟩ := H
          go_wp2
          go_ret2
          exact ⟨_, by first | rfl | (simp [errW_none, errW_some] <;> rfl) | (simp [*, errW_none, errW_some] <;> rfl), by (with_reducible repeat (first | apply Kd.N_alloc | apply Kd.N_drewN | apply Kd.N_drew)); exact HO_8.out, HW.zb⟩
      rw [if_pos c5] at H
      have c5b0 : decide (1 < x4_1) = true := decide_eq_true c5
      clear c5
      replace H := Option.bind_eq_some_iff.mp H
      obtain ⟨⟨t669, t672, t675⟩, A60, H⟩ := H
      replace H : (if t675 = true then ((bsoncore_Element_Validate.f k1 t669).bind fun t682 => (if t682.isNone = true then (if x8_1.length < 5864062014805 then (bsoncore_Document_Elements.l0 k1 (wrap32 (x4_1 - (wrap32 ((t669.length : Int))))) t672 (x8_1 ++ [t669])) else (none)) else (none))) else (none)) = some (r1, r2) := H
      have A6 := Aside0.mk A60
      clear A60
      by_cases c7 : t675 = true
      rotate_left
      · replace c7 := Bool.eq_false_iff.mpr c7
        subst c7
        have H1 : (none) = some (r1, r2) := by rw [if_neg (show ¬ (false = true) by decide)] at H; exact H
        clear H
        have H := H1
        clear H1
        exact absurd H (by simp)
      subst c7
      have H1 : ((bsoncore_Element_Validate.f k1 t669).bind fun t682 => (if t682.isNone = true then (if x8_1.length < 5864062014805 then (bsoncore_Document_Elements.l0 k1 (wrap32 (x4_1 - (wrap32 ((t669.length : Int))))) t672 (x8_1 ++ [t669])) else (none)) else (none))) = some (r1, r2) := by rw [if_pos rfl] at H; exact H
      clear H
      have H := H1
      clear H1
      replace H := Option.bind_eq_some_iff.mp H
      obtain ⟨t682, A80, H⟩ := H
      replace H : (if t682.isNone = true then (if x8_1.length < 5864062014805 then (bsoncore_Document_Elements.l0 k1 (wrap32 (x4_1 - (wrap32 ((t669.length : Int))))) t672 (x8_1 ++ [t669])) else (none)) else (none)) = some (r1, r2) := H
      have A8 := Aside0.mk A80
      clear A80
      rcases t682 with _ | q683
      rotate_left
      · have H1 : (none) = some (r1, r2) := by rw [if_neg (show ¬ (some q683).isNone = true by simp)] at H; exact H
        clear H
        have H := H1
        clear H1
        try simp only [errW_none, errW_some]
        exact absurd H (by simp)
      have H1 : (if x8_1.length < 5864062014805 then (bsoncore_Document_Elements.l0 k1 (wrap32 (x4_1 - (wrap32 ((t669.length : Int))))) t672 (x8_1 ++ [t669])) else (none)) = some (r1, r2) := by rw [if_pos (show (none : Option Int).isNone = true by rfl)] at H; exact H
      clear H
      have H := H1
      clear H1
      try simp only [errW_none, errW_some]
      by_cases c9 : x8_1.length < 5864062014805
      rotate_left
      · rw [if_neg c9] at H
        exact absurd H (by simp)
      rw [if_pos c9] at H
      have LMc9 := Aside0.mk c9
      clear c9
      obtain ⟨y684, hy684⟩ : ∃ y_ : List (List Int), y_ = (x8_1 ++ [t669]) := ⟨_, rfl⟩
      replace H : (bsoncore_Document_Elements.l0 k1 (wrap32 (x4_1 - (wrap32 ((t669.length : Int))))) t672 y684) = some (r1, r2) := by first | (rw [hy684]; with_reducible exact H) | (have H2_ := (Option.bind_some _ _).symm.trans H; rw [hy684]; with_reducible exact H2_) | (have H2_ := (Option.bind_some _ _).symm.trans H; with_reducible exact H2_) | with_reducible exact H | (rw [hy684]; exact H) | exact H
      have Ny684 := Aside0.mk hy684
      clear hy684
      as_aux_lemma =>
        have H' := Aside0.mk H
        clear H
        obtain ⟨Ao10, co10, eo10⟩ := Kd.V_slice HO_5.out
        subst eo10
        go_wp2_with (first | ((with_reducible refine gate_callee (f := 45) rfl ?_); refine HW.gz (some 28) rfl rfl Tryd.func45 (by kernel_rfl) rfl #[.slice Ao10 x5_1.length co10] rfl ?_; (with_reducible refine (bsoncore_ReadElement.calls k1 (fun k_ => ((P0_ k_ ∨ w.heap.size ≤ k_) ∧ some k_ ≠ (u8 : Value).ownBlock)) _ _ x5_1 t669 t672 true _ ?side1 A6.out).mono ?_); (case side1 => exact HO_5.out); rintro e w11 ⟨v670, v673, rfl, ho0, ho1, hb⟩; refine ⟨_, rfl, ?_⟩; have n1_ := Aside0.mk (Kd.N_below (by (with_reducible repeat (first | apply Kd.N_alloc | apply Kd.N_drewN | apply Kd.N_drew)); exact HO_8.out) hb); have n2_ := Aside0.mk (Kd.V_lower (Kd.V_mono (ok' := fun k_ => (P0_ k_ ∨ w.heap.size ≤ k_) ∧ some k_ ≠ (u8 : Value).ownBlock) ho0 (fun k_ hk_ => ⟨Or.elim hk_ (fun hs_ => hs_.1) (fun hn_ => (.inr (Nat.le_trans (below_size HW.zb) hn_))), Or.elim hk_ (fun hs_ => hs_.2) (fun hn_ => (Kd.fresh' (Kd.N_lt (by (with_reducible repeat (first | apply Kd.N_alloc | apply Kd.N_drewN | apply Kd.N_drew)); exact HO_8.out)) k_ hn_))⟩)) (below_size HW.zb)); have n3_ := Aside0.mk (Kd.V_lower (Kd.V_mono (ok' := fun k_ => (P0_ k_ ∨ w.heap.size ≤ k_) ∧ some k_ ≠ (u8 : Value).ownBlock) ho1 (fun k_ hk_ => ⟨Or.elim hk_ (fun hs_ => hs_.1) (fun hn_ => (.inr (Nat.le_trans (below_size HW.zb) hn_))), Or.elim hk_ (fun hs_ => hs_.2) (fun hn_ => (Kd.fresh' (Kd.N_lt (by (with_reducible repeat (first | apply Kd.N_alloc | apply Kd.N_drewN | apply Kd.N_drew)); exact HO_8.out)) k_ hn_))⟩)) (below_size HW.zb)); have n4_ := Aside0.mk (below_step HW.zb hb); clear HO_8; clear HB; have HO_8 := n1_; have HO671 := n2_; have HO674 := n3_; have HB := n4_; clear n1_ n2_ n3_ n4_; (try clear hb); (try clear hb2); (try clear hk); (try clear hi); (try clear ho0); (try clear ho1); obtain ⟨Ao12, co12, eo12⟩ := Kd.V_slice HO671.out; subst eo12) | ((with_reducible refine gate_callee (f := 53) rfl ?_); refine HW.gz (some 45) rfl rfl Tryd.func53 (by kernel_rfl) rfl #[.slice Ao12 t669.length co12] rfl ?_; (with_reducible refine (bsoncore_Element_Validate.calls k1 _ _ t669 none _ ?side1 ?side2 A8.out).mono ?_); (case side1 => repeat (first | exact (Kd.V_reads' HO671.out).2.2 | (with_reducible refine Kd.C_alloc ?_ _) | (with_reducible refine Kd.C_drewN ?_ _) | (with_reducible refine Kd.C_drew ?_))); (case side2 => exact (Kd.V_reads' HO671.out).2.1); rintro e w13 ⟨rfl, hb⟩; refine ⟨_, rfl, ?_⟩; have n1_ := Aside0.mk (Kd.N_below (by (with_reducible repeat (first | apply Kd.N_alloc | apply Kd.N_drewN | apply Kd.N_drew)); exact HO_8.out) hb); have n2_ := Aside0.mk (Kd.V_below (HW.zV HO671.out) hb); have n3_ := Aside0.mk (Kd.V_below (HW.zV HO674.out) hb); have n4_ := Aside0.mk (below_step HW.zb hb); clear HO_8; clear HO671; clear HO674; clear HB; have HO_8 := n1_; have HO671 := n2_; have HO674 := n3_; have HB := n4_; clear n1_ n2_ n3_ n4_; (try clear hb); (try clear hb2); (try clear hk); (try clear hi); (try simp only [errW_none, errW_some])) | ((with_reducible refine gate_builtin (b := .append) (xs := #[.tmp 50, .tmp 52]) rfl ?_); at_builtin; refine Kd.N_append (Kd.slice 5 (Kd.int .u8)) (w0 := w) w.heap.size rfl (.tmp 50) (.tmp 52) 89 92 (.slice none 0 0) 24 rfl Tryd.underlying89 info92 rfl (by decide) (by omega) u8 x8_1 t669 [.slice Ao12 t669.length co12] (fun k_ => (P0_ k_ ∨ w.heap.size ≤ k_)) (fun k_ => ((fun k_ => (P0_ k_ ∨ w.heap.size ≤ k_))) k_ ∧ some k_ ≠ (u8 : Value).ownBlock) rfl rfl ?aP (fun _ hk => hk) ?aF ?aO ?aB ?aS ?aL ?_; (case aP => exact (Kd.FK_slice_mk (Kd.V_reads' (Kd.V_mono (ok' := (fun k_ => ((fun k_ => (P0_ k_ ∨ w.heap.size ≤ k_))) k_ ∧ some k_ ≠ (u8 : Value).ownBlock)) (HO671.out) (fun k_ hk => ⟨hk.1, hk.2⟩))).2.1 (Kd.V_F (Kd.V_mono (ok' := (fun k_ => ((fun k_ => (P0_ k_ ∨ w.heap.size ≤ k_))) k_ ∧ some k_ ≠ (u8 : Value).ownBlock)) (HO671.out) (fun k_ hk => ⟨hk.1, hk.2⟩))))); (case aB => exact HW.zb); (case aF => exact (fun k_ hk => (.inr (Nat.le_trans (below_size HW.zb) hk)))); (case aO => exact (by (with_reducible repeat (first | apply Kd.N_alloc | apply Kd.N_drewN | apply Kd.N_drew)); exact HO_8.out)); (case aS => exact (below_size HW.zb)); (case aL => have := LMc9.out; omega); intro v685 w14 ho hb hg hat; rw [← Ny684.out] at ho; have n2_ := Aside0.mk (Kd.V_afterv (ok := (fun k_ => (P0_ k_ ∨ w.heap.size ≤ k_))) (HW.zV HO674.out) hg hat); have n3_ := Aside0.mk (hb); have n4_ := Aside0.mk (ho); clear HO674; clear HB; clear HO_8; have HO674 := n2_; have HB := n3_; have HO686 := n4_; clear n2_ n3_ n4_; clear ho hb hg hat))
        go_roundg k1
        case measure => have := HK1.out; omega
        case rel => exact ⟨(wrap32 (x4_1 - (wrap32 ((t669.length : Int))))), (t672), (y684), (by first | rfl | (simp; done) | (simp [*]; done)), H', ⟨by have := HK1.out; omega⟩, ⟨HW.zV HO674.out⟩, ⟨by (with_reducible repeat (first | apply Kd.N_alloc | apply Kd.N_drewN | apply Kd.N_drew)); exact HO686.out⟩, ⟨HW.zb⟩⟩

/-! ### bson_Raw_Elements: function 25 -/
def bson_Raw_Elements.l0 : Nat → List (List Int) → List (List Int) → Int → Int → Option ((List (List Int)) × Option Int)
  | 0, _, _, _, _ => none
  | k + 1, x7, x25, x26, x27 => if x27 < x26 then (if 0 ≤ x27 then (if x27 < (x25.length : Int) then (if x7.length < 5864062014805 then (bson_Raw_Elements.l0 k (x7 ++ [rd_L4 x25 x27]) x25 x26 (wrap64 (x27 + 1))) else (none)) else (none)) else (none)) else (some (x7, none))
def bson_Raw_Elements.f (k : Nat) (l0 : List Int) : Option ((List (List Int)) × Option Int) := if (l0.length : Int) = 0 then (some (([] : List (List Int)), none)) else ((bsoncore_Document_Elements.f k l0).bind fun bt687 => (if bt687.2.isNone = true then (if 0 ≤ (bt687.1.length : Int) then (if ((bt687.1.length : Int) : Int).toNat ≤ 11728124029610 then (bson_Raw_Elements.l0 k (([] : List (List Int))) bt687.1 (bt687.1.length : Int) 0) else (none)) else (none)) else (none)))
theorem bson_Raw_Elements.mono_l : ∀ k, (∀ y0 y1 y2 y3, LeO (bson_Raw_Elements.l0 k y0 y1 y2 y3) (bson_Raw_Elements.l0 (k + 1) y0 y1 y2 y3))
  | 0 => fun _ _ _ _ r h => by simp [bson_Raw_Elements.l0] at h
  | k + 1 => by
    have ih0 := bson_Raw_Elements.mono_l k
    · intro y0 y1 y2 y3
      unfold bson_Raw_Elements.l0
      repeat' first
      | (with_reducible exact ih0 _ _ _ _)
      | (with_reducible exact bsoncore_Document_Elements.mono _ _)
      | (with_reducible exact LeO.refl _)
      | (with_reducible exact LeO.none _)
      | (with_reducible refine LeO.ite ?_ ?_)
      | (with_reducible refine LeO.bind ?_ (fun _ => ?_))
      | exact ih0 _ _ _ _
      | exact bsoncore_Document_Elements.mono _ _
      | exact LeO.none _
      | refine LeO.ite ?_ ?_
      | refine LeO.bind ?_ (fun _ => ?_)
theorem bson_Raw_Elements.mono : ∀ a0 k, LeO (bson_Raw_Elements.f k a0) (bson_Raw_Elements.f (k + 1) a0) := by
  intro a0 k
  have ih0 := bson_Raw_Elements.mono_l k
  unfold bson_Raw_Elements.f
  repeat' first
      | (with_reducible exact ih0 _ _ _ _)
      | (with_reducible exact bsoncore_Document_Elements.mono _ _)
      | (with_reducible exact LeO.refl _)
      | (with_reducible exact LeO.none _)
      | (with_reducible refine LeO.ite ?_ ?_)
      | (with_reducible refine LeO.bind ?_ (fun _ => ?_))
      | exact ih0 _ _ _ _
      | exact bsoncore_Document_Elements.mono _ _
      | exact LeO.none _
      | refine LeO.ite ?_ ?_
      | refine LeO.bind ?_ (fun _ => ?_)
set_option maxHeartbeats 8000000 in
set_option maxRecDepth 100000 in
theorem bson_Raw_Elements.calls (k : Nat) (P0_ : Nat → Prop) (A0 : Option Addr) (c0 : Nat) (l0 : List Int) (r1 : List (List Int)) (r2 : Option Int) (w : World) (hs0 : Kd.V (Kd.int .u8) 5 w w.heap.size (fun k_ => P0_ k_) (.slice A0 l0.length c0) l0) (h : bson_Raw_Elements.f k l0 = some (r1, r2)) :
    Calls Tryd.prog 25 #[.slice A0 l0.length c0] w fun e w' => ∃ v0_ : Value, e = .returned (.tuple #[v0_, errW r2]) ∧ Kd.N (Kd.slice 5 (Kd.int .u8)) 65 w' w.heap.size (fun k_ => (P0_ k_ ∨ w.heap.size ≤ k_)) v0_ r1 ∧ Below w.heap.size w w' := by
  have hu56 := Tryd.underlying56
  have HO0 := Aside0.mk (show Kd.V (Kd.int .u8) 5 w w.heap.size (fun k_ => (P0_ k_ ∨ w.heap.size ≤ k_)) (.slice A0 l0.length c0) l0 from Kd.V_mono hs0 (fun k_ hk => .inl hk))
  have HB := Aside0.mk (Below.refl w.heap.size w)
  have H : (if (l0.length : Int) = 0 then (some (([] : List (List Int)), none)) else ((bsoncore_Document_Elements.f k l0).bind fun bt687 => (if bt687.2.isNone = true then (if 0 ≤ (bt687.1.length : Int) then (if ((bt687.1.length : Int) : Int).toNat ≤ 11728124029610 then (bson_Raw_Elements.l0 k (([] : List (List Int))) bt687.1 (bt687.1.length : Int) 0) else (none)) else (none)) else (none)))) = some (r1, r2) := h
  clear h
  by_cases c2 : (l0.length : Int) = 0
  · rw [if_pos c2] at H
    have c2b0 : ((l0.length : Int) == 0) = true := beq_iff_eq.mpr c2
    have c2b1 : ((l0.length : Int) != 0) = false := bne_eq_false_iff_eq.mpr c2
    clear c2
    as_aux_lemma =>
      simp only [Option.some.injEq, Prod.mk.injEq] at H
      obtain ⟨rfl, rfl⟩ := H
      go_enter Tryd.func25, Tryd.ntmps25
      go_wp2
      go_ret2
      exact ⟨_, by first | rfl | (simp [errW_none, errW_some] <;> rfl) | (simp [*, errW_none, errW_some] <;> rfl), by first | exact Kd.S_nil _ _ _ _ _ | exact Kd.N_nil _ _ _ _ _ | exact Kd.V_nil _ _ _ _ _ | exact Kd.Q_nil _ _ _ _ _ | exact Kd.R_nil _ _ _ _ _, HW.zb⟩
  rw [if_neg c2] at H
  have c2b0 : ((l0.length : Int) == 0) = false := beq_eq_false_iff_ne.mpr c2
  have c2b1 : ((l0.length : Int) != 0) = true := bne_iff_ne.mpr c2
  have c2b2 : ¬ (l0 = []) := fun h_ => c2 (by rw [h_]; rfl)
  replace H := Option.bind_eq_some_iff.mp H
  obtain ⟨⟨t687, t690⟩, A30, H⟩ := H
  replace H : (if t690.isNone = true then (if 0 ≤ (t687.length : Int) then (if ((t687.length : Int) : Int).toNat ≤ 11728124029610 then (bson_Raw_Elements.l0 k (([] : List (List Int))) t687 (t687.length : Int) 0) else (none)) else (none)) else (none)) = some (r1, r2) := H
  have A3 := Aside0.mk A30
  clear A30
  rcases t690 with _ | q691
  rotate_left
  · have H1 : (none) = some (r1, r2) := by rw [if_neg (show ¬ (some q691).isNone = true by simp)] at H; exact H
    clear H
    have H := H1
    clear H1
    try simp only [errW_none, errW_some]
    exact absurd H (by simp)
  have H1 : (if 0 ≤ (t687.length : Int) then (if ((t687.length : Int) : Int).toNat ≤ 11728124029610 then (bson_Raw_Elements.l0 k (([] : List (List Int))) t687 (t687.length : Int) 0) else (none)) else (none)) = some (r1, r2) := by rw [if_pos (show (none : Option Int).isNone = true by rfl)] at H; exact H
  clear H
  have H := H1
  clear H1
  try simp only [errW_none, errW_some]
  by_cases c4 : 0 ≤ (t687.length : Int)
  rotate_left
  · rw [if_neg c4] at H
    exact absurd H (by simp)
  rw [if_pos c4] at H
  have c4b0 := eq_true c4
  have c4b1 : decide (0 ≤ (t687.length : Int)) = true := decide_eq_true c4
  clear c4
  by_cases c5 : ((t687.length : Int) : Int).toNat ≤ 11728124029610
  rotate_left
  · rw [if_neg c5] at H
    exact absurd H (by simp)
  rw [if_pos c5] at H
  have c5b0 := eq_true c5
  have c5b1 : decide (((t687.length : Int) : Int).toNat ≤ 11728124029610) = true := decide_eq_true c5
  clear c5
  obtain ⟨y692, hy692⟩ : ∃ y_ : List (List Int), y_ = (([] : List (List Int))) := ⟨_, rfl⟩
  replace H : (bson_Raw_Elements.l0 k y692 t687 (t687.length : Int) 0) = some (r1, r2) := by first | (rw [hy692]; with_reducible exact H) | (have H2_ := (Option.bind_some _ _).symm.trans H; rw [hy692]; with_reducible exact H2_) | (have H2_ := (Option.bind_some _ _).symm.trans H; with_reducible exact H2_) | with_reducible exact H | (rw [hy692]; exact H) | exact H
  have Ny692 := Aside0.mk hy692
  clear hy692
  have H' := Aside0.mk H
  clear H
  go_enter Tryd.func25, Tryd.ntmps25
  go_wp2_with (first | ((with_reducible refine gate_callee (f := 35) rfl ?_); refine HW.gz (some 16) rfl rfl Tryd.func35 (by kernel_rfl) rfl #[.slice A0 l0.length c0] rfl ?_; (with_reducible refine (bsoncore_Document_Elements.calls k (fun k_ => (P0_ k_ ∨ w.heap.size ≤ k_)) _ _ l0 t687 none _ ?side1 A3.out).mono ?_); (case side1 => exact HO0.out); rintro e w6 ⟨v688, rfl, ho0, hb⟩; refine ⟨_, rfl, ?_⟩; have n1_ := Aside0.mk (Kd.N_lower (Kd.N_mono (ok' := fun k_ => (P0_ k_ ∨ w.heap.size ≤ k_)) ho0 (fun k_ hk_ => Or.elim hk_ (fun hs_ => hs_) (fun hn_ => (.inr (Nat.le_trans (below_size HW.zb) hn_))))) (below_size HW.zb)); have n2_ := Aside0.mk (below_step HW.zb hb); clear HB; have HO689 := n1_; have HB := n2_; clear n1_ n2_; (try clear hb); (try clear hb2); (try clear hk); (try clear hi); (try clear ho0); (try simp only [errW_none, errW_some]); obtain ⟨Ao7, co7, eo7⟩ := Kd.N_slice HO689.out; subst eo7) | ((with_reducible refine gate_dst (N := 24) rfl ?_); refine HW.N_make0 (Kd.slice 5 (Kd.int .u8)) _ 65 rfl (N' := 24) rfl 62 _ _ rfl (t687.length : Int) rfl rfl Tryd.underlying62 (.slice none 0 0) 24 info65 (by decide) (ok := fun k_ => w6.heap.size ≤ k_) (fun _ hk => hk) (of_decide_eq_true (by first | (with_reducible assumption) | assumption)) (Nat.le_trans (Nat.mul_le_mul_right _ (of_decide_eq_true (by first | (with_reducible assumption) | assumption) : (t687.length : Int).toNat ≤ 11728124029610)) (by omega)) (Below.refl _ _) (Nat.le_refl _) ?_; intro v693 w8 ho9 hb hg_ hnew_; clear hg_ hnew_; (first | rw [← Ny692.out] at ho9 | (simp only [Int.reduceToNat] at ho9; rw [← Ny692.out] at ho9)); have n1_ := Aside0.mk (Kd.N_elder' (by (with_reducible repeat (first | apply Kd.N_alloc | apply Kd.N_drewN | apply Kd.N_drew)); exact HO689.out) (Kd.N_base ho9) hb); have n2_ := Aside0.mk (Kd.N_lower (Kd.N_mono (ok' := fun k_ => (P0_ k_ ∨ w.heap.size ≤ k_) ∧ some k_ ≠ (.slice Ao7 t687.length co7 : Value).ownBlock) ho9 (fun k_ hk_ => ⟨(.inr (Nat.le_trans (below_size HW.zb) hk_)), (Kd.fresh' (Kd.N_lt (by (with_reducible repeat (first | apply Kd.N_alloc | apply Kd.N_drewN | apply Kd.N_drew)); exact HO689.out)) k_ hk_)⟩)) (below_size HW.zb)); have n3_ := Aside0.mk (below_step HW.zb hb); clear HO689; clear HB; have HO689 := n1_; have HO694 := n2_; have HB := n3_; clear n1_ n2_ n3_; clear hb ho9))
  go_loopg [7, 27] k (fun kq v7 v27 w' => ∃ (x7_1 : List (List Int)) (x27_1 : Int), v27 = .int .i64 x27_1 ∧ Aside0 (bson_Raw_Elements.l0 kq x7_1 t687 (t687.length : Int) x27_1 = some (r1, r2)) ∧ Aside0 (kq ≤ k) ∧ Aside0 (Kd.N (Kd.slice 5 (Kd.int .u8)) 65 w' w.heap.size (fun k_ => (P0_ k_ ∨ w.heap.size ≤ k_) ∧ some k_ ≠ ((.slice Ao7 t687.length co7) : Value).ownBlock) v7 x7_1) ∧ Aside0 (Kd.N (Kd.slice 5 (Kd.int .u8)) 92 w' w.heap.size (fun k_ => (P0_ k_ ∨ w.heap.size ≤ k_) ∧ some k_ ≠ (v7 : Value).ownBlock) (.slice Ao7 t687.length co7) t687) ∧ Aside0 (Below w.heap.size w w'))
  case atStart => exact ⟨(y692), (0), (by first | rfl | (simp; done) | (simp [*]; done)), H', ⟨Nat.le_refl _⟩, ⟨by (with_reducible repeat (first | apply Kd.N_alloc | apply Kd.N_drewN | apply Kd.N_drew)); exact HO694.out⟩, ⟨by (with_reducible repeat (first | apply Kd.N_alloc | apply Kd.N_drewN | apply Kd.N_drew)); exact HO689.out⟩, ⟨HW.zb⟩⟩
  case round =>
    clear H'
    try clear c2
    try clear c2b0
    try clear c2b1
    try clear c2b2
    try clear p2
    try clear c3
    try clear c4
    try clear c4b0
    try clear c4b1
    try clear c5
    try clear c5b0
    try clear c5b1
    try clear q6
    try clear q691
    obtain ⟨x7_1, x27_1, rfl, HA, HK1, HO_7, HO_25, HB⟩ := hrel
    cases gk with
    | zero => exact absurd HA.out (by simp [bson_Raw_Elements.l0])
    | succ k1 =>
      have H := HA.out
      clear HA
      simp only [bson_Raw_Elements.l0] at H
      by_cases c10 : x27_1 < (t687.length : Int)
      rotate_left
      · rw [if_neg c10] at H
        have c10b0 : decide (x27_1 < (t687.length : Int)) = false := decide_eq_false c10
        clear c10
        as_aux_lemma =>
          simp only [Option.some.injEq, Prod.mk.injEq] at H
          obtain ⟨rfl, rfl⟩ := H
          go_wp2
          go_ret2
          exact ⟨_, by first | rfl | (simp [errW_none, errW_some] <;> rfl) | (simp [*, errW_none, errW_some] <;> rfl), by (with_reducible repeat (first | apply Kd.N_alloc | apply Kd.N_drewN | apply Kd.N_drew)); exact Kd.N_mono HO_7.out (fun _ hk => hk.1), HW.zb⟩
      rw [if_pos c10] at H
      have c10b0 : decide (x27_1 < (t687.length : Int)) = true := decide_eq_true c10
      clear c10
      by_cases c11 : 0 ≤ x27_1
      rotate_left
      · rw [if_neg c11] at H
        exact absurd H (by simp)
      rw [if_pos c11] at H
      have c11b0 : decide (0 ≤ x27_1) = true := decide_eq_true c11
      clear c11
      by_cases c12 : x27_1 < (t687.length : Int)
      rotate_left
      · rw [if_neg c12] at H
        exact absurd H (by simp)
      rw [if_pos c12] at H
      have c12b0 : decide (x27_1 < (t687.length : Int)) = true := decide_eq_true c12
      clear c12
      by_cases c13 : x7_1.length < 5864062014805
      rotate_left
      · rw [if_neg c13] at H
        exact absurd H (by simp)
      rw [if_pos c13] at H
      have LMc13 := Aside0.mk c13
      clear c13
      obtain ⟨y696, hy696⟩ : ∃ y_ : List (List Int), y_ = (x7_1 ++ [rd_L4 t687 x27_1]) := ⟨_, rfl⟩
      replace H : (bson_Raw_Elements.l0 k1 y696 t687 (t687.length : Int) (wrap64 (x27_1 + 1))) = some (r1, r2) := by first | (rw [hy696]; with_reducible exact H) | (have H2_ := (Option.bind_some _ _).symm.trans H; rw [hy696]; with_reducible exact H2_) | (have H2_ := (Option.bind_some _ _).symm.trans H; with_reducible exact H2_) | with_reducible exact H | (rw [hy696]; exact H) | exact H
      have Ny696 := Aside0.mk hy696
      clear hy696
      as_aux_lemma =>
        have H' := Aside0.mk H
        clear H
        have p695 : 0 ≤ (x27_1 : Int) := of_decide_eq_true (by first | (with_reducible assumption) | assumption)
        have q695 : x27_1 < (t687.length : Int) := of_decide_eq_true (by first | (with_reducible assumption) | assumption)
        obtain ⟨ad695, A695_0, c695_0, e695, hx695_0, hl695_0, hi695_0⟩ := at_L4 (Kd.N_reads' HO_25.out).2.2 x27_1 p695 q695
        cases e695
        obtain ⟨ce695, hce695, hMe695, hcc695⟩ := Kd.N_get HO_25.out [] x27_1 p695 (by first | exact q695 | exact of_decide_eq_true (by first | (with_reducible assumption) | assumption) | (have e_ := (Kd.N_reads' HO_25.out).1; omega))
        obtain ⟨ua695_0, uc695_0, rfl, ul695_0, ge695_0⟩ := Kd.FK_slice_open hMe695
        have hv695_0 := hcc695 0 _ rfl
        rw [Nat.add_zero, show ((Kd.slice 5 (Kd.int .u8))).sz = 1 from rfl, Nat.mul_one] at hv695_0
        replace hv695_0 := Option.some.inj (hv695_0.symm.trans hx695_0)
        injection hv695_0 with hva_ hvn_ hvc_
        rw [hva_] at ge695_0
        rw [hvc_] at ul695_0
        have HL695_0 := Aside0.mk (show Kd.V (Kd.int .u8) 5 _ w.heap.size _ _ (rd_L4 t687 x27_1) from Kd.V_mk ul695_0 ge695_0)
        clear hva_ hvn_ hvc_ ge695_0 ul695_0
        clear hcc695 hce695
        have HR695_0 := Aside0.mk hi695_0
        have HC695_0 := Aside0.mk hl695_0
        clear hi695_0 hl695_0
        replace p695 := eq_true p695
        replace q695 := eq_true q695
        go_wp2_with (first | ((with_reducible refine gate_builtin (b := .append) (xs := #[.tmp 31, .tmp 33]) rfl ?_); at_builtin; refine Kd.N_append (Kd.slice 5 (Kd.int .u8)) (w0 := w) w.heap.size rfl (.tmp 31) (.tmp 33) 62 65 (.slice none 0 0) 24 rfl Tryd.underlying62 info65 rfl (by decide) (by omega) u7 x7_1 (rd_L4 t687 x27_1) [.slice A695_0 (rd_L4 t687 x27_1).length c695_0] (fun k_ => (P0_ k_ ∨ w.heap.size ≤ k_) ∧ some k_ ≠ (.slice (some ad695) t687.length co7 : Value).ownBlock) (fun k_ => ((fun k_ => (P0_ k_ ∨ w.heap.size ≤ k_) ∧ some k_ ≠ (.slice (some ad695) t687.length co7 : Value).ownBlock)) k_ ∧ some k_ ≠ (u7 : Value).ownBlock) rfl rfl ?aP (fun _ hk => hk) ?aF ?aO ?aB ?aS ?aL ?_; (case aP => exact (Kd.FK_slice_mk (Kd.V_reads' (Kd.V_mono (ok' := (fun k_ => ((fun k_ => (P0_ k_ ∨ w.heap.size ≤ k_) ∧ some k_ ≠ (.slice (some ad695) t687.length co7 : Value).ownBlock)) k_ ∧ some k_ ≠ (u7 : Value).ownBlock)) (HL695_0.out) (fun k_ hk => ⟨⟨hk.1.1, hk.2⟩, hk.1.2⟩))).2.1 (Kd.V_F (Kd.V_mono (ok' := (fun k_ => ((fun k_ => (P0_ k_ ∨ w.heap.size ≤ k_) ∧ some k_ ≠ (.slice (some ad695) t687.length co7 : Value).ownBlock)) k_ ∧ some k_ ≠ (u7 : Value).ownBlock)) (HL695_0.out) (fun k_ hk => ⟨⟨hk.1.1, hk.2⟩, hk.1.2⟩))))); (case aB => exact HW.zb); (case aF => exact (fun k_ hk => ⟨(.inr (Nat.le_trans (below_size HW.zb) hk)), Kd.fresh' (Kd.N_lt (by (with_reducible repeat (first | apply Kd.N_alloc | apply Kd.N_drewN | apply Kd.N_drew)); exact HO_25.out)) k_ hk⟩)); (case aO => exact (by (with_reducible repeat (first | apply Kd.N_alloc | apply Kd.N_drewN | apply Kd.N_drew)); exact HO_7.out)); (case aS => exact (below_size HW.zb)); (case aL => have := LMc13.out; omega); intro v697 w14 ho hb hg hat; rw [← Ny696.out] at ho; have n0_ := Aside0.mk (Kd.N_afterv (ok := (fun k_ => (P0_ k_ ∨ w.heap.size ≤ k_))) (by (with_reducible repeat (first | apply Kd.N_alloc | apply Kd.N_drewN | apply Kd.N_drew)); exact HO_25.out) hg hat); have n2_ := Aside0.mk (hb); have n3_ := Aside0.mk (ho); clear HO_25; clear HB; clear HO_7; have HO_25 := n0_; have HB := n2_; have HO698 := n3_; clear n0_ n2_ n3_; clear ho hb hg hat))
        go_roundg k1
        case measure => have := HK1.out; omega
        case rel => exact ⟨(y696), (wrap64 (x27_1 + 1)), (by first | rfl | (simp; done) | (simp [*]; done)), H', ⟨by have := HK1.out; omega⟩, ⟨by (with_reducible repeat (first | apply Kd.N_alloc | apply Kd.N_drewN | apply Kd.N_drew)); exact HO698.out⟩, ⟨by (with_reducible repeat (first | apply Kd.N_alloc | apply Kd.N_drewN | apply Kd.N_drew)); exact HO_25.out⟩, ⟨HW.zb⟩⟩

/-! ### impl_RawElements: function 13 -/
def impl_RawElements.l0 : Nat → Option Int → List (List Int) → List (List Int) → Int → Int → Option ((List (List Int)) × Bool)
  | 0, _, _, _, _, _ => none
  | k + 1, x5, x6, x14, x15, x16 => if x16 < x15 then (if 0 ≤ x16 then (if x16 < (x14.length : Int) then ((impl_own.f (rd_L4 x14 x16)).bind fun t705 => (if x6.length < 5864062014805 then (impl_RawElements.l0 k x5 (x6 ++ [t705]) x14 x15 (wrap64 (x16 + 1))) else (none))) else (none)) else (none)) else (if x5.isNone = true then (some (x6, true)) else (none))
def impl_RawElements.f (k : Nat) (l0 : List Int) : Option ((List (List Int)) × Bool) := (bson_Raw_Elements.f k l0).bind fun bt699 => (impl_RawElements.l0 k bt699.2 ([] : List (List Int)) bt699.1 (bt699.1.length : Int) 0)
theorem impl_RawElements.mono_l : ∀ k, (∀ y0 y1 y2 y3 y4, LeO (impl_RawElements.l0 k y0 y1 y2 y3 y4) (impl_RawElements.l0 (k + 1) y0 y1 y2 y3 y4))
  | 0 => fun _ _ _ _ _ r h => by simp [impl_RawElements.l0] at h
  | k + 1 => by
    have ih0 := impl_RawElements.mono_l k
    · intro y0 y1 y2 y3 y4
      unfold impl_RawElements.l0
      repeat' first
      | (with_reducible exact ih0 _ _ _ _ _)
      | (with_reducible exact bson_Raw_Elements.mono _ _)
      | (with_reducible exact LeO.refl _)
      | (with_reducible exact LeO.none _)
      | (with_reducible refine LeO.ite ?_ ?_)
      | (with_reducible refine LeO.bind ?_ (fun _ => ?_))
      | exact ih0 _ _ _ _ _
      | exact bson_Raw_Elements.mono _ _
      | exact LeO.none _
      | refine LeO.ite ?_ ?_
      | refine LeO.bind ?_ (fun _ => ?_)
theorem impl_RawElements.mono : ∀ a0 k, LeO (impl_RawElements.f k a0) (impl_RawElements.f (k + 1) a0) := by
  intro a0 k
  have ih0 := impl_RawElements.mono_l k
  unfold impl_RawElements.f
  repeat' first
      | (with_reducible exact ih0 _ _ _ _ _)
      | (with_reducible exact bson_Raw_Elements.mono _ _)
      | (with_reducible exact LeO.refl _)
      | (with_reducible exact LeO.none _)
      | (with_reducible refine LeO.ite ?_ ?_)
      | (with_reducible refine LeO.bind ?_ (fun _ => ?_))
      | exact ih0 _ _ _ _ _
      | exact bson_Raw_Elements.mono _ _
      | exact LeO.none _
      | refine LeO.ite ?_ ?_
      | refine LeO.bind ?_ (fun _ => ?_)
set_option maxHeartbeats 8000000 in
set_option maxRecDepth 100000 in
theorem impl_RawElements.calls (k : Nat) (P0_ : Nat → Prop) (A0 : Option Addr) (c0 : Nat) (l0 : List Int) (r1 : List (List Int)) (r2 : Bool) (w : World) (hs0 : Kd.V (Kd.int .u8) 5 w w.heap.size (fun k_ => P0_ k_) (.slice A0 l0.length c0) l0) (h : impl_RawElements.f k l0 = some (r1, r2)) :
    Calls Tryd.prog 13 #[.slice A0 l0.length c0] w fun e w' => ∃ v0_ : Value, e = .returned (.tuple #[v0_, .bool r2]) ∧ Kd.N (Kd.slice 5 (Kd.int .u8)) 23 w' w.heap.size (fun k_ => (P0_ k_ ∨ w.heap.size ≤ k_)) v0_ r1 ∧ Below w.heap.size w w' := by
  have hu56 := Tryd.underlying56
  have HO0 := Aside0.mk (show Kd.V (Kd.int .u8) 5 w w.heap.size (fun k_ => (P0_ k_ ∨ w.heap.size ≤ k_)) (.slice A0 l0.length c0) l0 from Kd.V_mono hs0 (fun k_ hk => .inl hk))
  have HB := Aside0.mk (Below.refl w.heap.size w)
  have H : ((bson_Raw_Elements.f k l0).bind fun bt699 => (impl_RawElements.l0 k bt699.2 ([] : List (List Int)) bt699.1 (bt699.1.length : Int) 0)) = some (r1, r2) := h
  clear h
  replace H := Option.bind_eq_some_iff.mp H
  obtain ⟨⟨t699, t702⟩, A20, H⟩ := H
  replace H : (impl_RawElements.l0 k t702 ([] : List (List Int)) t699 (t699.length : Int) 0) = some (r1, r2) := H
  have A2 := Aside0.mk A20
  clear A20
  have H' := Aside0.mk H
  clear H
  go_enter Tryd.func13, Tryd.ntmps13
  go_wp2_with (first | (go_at_call 25; (with_reducible refine (bson_Raw_Elements.calls k (fun k_ => (P0_ k_ ∨ w.heap.size ≤ k_)) _ _ l0 t699 t702 _ ?side1 A2.out).mono ?_); (case side1 => exact HO0.out); rintro e w3 ⟨v700, rfl, ho0, hb⟩; have n0_ := Aside0.mk (Kd.V_elder' (HW.zV HO0.out) (Kd.N_base ho0) hb); have n1_ := Aside0.mk (Kd.N_lower (Kd.N_mono (ok' := fun k_ => (P0_ k_ ∨ w.heap.size ≤ k_)) ho0 (fun k_ hk_ => Or.elim hk_ (fun hs_ => hs_) (fun hn_ => (.inr (Nat.le_trans (below_size HW.zb) hn_))))) (below_size HW.zb)); have n2_ := Aside0.mk (below_step HW.zb hb); clear HO0; clear HB; have HO0 := n0_; have HO701 := n1_; have HB := n2_; clear n0_ n1_ n2_; (try clear hb); (try clear hb2); (try clear hk); (try clear hi); (try clear ho0); (try simp only [errW_none, errW_some]); obtain ⟨Ao4, co4, eo4⟩ := Kd.N_slice HO701.out; subst eo4))
  repeat (go_quiet (first | (go_at_call 25; (with_reducible refine (bson_Raw_Elements.calls k (fun k_ => (P0_ k_ ∨ w.heap.size ≤ k_)) _ _ l0 t699 t702 _ ?side1 A2.out).mono ?_); (case side1 => exact HO0.out); rintro e w3 ⟨v700, rfl, ho0, hb⟩; have n0_ := Aside0.mk (Kd.V_elder' (HW.zV HO0.out) (Kd.N_base ho0) hb); have n1_ := Aside0.mk (Kd.N_lower (Kd.N_mono (ok' := fun k_ => (P0_ k_ ∨ w.heap.size ≤ k_)) ho0 (fun k_ hk_ => Or.elim hk_ (fun hs_ => hs_) (fun hn_ => (.inr (Nat.le_trans (below_size HW.zb) hn_))))) (below_size HW.zb)); have n2_ := Aside0.mk (below_step HW.zb hb); clear HO0; clear HB; have HO0 := n0_; have HO701 := n1_; have HB := n2_; clear n0_ n1_ n2_; (try clear hb); (try clear hb2); (try clear hk); (try clear hi); (try clear ho0); (try simp only [errW_none, errW_some]); obtain ⟨Ao4, co4, eo4⟩ := Kd.N_slice HO701.out; subst eo4)); try go_wp2_with (first | (go_at_call 25; (with_reducible refine (bson_Raw_Elements.calls k (fun k_ => (P0_ k_ ∨ w.heap.size ≤ k_)) _ _ l0 t699 t702 _ ?side1 A2.out).mono ?_); (case side1 => exact HO0.out); rintro e w3 ⟨v700, rfl, ho0, hb⟩; have n1_ := Aside0.mk (Kd.N_lower (Kd.N_mono (ok' := fun k_ => (P0_ k_ ∨ w.heap.size ≤ k_)) ho0 (fun k_ hk_ => Or.elim hk_ (fun hs_ => hs_) (fun hn_ => (.inr (Nat.le_trans (below_size HW.zb) hn_))))) (below_size HW.zb)); have n2_ := Aside0.mk (below_step HW.zb hb); clear HB; have HO701 := n1_; have HB := n2_; clear n1_ n2_; (try clear hb); (try clear hb2); (try clear hk); (try clear hi); (try clear ho0); (try simp only [errW_none, errW_some]); obtain ⟨Ao4, co4, eo4⟩ := Kd.N_slice HO701.out; subst eo4)))
  go_loopg [6, 16] k (fun kq v6 v16 w' => ∃ (x6_1 : List (List Int)) (x16_1 : Int), v16 = .int .i64 x16_1 ∧ Aside0 (impl_RawElements.l0 kq t702 x6_1 t699 (t699.length : Int) x16_1 = some (r1, r2)) ∧ Aside0 (kq ≤ k) ∧ Aside0 (Kd.N (Kd.slice 5 (Kd.int .u8)) 23 w' w.heap.size (fun k_ => (P0_ k_ ∨ w.heap.size ≤ k_) ∧ some k_ ≠ ((.slice Ao4 t699.length co4) : Value).ownBlock) v6 x6_1) ∧ Aside0 (Kd.N (Kd.slice 5 (Kd.int .u8)) 65 w' w.heap.size (fun k_ => (P0_ k_ ∨ w.heap.size ≤ k_) ∧ some k_ ≠ (v6 : Value).ownBlock) (.slice Ao4 t699.length co4) t699) ∧ Aside0 (Below w.heap.size w w'))
  case atStart => exact ⟨(([] : List (List Int))), (0), (by first | rfl | (simp; done) | (simp [*]; done)), H', ⟨Nat.le_refl _⟩, ⟨by first | exact Kd.S_nil _ _ _ _ _ | exact Kd.N_nil _ _ _ _ _ | exact Kd.V_nil _ _ _ _ _ | exact Kd.Q_nil _ _ _ _ _ | exact Kd.R_nil _ _ _ _ _⟩, ⟨by (with_reducible repeat (first | apply Kd.N_alloc | apply Kd.N_drewN | apply Kd.N_drew)); exact Kd.N_mono HO701.out (fun _ hk => ⟨hk, (by simp [Value.ownBlock])⟩)⟩, ⟨HW.zb⟩⟩
  case round =>
    clear H'
    try clear c1
    try clear p2
    obtain ⟨x6_1, x16_1, rfl, HA, HK1, HO_6, HO_14, HB⟩ := hrel
    cases gk with
    | zero => exact absurd HA.out (by simp [impl_RawElements.l0])
    | succ k1 =>
      have H := HA.out
      clear HA
      simp only [impl_RawElements.l0] at H
      by_cases c5 : x16_1 < (t699.length : Int)
      rotate_left
      · rw [if_neg c5] at H
        have c5b0 : decide (x16_1 < (t699.length : Int)) = false := decide_eq_false c5
        clear c5
        rcases t702 with _ | q703
        rotate_left
        · have H1 : (none) = some (r1, r2) := by rw [if_neg (show ¬ (some q703).isNone = true by simp)] at H; exact H
          clear H
          have H := H1
          clear H1
          try simp only [errW_none, errW_some]
          exact absurd H (by simp)
        have H1 : (some (x6_1, true)) = some (r1, r2) := by rw [if_pos (show (none : Option Int).isNone = true by rfl)] at H; exact H
        clear H
        have H := H1
        clear H1
        try simp only [errW_none, errW_some]
        as_aux_lemma =>
          simp only [Option.some.injEq, Prod.mk.injEq] at H
          obtain ⟨rfl, rfl⟩ := H
          go_wp2
          repeat (go_quiet (fail); try go_wp2)
          go_ret2
          exact ⟨_, by first | rfl | (simp [errW_none, errW_some] <;> rfl) | (simp [*, errW_none, errW_some] <;> rfl), by (with_reducible repeat (first | apply Kd.N_alloc | apply Kd.N_drewN | apply Kd.N_drew)); exact Kd.N_mono HO_6.out (fun _ hk => hk.1), HW.zb⟩
      rw [if_pos c5] at H
      have c5b0 : decide (x16_1 < (t699.length : Int)) = true := decide_eq_true c5
      clear c5
      by_cases c6 : 0 ≤ x16_1
      rotate_left
      · rw [if_neg c6] at H
        exact absurd H (by simp)
      rw [if_pos c6] at H
      have c6b0 : decide (0 ≤ x16_1) = true := decide_eq_true c6
      clear c6
      by_cases c7 : x16_1 < (t699.length : Int)
      rotate_left
      · rw [if_neg c7] at H
        exact absurd H (by simp)
      rw [if_pos c7] at H
      have c7b0 : decide (x16_1 < (t699.length : Int)) = true := decide_eq_true c7
      clear c7
      replace H := Option.bind_eq_some_iff.mp H
      obtain ⟨t705, A80, H⟩ := H
      replace H : (if x6_1.length < 5864062014805 then (impl_RawElements.l0 k1 t702 (x6_1 ++ [t705]) t699 (t699.length : Int) (wrap64 (x16_1 + 1))) else (none)) = some (r1, r2) := H
      have A8 := Aside0.mk A80
      clear A80
      by_cases c9 : x6_1.length < 5864062014805
      rotate_left
      · rw [if_neg c9] at H
        exact absurd H (by simp)
      rw [if_pos c9] at H
      have LMc9 := Aside0.mk c9
      clear c9
      obtain ⟨y708, hy708⟩ : ∃ y_ : List (List Int), y_ = (x6_1 ++ [t705]) := ⟨_, rfl⟩
      replace H : (impl_RawElements.l0 k1 t702 y708 t699 (t699.length : Int) (wrap64 (x16_1 + 1))) = some (r1, r2) := by first | (rw [hy708]; with_reducible exact H) | (have H2_ := (Option.bind_some _ _).symm.trans H; rw [hy708]; with_reducible exact H2_) | (have H2_ := (Option.bind_some _ _).symm.trans H; with_reducible exact H2_) | with_reducible exact H | (rw [hy708]; exact H) | exact H
      have Ny708 := Aside0.mk hy708
      clear hy708
      as_aux_lemma =>
        have H' := Aside0.mk H
        clear H
        have p704 : 0 ≤ (x16_1 : Int) := of_decide_eq_true (by first | (with_reducible assumption) | assumption)
        have q704 : x16_1 < (t699.length : Int) := of_decide_eq_true (by first | (with_reducible assumption) | assumption)
        obtain ⟨ad704, A704_0, c704_0, e704, hx704_0, hl704_0, hi704_0⟩ := at_L4 (Kd.N_reads' HO_14.out).2.2 x16_1 p704 q704
        cases e704
        obtain ⟨ce704, hce704, hMe704, hcc704⟩ := Kd.N_get HO_14.out [] x16_1 p704 (by first | exact q704 | exact of_decide_eq_true (by first | (with_reducible assumption) | assumption) | (have e_ := (Kd.N_reads' HO_14.out).1; omega))
        obtain ⟨ua704_0, uc704_0, rfl, ul704_0, ge704_0⟩ := Kd.FK_slice_open hMe704
        have hv704_0 := hcc704 0 _ rfl
        rw [Nat.add_zero, show ((Kd.slice 5 (Kd.int .u8))).sz = 1 from rfl, Nat.mul_one] at hv704_0
        replace hv704_0 := Option.some.inj (hv704_0.symm.trans hx704_0)
        injection hv704_0 with hva_ hvn_ hvc_
        rw [hva_] at ge704_0
        rw [hvc_] at ul704_0
        have HL704_0 := Aside0.mk (show Kd.V (Kd.int .u8) 5 _ w.heap.size _ _ (rd_L4 t699 x16_1) from Kd.V_mk ul704_0 ge704_0)
        clear hva_ hvn_ hvc_ ge704_0 ul704_0
        clear hcc704 hce704
        have HR704_0 := Aside0.mk hi704_0
        have HC704_0 := Aside0.mk hl704_0
        clear hi704_0 hl704_0
        replace p704 := eq_true p704
        replace q704 := eq_true q704
        go_wp2_with (first | (go_at_call 26; (with_reducible refine (impl_own.calls _ _ (rd_L4 t699 x16_1) t705 _ ?side1 ?side2 A8.out).mono ?_); (case side1 => repeat (first | exact (by repeat (first | (with_reducible exact HR704_0.out) | (with_reducible refine Kd.C_alloc ?_ _) | (with_reducible refine Kd.C_drewN ?_ _) | (with_reducible refine Kd.C_drew ?_) | exact HR704_0.out)) | (with_reducible refine Kd.C_alloc ?_ _) | (with_reducible refine Kd.C_drewN ?_ _) | (with_reducible refine Kd.C_drew ?_))); (case side2 => exact HC704_0.out); rintro e w10 ⟨v706, rfl, ho0, hb⟩; have n0_ := Aside0.mk (Kd.N_elder' (by (with_reducible repeat (first | apply Kd.N_alloc | apply Kd.N_drewN | apply Kd.N_drew)); exact HO_6.out) (Kd.R_base ho0) hb); have n1_ := Aside0.mk (Kd.N_elder' (by (with_reducible repeat (first | apply Kd.N_alloc | apply Kd.N_drewN | apply Kd.N_drew)); exact HO_14.out) (Kd.R_base ho0) hb); have n3_ := Aside0.mk (Kd.R_lower (Kd.R_newM (M := fun k_ => (w.heap.size ≤ k_)) ho0 (below_size HW.zb) (fun k_ h_ => h_)) (below_size HW.zb)); have n4_ := Aside0.mk (Kd.C_below (by repeat (first | (with_reducible exact HR704_0.out) | (with_reducible refine Kd.C_alloc ?_ _) | (with_reducible refine Kd.C_drewN ?_ _) | (with_reducible refine Kd.C_drew ?_) | exact HR704_0.out)) hb); have n5_ := Aside0.mk (below_step HW.zb hb); clear HO_6; clear HO_14; clear HR704_0; clear HB; have HO_6 := n0_; have HO_14 := n1_; have HO707 := n3_; have HR704_0 := n4_; have HB := n5_; clear n0_ n1_ n3_ n4_ n5_; (try clear hb); (try clear hb2); (try clear hk); (try clear hi); (try clear ho0); obtain ⟨Ao12, co12, eo12⟩ := Kd.R_slice HO707.out; subst eo12) | ((with_reducible refine gate_builtin (b := .append) (xs := #[.tmp 20, .tmp 23]) rfl ?_); at_builtin; refine Kd.N_append (Kd.slice 5 (Kd.int .u8)) (w0 := w) w.heap.size rfl (.tmp 20) (.tmp 23) 42 23 (.slice none 0 0) 24 rfl Tryd.underlying42 info23 rfl (by decide) (by omega) u6 x6_1 t705 [.slice Ao12 t705.length co12] (fun k_ => (P0_ k_ ∨ w.heap.size ≤ k_) ∧ some k_ ≠ (.slice (some ad704) t699.length co4 : Value).ownBlock) (fun k_ => ((fun k_ => (P0_ k_ ∨ w.heap.size ≤ k_) ∧ some k_ ≠ (.slice (some ad704) t699.length co4 : Value).ownBlock)) k_ ∧ some k_ ≠ (u6 : Value).ownBlock) rfl rfl ?aP (fun _ hk => hk) ?aF ?aO ?aB ?aS ?aL ?_; (case aP => exact (Kd.FK_slice_mk (Kd.R_reads' (Kd.R_mono (ok' := (fun k_ => ((fun k_ => (P0_ k_ ∨ w.heap.size ≤ k_) ∧ some k_ ≠ (.slice (some ad704) t699.length co4 : Value).ownBlock)) k_ ∧ some k_ ≠ (u6 : Value).ownBlock)) (Kd.R_apart' (Kd.R_apart' (HO707.out) (Kd.N_typed HO_14.out) (by decide)) (Kd.N_typed HO_6.out) (by decide)) (fun k_ hk => ⟨⟨(.inr (hk.1.1.1)), hk.1.2⟩, hk.2⟩))).2.1 (Kd.R_F (Kd.R_mono (ok' := (fun k_ => ((fun k_ => (P0_ k_ ∨ w.heap.size ≤ k_) ∧ some k_ ≠ (.slice (some ad704) t699.length co4 : Value).ownBlock)) k_ ∧ some k_ ≠ (u6 : Value).ownBlock)) (Kd.R_apart' (Kd.R_apart' (HO707.out) (Kd.N_typed HO_14.out) (by decide)) (Kd.N_typed HO_6.out) (by decide)) (fun k_ hk => ⟨⟨(.inr (hk.1.1.1)), hk.1.2⟩, hk.2⟩))))); (case aB => exact HW.zb); (case aF => exact (fun k_ hk => ⟨(.inr (Nat.le_trans (below_size HW.zb) hk)), Kd.fresh' (Kd.N_lt (by (with_reducible repeat (first | apply Kd.N_alloc | apply Kd.N_drewN | apply Kd.N_drew)); exact HO_14.out)) k_ hk⟩)); (case aO => exact (by (with_reducible repeat (first | apply Kd.N_alloc | apply Kd.N_drewN | apply Kd.N_drew)); exact Kd.N_mono HO_6.out (fun _ hk => ⟨hk.1.1, hk.1.2⟩))); (case aS => exact (below_size HW.zb)); (case aL => have := LMc9.out; omega); intro v709 w11 ho hb hg hat; rw [← Ny708.out] at ho; have n0_ := Aside0.mk (Kd.N_afterv (ok := (fun k_ => (P0_ k_ ∨ w.heap.size ≤ k_) ∧ some k_ ≠ (.slice Ao12 t705.length co12 : Value).ownBlock)) (by (with_reducible repeat (first | apply Kd.N_alloc | apply Kd.N_drewN | apply Kd.N_drew)); exact Kd.N_mono HO_14.out (fun _ hk => ⟨⟨hk.1.1, hk.2⟩, hk.1.2⟩)) hg hat); have n2_ := Aside0.mk (hb); have n3_ := Aside0.mk (ho); clear HO_14; clear HB; clear HO_6; clear HO707; have HO_14 := n0_; have HB := n2_; have HO710 := n3_; clear n0_ n2_ n3_; clear ho hb hg hat))
        repeat (go_quiet (first | (go_at_call 26; (with_reducible refine (impl_own.calls _ _ (rd_L4 t699 x16_1) t705 _ ?side1 ?side2 A8.out).mono ?_); (case side1 => repeat (first | exact (by repeat (first | (with_reducible exact HR704_0.out) | (with_reducible refine Kd.C_alloc ?_ _) | (with_reducible refine Kd.C_drewN ?_ _) | (with_reducible refine Kd.C_drew ?_) | exact HR704_0.out)) | (with_reducible refine Kd.C_alloc ?_ _) | (with_reducible refine Kd.C_drewN ?_ _) | (with_reducible refine Kd.C_drew ?_))); (case side2 => exact HC704_0.out); rintro e w10 ⟨v706, rfl, ho0, hb⟩; have n0_ := Aside0.mk (Kd.N_elder' (by (with_reducible repeat (first | apply Kd.N_alloc | apply Kd.N_drewN | apply Kd.N_drew)); exact HO_6.out) (Kd.R_base ho0) hb); have n1_ := Aside0.mk (Kd.N_elder' (by (with_reducible repeat (first | apply Kd.N_alloc | apply Kd.N_drewN | apply Kd.N_drew)); exact HO_14.out) (Kd.R_base ho0) hb); have n3_ := Aside0.mk (Kd.R_lower (Kd.R_newM (M := fun k_ => (w.heap.size ≤ k_)) ho0 (below_size HW.zb) (fun k_ h_ => h_)) (below_size HW.zb)); have n4_ := Aside0.mk (Kd.C_below (by repeat (first | (with_reducible exact HR704_0.out) | (with_reducible refine Kd.C_alloc ?_ _) | (with_reducible refine Kd.C_drewN ?_ _) | (with_reducible refine Kd.C_drew ?_) | exact HR704_0.out)) hb); have n5_ := Aside0.mk (below_step HW.zb hb); clear HO_6; clear HO_14; clear HR704_0; clear HB; have HO_6 := n0_; have HO_14 := n1_; have HO707 := n3_; have HR704_0 := n4_; have HB := n5_; clear n0_ n1_ n3_ n4_ n5_; (try clear hb); (try clear hb2); (try clear hk); (try clear hi); (try clear ho0); obtain ⟨Ao12, co12, eo12⟩ := Kd.R_slice HO707.out; subst eo12) | ((with_reducible refine gate_builtin (b := .append) (xs := #[.tmp 20, .tmp 23]) rfl ?_); at_builtin; refine Kd.N_append (Kd.slice 5 (Kd.int .u8)) (w0 := w) w.heap.size rfl (.tmp 20) (.tmp 23) 42 23 (.slice none 0 0) 24 rfl Tryd.underlying42 info23 rfl (by decide) (by omega) u6 x6_1 t705 [.slice Ao12 t705.length co12] (fun k_ => (P0_ k_ ∨ w.heap.size ≤ k_) ∧ some k_ ≠ (.slice (some ad704) t699.length co4 : Value).ownBlock) (fun k_ => ((fun k_ => (P0_ k_ ∨ w.heap.size ≤ k_) ∧ some k_ ≠ (.slice (some ad704) t699.length co4 : Value).ownBlock)) k_ ∧ some k_ ≠ (u6 : Value).ownBlock) rfl rfl ?aP (fun _ hk => hk) ?aF ?aO ?aB ?aS ?aL ?_; (case aP => exact (Kd.FK_slice_mk (Kd.R_reads' (Kd.R_mono (ok' := (fun k_ => ((fun k_ => (P0_ k_ ∨ w.heap.size ≤ k_) ∧ some k_ ≠ (.slice (some ad704) t699.length co4 : Value).ownBlock)) k_ ∧ some k_ ≠ (u6 : Value).ownBlock)) (Kd.R_apart' (Kd.R_apart' (HO707.out) (Kd.N_typed HO_14.out) (by decide)) (Kd.N_typed HO_6.out) (by decide)) (fun k_ hk => ⟨⟨(.inr (hk.1.1.1)), hk.1.2⟩, hk.2⟩))).2.1 (Kd.R_F (Kd.R_mono (ok' := (fun k_ => ((fun k_ => (P0_ k_ ∨ w.heap.size ≤ k_) ∧ some k_ ≠ (.slice (some ad704) t699.length co4 : Value).ownBlock)) k_ ∧ some k_ ≠ (u6 : Value).ownBlock)) (Kd.R_apart' (Kd.R_apart' (HO707.out) (Kd.N_typed HO_14.out) (by decide)) (Kd.N_typed HO_6.out) (by decide)) (fun k_ hk => ⟨⟨(.inr (hk.1.1.1)), hk.1.2⟩, hk.2⟩))))); (case aB => exact HW.zb); (case aF => exact (fun k_ hk => ⟨(.inr (Nat.le_trans (below_size HW.zb) hk)), Kd.fresh' (Kd.N_lt (by (with_reducible repeat (first | apply Kd.N_alloc | apply Kd.N_drewN | apply Kd.N_drew)); exact HO_14.out)) k_ hk⟩)); (case aO => exact (by (with_reducible repeat (first | apply Kd.N_alloc | apply Kd.N_drewN | apply Kd.N_drew)); exact Kd.N_mono HO_6.out (fun _ hk => ⟨hk.1.1, hk.1.2⟩))); (case aS => exact (below_size HW.zb)); (case aL => have := LMc9.out; omega); intro v709 w11 ho hb hg hat; rw [← Ny708.out] at ho; have n0_ := Aside0.mk (Kd.N_afterv (ok := (fun k_ => (P0_ k_ ∨ w.heap.size ≤ k_) ∧ some k_ ≠ (.slice Ao12 t705.length co12 : Value).ownBlock)) (by (with_reducible repeat (first | apply Kd.N_alloc | apply Kd.N_drewN | apply Kd.N_drew)); exact Kd.N_mono HO_14.out (fun _ hk => ⟨⟨hk.1.1, hk.2⟩, hk.1.2⟩)) hg hat); have n2_ := Aside0.mk (hb); have n3_ := Aside0.mk (ho); clear HO_14; clear HB; clear HO_6; clear HO707; have HO_14 := n0_; have HB := n2_; have HO710 := n3_; clear n0_ n2_ n3_; clear ho hb hg hat)); try go_wp2_with (first | (go_at_call 26; (with_reducible refine (impl_own.calls _ _ (rd_L4 t699 x16_1) t705 _ ?side1 ?side2 A8.out).mono ?_); (case side1 => repeat (first | exact (by repeat (first | (with_reducible exact HR704_0.out) | (with_reducible refine Kd.C_alloc ?_ _) | (with_reducible refine Kd.C_drewN ?_ _) | (with_reducible refine Kd.C_drew ?_) | exact HR704_0.out)) | (with_reducible refine Kd.C_alloc ?_ _) | (with_reducible refine Kd.C_drewN ?_ _) | (with_reducible refine Kd.C_drew ?_))); (case side2 => exact HC704_0.out); rintro e w10 ⟨v706, rfl, ho0, hb⟩; have n0_ := Aside0.mk (Kd.N_elder' (by (with_reducible repeat (first | apply Kd.N_alloc | apply Kd.N_drewN | apply Kd.N_drew)); exact HO_6.out) (Kd.R_base ho0) hb); have n1_ := Aside0.mk (Kd.N_elder' (by (with_reducible repeat (first | apply Kd.N_alloc | apply Kd.N_drewN | apply Kd.N_drew)); exact HO_14.out) (Kd.R_base ho0) hb); have n3_ := Aside0.mk (Kd.R_lower (Kd.R_newM (M := fun k_ => (w.heap.size ≤ k_)) ho0 (below_size HW.zb) (fun k_ h_ => h_)) (below_size HW.zb)); have n5_ := Aside0.mk (below_step HW.zb hb); clear HO_6; clear HO_14; clear HB; have HO_6 := n0_; have HO_14 := n1_; have HO707 := n3_; have HB := n5_; clear n0_ n1_ n3_ n5_; (try clear hb); (try clear hb2); (try clear hk); (try clear hi); (try clear ho0); obtain ⟨Ao12, co12, eo12⟩ := Kd.R_slice HO707.out; subst eo12) | ((with_reducible refine gate_builtin (b := .append) (xs := #[.tmp 20, .tmp 23]) rfl ?_); at_builtin; refine Kd.N_append (Kd.slice 5 (Kd.int .u8)) (w0 := w) w.heap.size rfl (.tmp 20) (.tmp 23) 42 23 (.slice none 0 0) 24 rfl Tryd.underlying42 info23 rfl (by decide) (by omega) u6 x6_1 t705 [.slice Ao12 t705.length co12] (fun k_ => (P0_ k_ ∨ w.heap.size ≤ k_) ∧ some k_ ≠ (.slice (some ad704) t699.length co4 : Value).ownBlock) (fun k_ => ((fun k_ => (P0_ k_ ∨ w.heap.size ≤ k_) ∧ some k_ ≠ (.slice (some ad704) t699.length co4 : Value).ownBlock)) k_ ∧ some k_ ≠ (u6 : Value).ownBlock) rfl rfl ?aP (fun _ hk => hk) ?aF ?aO ?aB ?aS ?aL ?_; (case aP => exact (Kd.FK_slice_mk (Kd.R_reads' (Kd.R_mono (ok' := (fun k_ => ((fun k_ => (P0_ k_ ∨ w.heap.size ≤ k_) ∧ some k_ ≠ (.slice (some ad704) t699.length co4 : Value).ownBlock)) k_ ∧ some k_ ≠ (u6 : Value).ownBlock)) (Kd.R_apart' (Kd.R_apart' (HO707.out) (Kd.N_typed HO_14.out) (by decide)) (Kd.N_typed HO_6.out) (by decide)) (fun k_ hk => ⟨⟨(.inr (hk.1.1.1)), hk.1.2⟩, hk.2⟩))).2.1 (Kd.R_F (Kd.R_mono (ok' := (fun k_ => ((fun k_ => (P0_ k_ ∨ w.heap.size ≤ k_) ∧ some k_ ≠ (.slice (some ad704) t699.length co4 : Value).ownBlock)) k_ ∧ some k_ ≠ (u6 : Value).ownBlock)) (Kd.R_apart' (Kd.R_apart' (HO707.out) (Kd.N_typed HO_14.out) (by decide)) (Kd.N_typed HO_6.out) (by decide)) (fun k_ hk => ⟨⟨(.inr (hk.1.1.1)), hk.1.2⟩, hk.2⟩))))); (case aB => exact HW.zb); (case aF => exact (fun k_ hk => ⟨(.inr (Nat.le_trans (below_size HW.zb) hk)), Kd.fresh' (Kd.N_lt (by (with_reducible repeat (first | apply Kd.N_alloc | apply Kd.N_drewN | apply Kd.N_drew)); exact HO_14.out)) k_ hk⟩)); (case aO => exact (by (with_reducible repeat (first | apply Kd.N_alloc | apply Kd.N_drewN | apply Kd.N_drew)); exact Kd.N_mono HO_6.out (fun _ hk => ⟨hk.1.1, hk.1.2⟩))); (case aS => exact (below_size HW.zb)); (case aL => have := LMc9.out; omega); intro v709 w11 ho hb hg hat; rw [← Ny708.out] at ho; have n0_ := Aside0.mk (Kd.N_afterv (ok := (fun k_ => (P0_ k_ ∨ w.heap.size ≤ k_) ∧ some k_ ≠ (.slice Ao12 t705.length co12 : Value).ownBlock)) (by (with_reducible repeat (first | apply Kd.N_alloc | apply Kd.N_drewN | apply Kd.N_drew)); exact Kd.N_mono HO_14.out (fun _ hk => ⟨⟨hk.1.1, hk.2⟩, hk.1.2⟩)) hg hat); have n2_ := Aside0.mk (hb); have n3_ := Aside0.mk (ho); clear HO_14; clear HB; clear HO_6; clear HO707; have HO_14 := n0_; have HB := n2_; have HO710 := n3_; clear n0_ n2_ n3_; clear ho hb hg hat)))
        go_roundg k1
        case measure => have := HK1.out; omega
        case rel => exact ⟨(y708), (wrap64 (x16_1 + 1)), (by first | rfl | (simp; done) | (simp [*]; done)), H', ⟨by have := HK1.out; omega⟩, ⟨by (with_reducible repeat (first | apply Kd.N_alloc | apply Kd.N_drewN | apply Kd.N_drew)); exact HO710.out⟩, ⟨by (with_reducible repeat (first | apply Kd.N_alloc | apply Kd.N_drewN | apply Kd.N_drew)); exact Kd.N_mono HO_14.out (fun _ hk => ⟨hk.1.1, hk.2⟩)⟩, ⟨HW.zb⟩⟩

/-! ### bson_RawElement_KeyErr: function 27 -/
def bson_RawElement_KeyErr.f (l0 : List Int) : Option (ByteArray × Option Int) := (bsoncore_Element_KeyErr.f l0).bind fun bt711 => (some (bt711.1, bt711.2))
set_option maxHeartbeats 8000000 in
set_option maxRecDepth 100000 in
theorem bson_RawElement_KeyErr.calls (A0 : Option Addr) (c0 : Nat) (l0 : List Int) (r1 : ByteArray) (r2 : Option Int) (w : World) (hr0 : Kd.C (Kd.int .u8) w A0 l0.length l0) (hc0 : l0.length ≤ c0) (h : bson_RawElement_KeyErr.f l0 = some (r1, r2)) :
    Calls Tryd.prog 27 #[.slice A0 l0.length c0] w fun e w' => e = .returned (.tuple #[.string r1, errW r2]) ∧ Below w.heap.size w w' := by
  have HR0 := Aside0.mk hr0
  have HC0 := Aside0.mk hc0
  clear hr0 hc0
  have HB := Aside0.mk (Below.refl w.heap.size w)
  have H : ((bsoncore_Element_KeyErr.f l0).bind fun bt711 => (some (bt711.1, bt711.2))) = some (r1, r2) := h
  clear h
  replace H := Option.bind_eq_some_iff.mp H
  obtain ⟨⟨t711, t712⟩, A20, H⟩ := H
  replace H : (some (t711, t712)) = some (r1, r2) := H
  have A2 := Aside0.mk A20
  clear A20
  as_aux_lemma =>
    simp only [Option.some.injEq, Prod.mk.injEq] at H
    obtain ⟨rfl, rfl⟩ := H
    go_enter Tryd.func27, Tryd.ntmps27
    go_wp2_with (first | ((with_reducible refine gate_callee (f := 36) rfl ?_); refine HW.gz (some 5) rfl rfl Tryd.func36 (by kernel_rfl) rfl #[.slice A0 l0.length c0] rfl ?_; (with_reducible refine (bsoncore_Element_KeyErr.calls _ _ l0 t711 t712 _ ?side1 ?side2 A2.out).mono ?_); (case side1 => repeat (first | exact HR0.out | (with_reducible refine Kd.C_alloc ?_ _) | (with_reducible refine Kd.C_drewN ?_ _) | (with_reducible refine Kd.C_drew ?_))); (case side2 => exact HC0.out); rintro e w3 ⟨rfl, hb⟩; refine ⟨_, rfl, ?_⟩; have n0_ := Aside0.mk (below_step HW.zb hb); clear HB; have HB := n0_; clear n0_; (try clear hb); (try clear hb2); (try clear hk); (try clear hi); (try simp only [errW_none, errW_some])))
    go_ret2
    exact ⟨by first | rfl | (simp [errW_none, errW_some] <;> rfl) | (simp [*, errW_none, errW_some] <;> rfl), HW.zb⟩

/-! ### impl_RawKey: function 14 -/
def impl_RawKey.f (l0 : List Int) : Option (ByteArray × Int) := (bson_RawElement_KeyErr.f l0).bind fun bt713 => ((impl_code.f bt713.2).bind fun t715 => (some (bt713.1, t715)))
set_option maxHeartbeats 8000000 in
set_option maxRecDepth 100000 in
theorem impl_RawKey.calls (A0 : Option Addr) (c0 : Nat) (l0 : List Int) (r1 : ByteArray) (r2 : Int) (w : World) (hr0 : Kd.C (Kd.int .u8) w A0 l0.length l0) (hc0 : l0.length ≤ c0) (h : impl_RawKey.f l0 = some (r1, r2)) :
    Calls Tryd.prog 14 #[.slice A0 l0.length c0] w fun e w' => e = .returned (.tuple #[.string r1, .int .i64 r2]) ∧ Below w.heap.size w w' := by
  have HR0 := Aside0.mk hr0
  have HC0 := Aside0.mk hc0
  clear hr0 hc0
  have HB := Aside0.mk (Below.refl w.heap.size w)
  have H : ((bson_RawElement_KeyErr.f l0).bind fun bt713 => ((impl_code.f bt713.2).bind fun t715 => (some (bt713.1, t715)))) = some (r1, r2) := h
  clear h
  replace H := Option.bind_eq_some_iff.mp H
  obtain ⟨⟨t713, t714⟩, A20, H⟩ := H
  replace H : ((impl_code.f t714).bind fun t715 => (some (t713, t715))) = some (r1, r2) := H
  have A2 := Aside0.mk A20
  clear A20
  replace H := Option.bind_eq_some_iff.mp H
  obtain ⟨t715, A30, H⟩ := H
  replace H : (some (t713, t715)) = some (r1, r2) := H
  have A3 := Aside0.mk A30
  clear A30
  as_aux_lemma =>
    simp only [Option.some.injEq, Prod.mk.injEq] at H
    obtain ⟨rfl, rfl⟩ := H
    go_enter Tryd.func14, Tryd.ntmps14
    go_wp2_with (first | ((with_reducible refine gate_callee (f := 27) rfl ?_); refine HW.gz (some 8) rfl rfl Tryd.func27 (by kernel_rfl) rfl #[.slice A0 l0.length c0] rfl ?_; (with_reducible refine (bson_RawElement_KeyErr.calls _ _ l0 t713 t714 _ ?side1 ?side2 A2.out).mono ?_); (case side1 => repeat (first | exact HR0.out | (with_reducible refine Kd.C_alloc ?_ _) | (with_reducible refine Kd.C_drewN ?_ _) | (with_reducible refine Kd.C_drew ?_))); (case side2 => exact HC0.out); rintro e w4 ⟨rfl, hb⟩; refine ⟨_, rfl, ?_⟩; have n0_ := Aside0.mk (below_step HW.zb hb); clear HB; have HB := n0_; clear n0_; (try clear hb); (try clear hb2); (try clear hk); (try clear hi); (try simp only [errW_none, errW_some]); have CA3 := fun W => impl_code.calls t714 t715 W A3.out; try simp only [errW_none, errW_some] at CA3) | (go_at_call 24; (with_reducible refine (CA3 _).mono ?_); rintro e w5 ⟨rfl, hb⟩; have n0_ := Aside0.mk (below_step HW.zb hb); clear HB; have HB := n0_; clear n0_; (try clear hb); (try clear hb2); (try clear hk); (try clear hi)))
    go_ret2
    exact ⟨by first | rfl | (simp [errW_none, errW_some] <;> rfl) | (simp [*, errW_none, errW_some] <;> rfl), HW.zb⟩

/-! ### bson_RawElement_ValueErr: function 28 -/
def bson_RawElement_ValueErr.f (k : Nat) (l0 : List Int) : Option (Int × List Int × Option Int) := (bsoncore_Element_ValueErr.f k l0).bind fun bt717 => ((bson_convertFromCoreValue.f bt717.1 bt717.2.1).bind fun bt723 => (some (bt723.1, bt723.2, bt717.2.2)))
theorem bson_RawElement_ValueErr.mono : ∀ a0 k, LeO (bson_RawElement_ValueErr.f k a0) (bson_RawElement_ValueErr.f (k + 1) a0) := by
  intro a0 k
  unfold bson_RawElement_ValueErr.f
  repeat' first
      | (with_reducible exact bsoncore_Element_ValueErr.mono _ _)
      | (with_reducible exact LeO.refl _)
      | (with_reducible exact LeO.none _)
      | (with_reducible refine LeO.ite ?_ ?_)
      | (with_reducible refine LeO.bind ?_ (fun _ => ?_))
      | exact bsoncore_Element_ValueErr.mono _ _
      | exact LeO.none _
      | refine LeO.ite ?_ ?_
      | refine LeO.bind ?_ (fun _ => ?_)
set_option maxHeartbeats 8000000 in
set_option maxRecDepth 100000 in
theorem bson_RawElement_ValueErr.calls (k : Nat) (P0_ : Nat → Prop) (A0 : Option Addr) (c0 : Nat) (l0 : List Int) (r1 : Int) (r2 : List Int) (r3 : Option Int) (w : World) (hs0 : Kd.V (Kd.int .u8) 5 w w.heap.size (fun k_ => P0_ k_) (.slice A0 l0.length c0) l0) (h : bson_RawElement_ValueErr.f k l0 = some (r1, r2, r3)) :
    Calls Tryd.prog 28 #[.slice A0 l0.length c0] w fun e w' => ∃ v1_ : Value, e = .returned (.tuple #[.agg #[.int .u8 r1, v1_], errW r3]) ∧ Kd.V (Kd.int .u8) 5 w' w.heap.size (fun k_ => (P0_ k_ ∨ w.heap.size ≤ k_)) v1_ r2 ∧ Below w.heap.size w w' := by
  have hu54 := Tryd.underlying54
  have hu77 := Tryd.underlying77
  have HO0 := Aside0.mk (show Kd.V (Kd.int .u8) 5 w w.heap.size (fun k_ => (P0_ k_ ∨ w.heap.size ≤ k_)) (.slice A0 l0.length c0) l0 from Kd.V_mono hs0 (fun k_ hk => .inl hk))
  have HB := Aside0.mk (Below.refl w.heap.size w)
  have H : ((bsoncore_Element_ValueErr.f k l0).bind fun bt717 => ((bson_convertFromCoreValue.f bt717.1 bt717.2.1).bind fun bt723 => (some (bt723.1, bt723.2, bt717.2.2)))) = some (r1, r2, r3) := h
  clear h
  replace H := Option.bind_eq_some_iff.mp H
  obtain ⟨⟨t717, t718, t721⟩, A20, H⟩ := H
  replace H : ((bson_convertFromCoreValue.f t717 t718).bind fun bt723 => (some (bt723.1, bt723.2, t721))) = some (r1, r2, r3) := H
  have A2 := Aside0.mk A20
  clear A20
  replace H := Option.bind_eq_some_iff.mp H
  obtain ⟨⟨t723, t724⟩, A30, H⟩ := H
  replace H : (some (t723, t724, t721)) = some (r1, r2, r3) := H
  have A3 := Aside0.mk A30
  clear A30
  as_aux_lemma =>
    simp only [Option.some.injEq, Prod.mk.injEq] at H
    obtain ⟨rfl, rfl, rfl⟩ := H
    go_enter Tryd.func28, Tryd.ntmps28
    go_wp2_with (first | ((with_reducible refine gate_dst (N := 2) rfl ?_); refine box_event ?hg (N := 2) ?hd (cs := #[.int .u8 0, .slice none 0 0]) (t := 54) ?hr ?_; (case hd => rfl); (case hg => rfl); (case hr => first | (go_simp; done) | (go_simp; rfl)); intro gb716 hg w4 hbox hb; have n0_ := Aside0.mk (Kd.V_below (Kd.V_elderB (HW.zV HO0.out) gb716 (Nat.le_of_eq hg.symm)) hb); have n1_ := Aside0.mk (below_step HW.zb hb); have n2_ := Aside0.mk (hbox); have n4_ := Aside0.mk ((by rw [hg]; exact (below_size HW.zb) : w.heap.size ≤ gb716)); clear HO0; clear HB; have HO0 := n0_; have HB := n1_; have BK716 := n2_; have GE716 := n4_; clear n0_ n1_ n2_ n4_; clear hb hbox hg) | ((with_reducible refine gate_callee (f := 37) rfl ?_); refine HW.gz (some 8) rfl rfl Tryd.func37 (by kernel_rfl) rfl #[.slice A0 l0.length c0] rfl ?_; (with_reducible refine (bsoncore_Element_ValueErr.calls k (fun k_ => ((P0_ k_ ∨ w.heap.size ≤ k_) ∧ k_ ≠ gb716)) _ _ l0 t717 t718 t721 _ ?side1 A2.out).mono ?_); (case side1 => exact HO0.out); rintro e w5 ⟨v719, rfl, ho0, hb⟩; refine ⟨_, rfl, ?_⟩; have n0_ := Aside0.mk (Kd.V_below (HW.zV HO0.out) hb); have n1_ := Aside0.mk (Kd.V_lower (Kd.V_mono (ok' := fun k_ => (P0_ k_ ∨ w.heap.size ≤ k_) ∧ k_ ≠ gb716) ho0 (fun k_ hk_ => ⟨Or.elim hk_ (fun hs_ => hs_.1) (fun hn_ => (.inr (Nat.le_trans (below_size HW.zb) hn_))), Or.elim hk_ (fun hs_ => hs_.2) (fun hn_ => (Kd.freshB (g := gb716) (o := .cells #[.int .u8 0, .slice none 0 0] 54 (0, 0)) (HW.zB BK716.out) k_ hn_))⟩)) (below_size HW.zb)); have n2_ := Aside0.mk (blk_below (g := gb716) (o := .cells #[.int .u8 0, .slice none 0 0] 54 (0, 0)) (HW.zB BK716.out) hb); have n3_ := Aside0.mk (below_step HW.zb hb); clear HO0; clear BK716; clear HB; have HO0 := n0_; have HO720 := n1_; have BK716 := n2_; have HB := n3_; clear n0_ n1_ n2_ n3_; (try clear hb); (try clear hb2); (try clear hk); (try clear hi); (try clear ho0); (try simp only [errW_none, errW_some])) | ((with_reducible refine gate_dst (N := 4) rfl ?_); refine box_event ?hg (N := 4) ?hd (cs := #[.int .u8 0, .slice none 0 0]) (t := 77) ?hr ?_; (case hd => rfl); (case hg => rfl); (case hr => first | (go_simp; done) | (go_simp; rfl)); intro gb722 hg w6 hbox hb; have n0_ := Aside0.mk (Kd.V_below (Kd.V_elderB (HW.zV HO0.out) gb722 (Nat.le_of_eq hg.symm)) hb); have n1_ := Aside0.mk (Kd.V_below (Kd.V_elderB (HW.zV HO720.out) gb722 (Nat.le_of_eq hg.symm)) hb); have n2_ := Aside0.mk (blk_below (g := gb716) (o := .cells #[.int .u8 0, .slice none 0 0] 54 (0, 0)) (HW.zB BK716.out) hb); have n3_ := Aside0.mk (below_step HW.zb hb); have n4_ := Aside0.mk (hbox); have n6_ := Aside0.mk ((by rw [hg]; exact (below_size HW.zb) : w.heap.size ≤ gb722)); have n7_ := Aside0.mk ((by rw [hg]; exact Nat.ne_of_lt (blk_lt (g := gb716) (o := .cells #[.int .u8 0, .slice none 0 0] 54 (0, 0)) (HW.zB BK716.out)) : gb716 ≠ gb722)); have n8_ := Aside0.mk ((by rw [hg]; exact Nat.ne_of_gt (blk_lt (g := gb716) (o := .cells #[.int .u8 0, .slice none 0 0] 54 (0, 0)) (HW.zB BK716.out)) : gb722 ≠ gb716)); clear HO0; clear HO720; clear BK716; clear HB; have HO0 := n0_; have HO720 := n1_; have BK716 := n2_; have HB := n3_; have BK722 := n4_; have GE722 := n6_; have NB716_722 := n7_; have NB722_716 := n8_; clear n0_ n1_ n2_ n3_ n4_ n6_ n7_ n8_; clear hb hbox hg; have hnb7 := NB722_716.out; have hnc7 := NB716_722.out; have hcz8_0 := HW.zc BK722.out 0 (.int .u8 0); have hcz8_1 := HW.zc BK722.out 1 (.slice none 0 0); have hfz9_0 := blk_frozen BK722.out 0; have hfz9_1 := blk_frozen BK722.out 1; obtain ⟨Ao10, co10, eo10⟩ := Kd.V_slice HO720.out; subst eo10) | ((with_reducible refine gate_store (t := 77) (p := 4) rfl ?_); refine store_event (t := 77) (p := 4) (v := ?vo_w11) (w1 := ((w6.setCell ⟨gb722, 0, none⟩ (.int .u8 t717)).setCell ⟨gb722, 1, none⟩ (.slice Ao10 t718.length co10))) ?hg ?ho ?hn ?hr ?_; (case ho => rfl); (case hg => rfl); (case hn => rfl); (case hr => first | (go_simp; done) | (go_simp; rfl)); intro w11 hw; have n0_ : Aside0 (Kd.V (Kd.int .u8) 5 w11 w.heap.size (fun k_ => (P0_ k_ ∨ w.heap.size ≤ k_) ∧ k_ ≠ gb716 ∧ k_ ≠ gb722) (.slice A0 l0.length c0) l0) := ⟨(by rw [hw]; exact (by (with_reducible repeat (first | apply Kd.V_alloc | apply Kd.V_drewN | apply Kd.V_drew)); exact Kd.V_mono (Kd.V_far (p := ⟨gb722, 1, none⟩) (Kd.V_far (p := ⟨gb722, 0, none⟩) (Kd.V_mono HO0.out (fun k_ hk => (⟨hk, hk.2⟩ : _ ∧ k_ ≠ gb722))) (fun _ hk => hk.2) (.int .u8 t717)) (fun _ hk => hk.2) (.slice Ao10 t718.length co10)) (fun _ hk => ⟨hk.1.1.1, ⟨hk.1.1.2, hk.1.2⟩⟩)))⟩; have n1_ : Aside0 (Kd.V (Kd.int .u8) 5 w11 w.heap.size (fun k_ => (P0_ k_ ∨ w.heap.size ≤ k_) ∧ k_ ≠ gb716 ∧ k_ ≠ gb722) (.slice Ao10 t718.length co10) t718) := ⟨(by rw [hw]; exact (by (with_reducible repeat (first | apply Kd.V_alloc | apply Kd.V_drewN | apply Kd.V_drew)); exact Kd.V_mono (Kd.V_far (p := ⟨gb722, 1, none⟩) (Kd.V_far (p := ⟨gb722, 0, none⟩) (Kd.V_mono HO720.out (fun k_ hk => (⟨hk, hk.2⟩ : _ ∧ k_ ≠ gb722))) (fun _ hk => hk.2) (.int .u8 t717)) (fun _ hk => hk.2) (.slice Ao10 t718.length co10)) (fun _ hk => ⟨hk.1.1.1, ⟨hk.1.1.2, hk.1.2⟩⟩)))⟩; have n2_ : Aside0 (w11.heap[gb716]? = some (.cells #[.int .u8 0, .slice none 0 0] 54 (0, 0))) := ⟨(by rw [hw]; exact (by (with_reducible repeat (first | refine blk_drewN ?_ _ | refine blk_drew ?_ | refine blk_alloc ?_ _)); refine blk_far ?_ NB716_722.out _; (with_reducible repeat (first | refine blk_drewN ?_ _ | refine blk_drew ?_ | refine blk_alloc ?_ _)); refine blk_far ?_ NB716_722.out _; (with_reducible repeat (first | refine blk_drewN ?_ _ | refine blk_drew ?_ | refine blk_alloc ?_ _)); exact BK716.out))⟩; have n3_ : Aside0 (w11.heap[gb722]? = some (.cells #[.int .u8 t717, .slice Ao10 t718.length co10] 77 (0, 0))) := ⟨(by rw [hw]; exact (by (with_reducible repeat (first | refine blk_drewN ?_ _ | refine blk_drew ?_ | refine blk_alloc ?_ _)); refine blk_put (cs := #[.int .u8 t717, .slice none 0 0]) ?_ 1 _ rfl; (with_reducible repeat (first | refine blk_drewN ?_ _ | refine blk_drew ?_ | refine blk_alloc ?_ _)); refine blk_put (cs := #[.int .u8 0, .slice none 0 0]) ?_ 0 _ rfl; (with_reducible repeat (first | refine blk_drewN ?_ _ | refine blk_drew ?_ | refine blk_alloc ?_ _)); exact BK722.out))⟩; have n4_ : Aside0 (Below w.heap.size w w11) := ⟨(by rw [hw]; exact HW.zb)⟩; clear hw; clear HO0; clear HO720; clear BK716; clear BK722; clear HB; have HO0 := n0_; have HO720 := n1_; have BK716 := n2_; have BK722 := n3_; have HB := n4_; clear n0_ n1_ n2_ n3_ n4_; have hcz12_0 := HW.zc BK722.out 0 (.int .u8 t717); have hcz12_1 := HW.zc BK722.out 1 (.slice Ao10 t718.length co10)) | ((with_reducible refine gate_callee (f := 33) rfl ?_); refine HW.gz (some 12) rfl rfl Tryd.func33 (by kernel_rfl) rfl #[.agg #[.int .u8 t717, .slice Ao10 t718.length co10]] rfl ?_; (with_reducible refine (bson_convertFromCoreValue.calls t717 (fun k_ => ((P0_ k_ ∨ w.heap.size ≤ k_) ∧ (k_ ≠ gb716 ∧ k_ ≠ gb722))) _ _ t718 t723 t724 _ ?side1 A3.out).mono ?_); (case side1 => exact HO720.out); rintro e w13 ⟨v725, rfl, ho0, hb⟩; refine ⟨_, rfl, ?_⟩; have n2_ := Aside0.mk (Kd.V_lower (Kd.V_mono (ok' := fun k_ => (P0_ k_ ∨ w.heap.size ≤ k_) ∧ k_ ≠ gb716 ∧ k_ ≠ gb722) ho0 (fun k_ hk_ => ⟨Or.elim hk_ (fun hs_ => hs_.1) (fun hn_ => (.inr (Nat.le_trans (below_size HW.zb) hn_))), Or.elim hk_ (fun hs_ => hs_.2.1) (fun hn_ => (Kd.freshB (g := gb716) (o := .cells #[.int .u8 0, .slice none 0 0] 54 (0, 0)) (HW.zB BK716.out) k_ hn_)), Or.elim hk_ (fun hs_ => hs_.2.2) (fun hn_ => (Kd.freshB (g := gb722) (o := .cells #[.int .u8 t717, .slice Ao10 t718.length co10] 77 (0, 0)) (HW.zB BK722.out) k_ hn_))⟩)) (below_size HW.zb)); have n3_ := Aside0.mk (blk_below (g := gb716) (o := .cells #[.int .u8 0, .slice none 0 0] 54 (0, 0)) (HW.zB BK716.out) hb); have n5_ := Aside0.mk (below_step HW.zb hb); clear BK716; clear HB; have HO726 := n2_; have BK716 := n3_; have HB := n5_; clear n2_ n3_ n5_; (try clear hb); (try clear hb2); (try clear hk); (try clear hi); (try clear ho0); have hcz14_0 := HW.zc BK716.out 0 (.int .u8 0); have hcz14_1 := HW.zc BK716.out 1 (.slice none 0 0); have hfz15_0 := blk_frozen BK716.out 0; have hfz15_1 := blk_frozen BK716.out 1; obtain ⟨Ao16, co16, eo16⟩ := Kd.V_slice HO726.out; subst eo16))
    refine bodyPost_ret (results_ct rfl _ _ gb716 54 #[.int .u8 t723, .slice Ao16 t724.length co16] (0, 0) _ rfl (by (with_reducible repeat (first | refine blk_drewN ?_ _ | refine blk_drew ?_ | refine blk_alloc ?_ _)); refine blk_put (cs := #[.int .u8 t723, .slice none 0 0]) ?_ 1 _ rfl; (with_reducible repeat (first | refine blk_drewN ?_ _ | refine blk_drew ?_ | refine blk_alloc ?_ _)); refine blk_put (cs := #[.int .u8 0, .slice none 0 0]) ?_ 0 _ rfl; (with_reducible repeat (first | refine blk_drewN ?_ _ | refine blk_drew ?_ | refine blk_alloc ?_ _)); exact BK716.out) Tryd.underlying54 rfl (by kernel_rfl)) rfl ?_
    exact ⟨_, by first | rfl | (simp [errW_none, errW_some] <;> rfl) | (simp [*, errW_none, errW_some] <;> rfl), by (with_reducible repeat (first | apply Kd.V_alloc | apply Kd.V_drewN | apply Kd.V_drew)); exact Kd.V_mono (Kd.V_far (p := ⟨gb716, 1, none⟩) (Kd.V_far (p := ⟨gb716, 0, none⟩) (Kd.V_mono HO726.out (fun k_ hk => (⟨hk, hk.2.1⟩ : _ ∧ k_ ≠ gb716))) (fun _ hk => hk.2) (.int .u8 t723)) (fun _ hk => hk.2) (.slice Ao16 t724.length co16)) (fun _ hk => hk.1.1), HW.zb⟩

/-! ### impl_RawElementValue: function 15 -/
def impl_RawElementValue.f (k : Nat) (l0 : List Int) : Option (Int × List Int × Int) := (bson_RawElement_ValueErr.f k l0).bind fun bt728 => ((impl_some1.f bt728.1 bt728.2.1).bind fun bt734 => ((impl_code.f bt728.2.2).bind fun t738 => (some (bt734.1, bt734.2, t738))))
theorem impl_RawElementValue.mono : ∀ a0 k, LeO (impl_RawElementValue.f k a0) (impl_RawElementValue.f (k + 1) a0) := by
  intro a0 k
  unfold impl_RawElementValue.f
  repeat' first
      | (with_reducible exact bson_RawElement_ValueErr.mono _ _)
      | (with_reducible exact LeO.refl _)
      | (with_reducible exact LeO.none _)
      | (with_reducible refine LeO.ite ?_ ?_)
      | (with_reducible refine LeO.bind ?_ (fun _ => ?_))
      | exact bson_RawElement_ValueErr.mono _ _
      | exact LeO.none _
      | refine LeO.ite ?_ ?_
      | refine LeO.bind ?_ (fun _ => ?_)
set_option maxHeartbeats 8000000 in
set_option maxRecDepth 100000 in
theorem impl_RawElementValue.calls (k : Nat) (A0 : Option Addr) (c0 : Nat) (l0 : List Int) (r1 : Int) (r2 : List Int) (r3 : Int) (w : World) (hr0 : Kd.C (Kd.int .u8) w A0 l0.length l0) (hc0 : l0.length ≤ c0) (h : impl_RawElementValue.f k l0 = some (r1, r2, r3)) :
    Calls Tryd.prog 15 #[.slice A0 l0.length c0] w fun e w' => ∃ v1_ : Value, e = .returned (.tuple #[.agg #[.int .i64 r1, v1_], .int .i64 r3]) ∧ Kd.R (Kd.int .u8) 5 w' w.heap.size (fun _ => True) v1_ r2 ∧ Below w.heap.size w w' := by
  have hu36 := Tryd.underlying36
  have hu54 := Tryd.underlying54
  have HR0 := Aside0.mk hr0
  have HC0 := Aside0.mk hc0
  clear hr0 hc0
  have HB := Aside0.mk (Below.refl w.heap.size w)
  have H : ((bson_RawElement_ValueErr.f k l0).bind fun bt728 => ((impl_some1.f bt728.1 bt728.2.1).bind fun bt734 => ((impl_code.f bt728.2.2).bind fun t738 => (some (bt734.1, bt734.2, t738))))) = some (r1, r2, r3) := h
  clear h
  replace H := Option.bind_eq_some_iff.mp H
  obtain ⟨⟨t728, t729, t732⟩, A20, H⟩ := H
  replace H : ((impl_some1.f t728 t729).bind fun bt734 => ((impl_code.f t732).bind fun t738 => (some (bt734.1, bt734.2, t738)))) = some (r1, r2, r3) := H
  have A2 := Aside0.mk A20
  clear A20
  replace H := Option.bind_eq_some_iff.mp H
  obtain ⟨⟨t734, t735⟩, A30, H⟩ := H
  replace H : ((impl_code.f t732).bind fun t738 => (some (t734, t735, t738))) = some (r1, r2, r3) := H
  have A3 := Aside0.mk A30
  clear A30
  replace H := Option.bind_eq_some_iff.mp H
  obtain ⟨t738, A40, H⟩ := H
  replace H : (some (t734, t735, t738)) = some (r1, r2, r3) := H
  have A4 := Aside0.mk A40
  clear A40
  as_aux_lemma =>
    simp only [Option.some.injEq, Prod.mk.injEq] at H
    obtain ⟨rfl, rfl, rfl⟩ := H
    go_enter Tryd.func15, Tryd.ntmps15
    go_wp2_with (first | ((with_reducible refine gate_dst (N := 2) rfl ?_); refine box_event ?hg (N := 2) ?hd (cs := #[.int .i64 0, .slice none 0 0]) (t := 36) ?hr ?_; (case hd => rfl); (case hg => rfl); (case hr => first | (go_simp; done) | (go_simp; rfl)); intro gb727 hg w5 hbox hb; have n0_ := Aside0.mk (below_step HW.zb hb); have n1_ := Aside0.mk (hbox); have n2_ := Aside0.mk ((by rw [hg]; exact (below_size HW.zb) : w.heap.size ≤ gb727)); have n3_ := Aside0.mk ((by rw [hg]; exact (below_size HW.zb) : w.heap.size ≤ gb727)); clear HB; have HB := n0_; have BK727 := n1_; have GW727 := n2_; have GE727 := n3_; clear n0_ n1_ n2_ n3_; clear hb hbox hg) | ((with_reducible refine gate_callee (f := 28) rfl ?_); refine HW.gz (some 8) rfl rfl Tryd.func28 (by kernel_rfl) rfl #[.slice A0 l0.length c0] rfl ?_; (with_reducible refine (bson_RawElement_ValueErr.calls k (fun k_ => k_ < w.heap.size) _ _ l0 t728 t729 t732 _ ?side1 A2.out).mono ?_); (case side1 => exact Kd.V_mk HC0.out (Kd.F_below (Kd.C_F (Kd.heap_int .u8) HR0.out) HW.zb)); rintro e w6 ⟨v730, rfl, ho0, hb⟩; refine ⟨_, rfl, ?_⟩; have n0_ := Aside0.mk (Kd.V_lower (Kd.V_mono (ok' := fun k_ => k_ ≠ gb727) ho0 (fun k_ hk_ => Or.elim hk_ (fun hs_ => fun e_ => Nat.not_le.2 hs_ (by rw [e_]; exact GW727.out)) (fun hn_ => (Kd.freshB (g := gb727) (o := .cells #[.int .i64 0, .slice none 0 0] 36 (0, 0)) (HW.zB BK727.out) k_ hn_)))) (below_size HW.zb)); have n1_ := Aside0.mk (blk_below (g := gb727) (o := .cells #[.int .i64 0, .slice none 0 0] 36 (0, 0)) (HW.zB BK727.out) hb); have n2_ := Aside0.mk (below_step HW.zb hb); clear BK727; clear HB; have HO731 := n0_; have BK727 := n1_; have HB := n2_; clear n0_ n1_ n2_; (try clear hb); (try clear hb2); (try clear hk); (try clear hi); (try clear ho0); (try simp only [errW_none, errW_some])) | ((with_reducible refine gate_dst (N := 4) rfl ?_); refine box_event ?hg (N := 4) ?hd (cs := #[.int .u8 0, .slice none 0 0]) (t := 54) ?hr ?_; (case hd => rfl); (case hg => rfl); (case hr => first | (go_simp; done) | (go_simp; rfl)); intro gb733 hg w7 hbox hb; have n0_ := Aside0.mk (Kd.V_below (Kd.V_elderB (HW.zV HO731.out) gb733 (Nat.le_of_eq hg.symm)) hb); have n1_ := Aside0.mk (blk_below (g := gb727) (o := .cells #[.int .i64 0, .slice none 0 0] 36 (0, 0)) (HW.zB BK727.out) hb); have n2_ := Aside0.mk (below_step HW.zb hb); have n3_ := Aside0.mk (hbox); have n5_ := Aside0.mk ((by rw [hg]; exact (below_size HW.zb) : w.heap.size ≤ gb733)); have n6_ := Aside0.mk ((by rw [hg]; exact Nat.ne_of_lt (blk_lt (g := gb727) (o := .cells #[.int .i64 0, .slice none 0 0] 36 (0, 0)) (HW.zB BK727.out)) : gb727 ≠ gb733)); have n7_ := Aside0.mk ((by rw [hg]; exact Nat.ne_of_gt (blk_lt (g := gb727) (o := .cells #[.int .i64 0, .slice none 0 0] 36 (0, 0)) (HW.zB BK727.out)) : gb733 ≠ gb727)); clear HO731; clear BK727; clear HB; have HO731 := n0_; have BK727 := n1_; have HB := n2_; have BK733 := n3_; have GE733 := n5_; have NB727_733 := n6_; have NB733_727 := n7_; clear n0_ n1_ n2_ n3_ n5_ n6_ n7_; clear hb hbox hg; have hnb8 := NB733_727.out; have hnc8 := NB727_733.out; have hcz9_0 := HW.zc BK733.out 0 (.int .u8 0); have hcz9_1 := HW.zc BK733.out 1 (.slice none 0 0); have hfz10_0 := blk_frozen BK733.out 0; have hfz10_1 := blk_frozen BK733.out 1; obtain ⟨Ao11, co11, eo11⟩ := Kd.V_slice HO731.out; subst eo11) | ((with_reducible refine gate_callee (f := 23) rfl ?_); refine HW.gz (some 12) rfl rfl Tryd.func23 (by kernel_rfl) rfl #[.agg #[.int .u8 t728, .slice Ao11 t729.length co11]] rfl ?_; (with_reducible refine (impl_some1.calls t728 _ _ t729 t734 t735 _ ?side1 ?side2 A3.out).mono ?_); (case side1 => refine (Kd.V_reads' (e := 5) (base := w.heap.size) (ok := fun k_ => (k_ ≠ gb727 ∧ k_ ≠ gb733)) (n := t729.length) (c := co11) ?_).2.2; exact (by (with_reducible repeat (first | apply Kd.V_alloc | apply Kd.V_drewN | apply Kd.V_drew)); exact (Kd.V_mono (Kd.V_far (p := ⟨gb733, 1, none⟩) (Kd.V_far (p := ⟨gb733, 0, none⟩) (Kd.V_mono HO731.out (fun k_ hk => (⟨hk, hk.2⟩ : _ ∧ k_ ≠ gb733))) (fun _ hk => hk.2) (.int .u8 t728)) (fun _ hk => hk.2) (.slice Ao11 t729.length co11)) (fun _ h_ => h_.1)))); (case side2 => exact (Kd.V_reads' HO731.out).2.1); rintro e w12 ⟨v736, rfl, ho0, hb⟩; refine ⟨_, rfl, ?_⟩; have n1_ := Aside0.mk (Kd.R_lower ho0 (below_size HW.zb)); have n2_ := Aside0.mk (blk_below (g := gb727) (o := .cells #[.int .i64 0, .slice none 0 0] 36 (0, 0)) (by (with_reducible repeat (first | refine blk_drewN ?_ _ | refine blk_drew ?_ | refine blk_alloc ?_ _)); refine blk_far ?_ NB727_733.out _; (with_reducible repeat (first | refine blk_drewN ?_ _ | refine blk_drew ?_ | refine blk_alloc ?_ _)); refine blk_far ?_ NB727_733.out _; (with_reducible repeat (first | refine blk_drewN ?_ _ | refine blk_drew ?_ | refine blk_alloc ?_ _)); exact BK727.out) hb); have n4_ := Aside0.mk (below_step HW.zb hb); clear BK727; clear HB; have HO737 := n1_; have BK727 := n2_; have HB := n4_; clear n1_ n2_ n4_; (try clear hb); (try clear hb2); (try clear hk); (try clear hi); (try clear ho0); have CA4 := fun W => impl_code.calls t732 t738 W A4.out; try simp only [errW_none, errW_some] at CA4) | (go_at_call 24; (with_reducible refine (CA4 _).mono ?_); rintro e w13 ⟨rfl, hb⟩; have n1_ := Aside0.mk (Kd.R_below (HW.zR HO737.out) hb); have n2_ := Aside0.mk (blk_below (g := gb727) (o := .cells #[.int .i64 0, .slice none 0 0] 36 (0, 0)) (HW.zB BK727.out) hb); have n4_ := Aside0.mk (below_step HW.zb hb); clear HO737; clear BK727; clear HB; have HO737 := n1_; have BK727 := n2_; have HB := n4_; clear n1_ n2_ n4_; (try clear hb); (try clear hb2); (try clear hk); (try clear hi); have hcz14_0 := HW.zc BK727.out 0 (.int .i64 0); have hcz14_1 := HW.zc BK727.out 1 (.slice none 0 0); have hfz15_0 := blk_frozen BK727.out 0; have hfz15_1 := blk_frozen BK727.out 1; obtain ⟨Ao16, co16, eo16⟩ := Kd.R_slice HO737.out; subst eo16))
    refine bodyPost_ret (results_ct rfl _ _ gb727 36 #[.int .i64 t734, .slice Ao16 t735.length co16] (0, 0) _ rfl (by (with_reducible repeat (first | refine blk_drewN ?_ _ | refine blk_drew ?_ | refine blk_alloc ?_ _)); refine blk_put (cs := #[.int .i64 t734, .slice none 0 0]) ?_ 1 _ rfl; (with_reducible repeat (first | refine blk_drewN ?_ _ | refine blk_drew ?_ | refine blk_alloc ?_ _)); refine blk_put (cs := #[.int .i64 0, .slice none 0 0]) ?_ 0 _ rfl; (with_reducible repeat (first | refine blk_drewN ?_ _ | refine blk_drew ?_ | refine blk_alloc ?_ _)); exact BK727.out) Tryd.underlying36 rfl (by kernel_rfl)) rfl ?_
    exact ⟨_, by first | rfl | (simp [errW_none, errW_some] <;> rfl) | (simp [*, errW_none, errW_some] <;> rfl), by (with_reducible repeat (first | apply Kd.R_alloc | apply Kd.R_drewN | apply Kd.R_drew)); exact Kd.R_mono (Kd.R_far (p := ⟨gb727, 1, none⟩) (Kd.R_far (p := ⟨gb727, 0, none⟩) (Kd.R_types HO737.out BK727.out (by decide)) (fun _ hk => hk.2) (.int .i64 t734)) (fun _ hk => hk.2) (.slice Ao16 t735.length co16)) (fun _ hk => trivial), HW.zb⟩

end Go.Proofs.YtlcgakpnpdkjjaaDoor.PRd
