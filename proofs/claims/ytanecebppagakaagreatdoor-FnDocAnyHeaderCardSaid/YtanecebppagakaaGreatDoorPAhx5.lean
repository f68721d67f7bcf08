/- Printed by a program of this session (a turned copy of the printer of the kit): contracts of functions of the translation, each with the Lean function that it computes. Conditions: as each theorem states them. -/
import Derived.Test.YtanecebppagakaaGreatDoorPAhx0
import Derived.Test.YtanecebppagakaaGreatDoorPAhx1
import Derived.Test.YtanecebppagakaaGreatDoorPAhx2
import Derived.Test.YtanecebppagakaaGreatDoorPAhx4
namespace Go.Proofs.YtanecebppagakaaGreatDoor.PAh
open Go.RowKit Go.Proofs.YtanecebppagakaaGreatDoorW.PrintWords Go.Proofs.YtanecebppagakaaGreatDoorW.PrintLast Go.Proofs.YtanecebppagakaaGreatDoorW.PrintMore
attribute [local go_sem] max2_int min2_int max_two min_two max_three min_three max_four min_four   -- for this text's walks alone
set_option linter.unusedVariables false
set_option linter.unusedSimpArgs false

/-! ### bsoncore_Element_ValueErr: function 125 -/
def bsoncore_Element_ValueErr.f (k : Nat) (l0 : List Int) : Option (Int × List Int × Option Int) := if (l0.length : Int) = 0 then (none) else (if 1 ≤ (l0.length : Int) then ((bytes_IndexByte.f (l0.drop 1) 0).bind fun t289 => (if t289 = (-1) then (none) else (if 0 ≤ (wrap64 (t289 + 2)) then (if (wrap64 (t289 + 2)) ≤ (l0.length : Int) then (if 0 < (l0.length : Int) then ((bsoncore_ReadValue.f k (l0.drop ((wrap64 (t289 + 2)) : Int).toNat) (rd l0 0)).bind fun bt296 => (if bt296.2.2.2 = true then (some (bt296.1, bt296.2.1, none)) else (none))) else (none)) else (none)) else (none)))) else (none))
theorem bsoncore_Element_ValueErr.mono : ∀ a0 k, LeO (bsoncore_Element_ValueErr.f k a0) (bsoncore_Element_ValueErr.f (k + 1) a0) := by
  intro a0 k
  unfold bsoncore_Element_ValueErr.f
  repeat' first
      | (with_reducible exact bsoncore_ReadValue.mono _ _ _)
      | (with_reducible exact LeO.refl _)
      | (with_reducible exact LeO.none _)
      | (with_reducible refine LeO.ite ?_ ?_)
      | (with_reducible refine LeO.bind ?_ (fun _ => ?_))
      | exact bsoncore_ReadValue.mono _ _ _
      | exact LeO.none _
      | refine LeO.ite ?_ ?_
      | refine LeO.bind ?_ (fun _ => ?_)
def bsoncore_Element_ValueErr.T6 : Bool × List (List Nat × List Nat) := (true, [([], []), ([], []), ([1], [1]), ([0, 2], [0, 2]), ([], []), ([4], [4]), ([5], [5]), ([3, 6], [3, 6]), ([7], [7]), ([8], [8]), ([8], [8]), ([8], [8]), ([], []), ([12, 9, 7, 0, 1, 2, 3, 4, 5, 6, 7, 8, 9, 12], [9, 12]), ([10, 13, 0, 1, 2, 3, 4, 5, 6, 7, 8, 9, 10, 12, 13], [10]), ([11, 14, 0, 1, 2, 3, 4, 5, 6, 7, 8, 9, 10, 11, 12, 13, 14], [11])])
def bsoncore_Element_ValueErr.B6 : List Nat := [0, 0, 2, 7, 0, 16, 48, 127, 255, 511, 511, 511, 0, 5119, 14335, 32767]
theorem bsoncore_Element_ValueErr.tab6 : rtab .any (opsOf Tryz.f125 6) = bsoncore_Element_ValueErr.T6 := by kernel_rfl
theorem bsoncore_Element_ValueErr.bits6 : waitsOk bsoncore_Element_ValueErr.T6.2 bsoncore_Element_ValueErr.B6 = true := by kernel_rfl
set_option maxHeartbeats 8000000 in
set_option maxRecDepth 100000 in
theorem bsoncore_Element_ValueErr.calls (k : Nat) (P0_ : Nat → Prop) (A0 : Option Addr) (c0 : Nat) (l0 : List Int) (r1 : Int) (r2 : List Int) (r3 : Option Int) (w : World) (hs0 : Kd.V (Kd.int .u8) 5 w w.heap.size (fun k_ => P0_ k_) (.slice A0 l0.length c0) l0) (h : bsoncore_Element_ValueErr.f k l0 = some (r1, r2, r3)) :
    Calls Tryz.prog 125 #[.slice A0 l0.length c0] w fun e w' => ∃ v1_ : Value, e = .returned (.tuple #[.agg #[.int .u8 r1, v1_], errW r3]) ∧ Kd.V (Kd.int .u8) 5 w' w.heap.size (fun k_ => (P0_ k_ ∨ w.heap.size ≤ k_)) v1_ r2 ∧ Below w.heap.size w w' := by
  have hu101 := Tryz.underlying101
  have hu150 := Tryz.underlying150
  have HO0 := Aside0.mk (show Kd.V (Kd.int .u8) 5 w w.heap.size (fun k_ => (P0_ k_ ∨ w.heap.size ≤ k_)) (.slice A0 l0.length c0) l0 from Kd.V_mono hs0 (fun k_ hk => .inl hk))
  have HB := Aside0.mk (Below.refl w.heap.size w)
  have H : (if (l0.length : Int) = 0 then (none) else (if 1 ≤ (l0.length : Int) then ((bytes_IndexByte.f (l0.drop 1) 0).bind fun t289 => (if t289 = (-1) then (none) else (if 0 ≤ (wrap64 (t289 + 2)) then (if (wrap64 (t289 + 2)) ≤ (l0.length : Int) then (if 0 < (l0.length : Int) then ((bsoncore_ReadValue.f k (l0.drop ((wrap64 (t289 + 2)) : Int).toNat) (rd l0 0)).bind fun bt296 => (if bt296.2.2.2 = true then (some (bt296.1, bt296.2.1, none)) else (none))) else (none)) else (none)) else (none)))) else (none))) = some (r1, r2, r3) := h
  clear h
  by_cases c2 : (l0.length : Int) = 0
  · rw [if_pos c2] at H
    exact absurd H (by simp)
  rw [if_neg c2] at H
  have c2b0 : ((l0.length : Int) == 0) = false := beq_eq_false_iff_ne.mpr c2
  have c2b1 : ((l0.length : Int) != 0) = true := bne_iff_ne.mpr c2
  have c2b2 : ¬ (l0 = []) := fun h_ => c2 (by rw [h_]; rfl)
  by_cases c3 : 1 ≤ (l0.length : Int)
  rotate_left
  · rw [if_neg c3] at H
    exact absurd H (by simp)
  rw [if_pos c3] at H
  have c3b0 := eq_true c3
  have c3b1 : decide (1 ≤ (l0.length : Int)) = true := decide_eq_true c3
  clear c3
  obtain ⟨y284, hy284⟩ : ∃ y_ : List Int, y_ = (l0.drop 1) := ⟨_, rfl⟩
  replace H : ((bytes_IndexByte.f y284 0).bind fun t289 => (if t289 = (-1) then (none) else (if 0 ≤ (wrap64 (t289 + 2)) then (if (wrap64 (t289 + 2)) ≤ (l0.length : Int) then (if 0 < (l0.length : Int) then ((bsoncore_ReadValue.f k (l0.drop ((wrap64 (t289 + 2)) : Int).toNat) (rd l0 0)).bind fun bt296 => (if bt296.2.2.2 = true then (some (bt296.1, bt296.2.1, none)) else (none))) else (none)) else (none)) else (none)))) = some (r1, r2, r3) := by first | (rw [hy284]; with_reducible exact H) | (have H2_ := (Option.bind_some _ _).symm.trans H; rw [hy284]; with_reducible exact H2_) | (have H2_ := (Option.bind_some _ _).symm.trans H; with_reducible exact H2_) | with_reducible exact H | (rw [hy284]; exact H) | exact H
  have Ny284 := Aside0.mk hy284
  clear hy284
  replace H := Option.bind_eq_some_iff.mp H
  obtain ⟨t289, A40, H⟩ := H
  replace H : (if t289 = (-1) then (none) else (if 0 ≤ (wrap64 (t289 + 2)) then (if (wrap64 (t289 + 2)) ≤ (l0.length : Int) then (if 0 < (l0.length : Int) then ((bsoncore_ReadValue.f k (l0.drop ((wrap64 (t289 + 2)) : Int).toNat) (rd l0 0)).bind fun bt296 => (if bt296.2.2.2 = true then (some (bt296.1, bt296.2.1, none)) else (none))) else (none)) else (none)) else (none))) = some (r1, r2, r3) := H
  have A4 := Aside0.mk A40
  clear A40
  by_cases c5 : t289 = (-1)
  · rw [if_pos c5] at H
    exact absurd H (by simp)
  rw [if_neg c5] at H
  have c5b0 : (t289 == (-1)) = false := beq_eq_false_iff_ne.mpr c5
  have c5b1 : (t289 != (-1)) = true := bne_iff_ne.mpr c5
  obtain ⟨ji6, hji6⟩ : ∃ j_ : Int, (wrap64 (t289 + 2)) = j_ := ⟨_, rfl⟩
  replace H : (if 0 ≤ (ji6) then (if (ji6) ≤ (l0.length : Int) then (if 0 < (l0.length : Int) then ((bsoncore_ReadValue.f k (l0.drop ((ji6) : Int).toNat) (rd l0 0)).bind fun bt296 => (if bt296.2.2.2 = true then (some (bt296.1, bt296.2.1, none)) else (none))) else (none)) else (none)) else (none)) = some (r1, r2, r3) := by first | (rw [hji6] at H; exact H) | (simp only [hji6] at H ⊢; exact H)
  (try rw [hji6] at A4)
  have hji6w : (IntKind.i64.wrap (t289 + 2)) = ji6 := (i64_w _).trans hji6
  by_cases c7 : 0 ≤ (ji6)
  rotate_left
  · rw [if_neg c7] at H
    exact absurd H (by simp)
  rw [if_pos c7] at H
  have c7b0 := eq_true c7
  have c7b1 : decide (0 ≤ (ji6)) = true := decide_eq_true c7
  clear c7
  by_cases c8 : (ji6) ≤ (l0.length : Int)
  rotate_left
  · rw [if_neg c8] at H
    exact absurd H (by simp)
  rw [if_pos c8] at H
  have c8b0 := eq_true c8
  have c8b1 : decide ((ji6) ≤ (l0.length : Int)) = true := decide_eq_true c8
  clear c8
  obtain ⟨y290, hy290⟩ : ∃ y_ : List Int, y_ = (l0.drop ((ji6) : Int).toNat) := ⟨_, rfl⟩
  replace H : (if 0 < (l0.length : Int) then ((bsoncore_ReadValue.f k y290 (rd l0 0)).bind fun bt296 => (if bt296.2.2.2 = true then (some (bt296.1, bt296.2.1, none)) else (none))) else (none)) = some (r1, r2, r3) := by first | (rw [hy290]; with_reducible exact H) | (have H2_ := (Option.bind_some _ _).symm.trans H; rw [hy290]; with_reducible exact H2_) | (have H2_ := (Option.bind_some _ _).symm.trans H; with_reducible exact H2_) | with_reducible exact H | (rw [hy290]; exact H) | exact H
  have Ny290 := Aside0.mk hy290
  clear hy290
  by_cases c9 : 0 < (l0.length : Int)
  rotate_left
  · rw [if_neg c9] at H
    exact absurd H (by simp)
  rw [if_pos c9] at H
  have c9b0 : decide (0 < (l0.length : Int)) = true := decide_eq_true c9
  have c9b1 : decide (0 < l0.length) = true := decide_eq_true (by omega)
  clear c9
  replace H := Option.bind_eq_some_iff.mp H
  obtain ⟨⟨t296, t297, t300, t303⟩, A100, H⟩ := H
  replace H : (if t303 = true then (some (t296, t297, none)) else (none)) = some (r1, r2, r3) := H
  have A10 := Aside0.mk A100
  clear A100
  by_cases c11 : t303 = true
  rotate_left
  · replace c11 := Bool.eq_false_iff.mpr c11
    subst c11
    have H1 : (none) = some (r1, r2, r3) := by rw [if_neg (show ¬ (false = true) by decide)] at H; exact H
    clear H
    have H := H1
    clear H1
    exact absurd H (by simp)
  subst c11
  have H1 : (some (t296, t297, none)) = some (r1, r2, r3) := by rw [if_pos rfl] at H; exact H
  clear H
  have H := H1
  clear H1
  as_aux_lemma =>
    simp only [Option.some.injEq, Prod.mk.injEq] at H
    obtain ⟨rfl, rfl, rfl⟩ := H
    go_enter Tryz.func125, Tryz.ntmps125
    try go_wp2_with (first | ((with_reducible refine gate_dst (N := 2) rfl ?_); refine box_event ?hg (N := 2) ?hd (cs := #[.int .u8 0, .slice none 0 0]) (t := 101) ?hr ?_; (case hd => rfl); (case hg => rfl); (case hr => first | (go_simp; done) | (go_simp; rfl)); intro gb283 hg w12 hbox hb; have n0_ := Aside0.mk (Kd.V_below (Kd.V_elderB (HW.zV HO0.out) gb283 (Nat.le_of_eq hg.symm)) hb); have n1_ := Aside0.mk (below_step HW.zb hb); have n2_ := Aside0.mk (hbox); have n4_ := Aside0.mk ((by rw [hg]; exact (below_size HW.zb) : w.heap.size ≤ gb283)); clear HO0; clear HB; have HO0 := n0_; have HB := n1_; have BK283 := n2_; have GE283 := n4_; clear n0_ n1_ n2_ n4_; clear hb hbox hg; have q13 : (1 : Int) ≤ ((l0.length : Int) : Int) := of_decide_eq_true (by first | (with_reducible assumption) | assumption); obtain ⟨i013, hi013, _, hsz13, _⟩ := info_parts info5; have hroom13 : l0.length ≤ c0 := (Kd.V_reads' HO0.out).2.1; have hC13 : Kd.F (Kd.int .u8) _ _ A0 l0.length l0 := (Kd.V_at (base := w.heap.size) HO0.out).2.2; have hcut13 := cut_from (P := Tryz.prog) 145 5 .i64 Tryz.underlying145 hi013 1 hsz13 A0 l0.length c0 1 (by omega) q13; have hr13 := Kd.F_cut (m := (1 : Int).toNat) (c := c0) hC13 (by omega) hroom13; obtain ⟨A13, hA13⟩ : ∃ A1, A1 = (if c0 = (1 : Int).toNat then A0 else (A0 : Option Addr).map (·.add ((1 : Int).toNat * 1))) := ⟨_, rfl⟩; obtain ⟨c13, hc13⟩ : ∃ c1, c1 = c0 - (1 : Int).toNat := ⟨_, rfl⟩; have hy13 : y284.length = l0.length - (1 : Int).toNat := (by rw [Ny284.out, List.length_drop] <;> omega); rw [show (l0).drop (1 : Int).toNat = y284 from Ny284.out.symm] at hr13; replace hr13 : Kd.F (Kd.int .u8) _ _ A13 y284.length y284 := (by rw [hA13]; exact hr13); rw [← hy13, ← hA13, ← hc13] at hcut13; have HO288 := Aside0.mk (show Kd.V (Kd.int .u8) 5 _ w.heap.size _ (.slice A13 y284.length c13) y284 from Kd.V_mk (by rw [hy13, hc13]; exact Nat.sub_le_sub_right hroom13 _) hr13); have HC288 := Aside0.mk (show y284.length ≤ c13 from by rw [hy13, hc13]; exact Nat.sub_le_sub_right hroom13 _); clear hr13 hC13 hroom13 hi013 hsz13 hc13; have KY13 := Aside0.mk hy13; have KA13 := Aside0.mk hA13; clear hy13 hA13; replace q13 := eq_true q13) | ((with_reducible refine gate_callee (f := 129) rfl ?_); refine HW.gz (some 15) rfl rfl Tryz.func129 (by kernel_rfl) rfl #[.slice A13 y284.length c13, .int .u8 0] rfl ?_; (with_reducible refine (bytes_IndexByte.calls _ _ y284 0 t289 _ ?side1 ?side2 A4.out).mono ?_); (case side1 => repeat (first | exact (Kd.V_reads' HO288.out).2.2 | (with_reducible refine Kd.C_alloc ?_ _) | (with_reducible refine Kd.C_drewN ?_ _) | (with_reducible refine Kd.C_drew ?_))); (case side2 => exact (Kd.V_reads' HO288.out).2.1); rintro e w' ⟨rfl, ⟨nd, rfl⟩⟩; refine ⟨_, rfl, ?_⟩; (try (rw [drewN_self w12]; generalize hq_ : World.drewN w12 _ = w12; have n0_ : Aside0 (Kd.V (Kd.int .u8) 5 w12 w.heap.size (fun k_ => (P0_ k_ ∨ w.heap.size ≤ k_) ∧ k_ ≠ gb283) (.slice A0 l0.length c0) l0) := ⟨by rw [← hq_]; exact (HW.zV HO0.out)⟩; have n1_ : Aside0 (Kd.V (Kd.int .u8) 5 w12 w.heap.size (fun k_ => (P0_ k_ ∨ w.heap.size ≤ k_) ∧ k_ ≠ gb283) (.slice A13 y284.length c13) y284) := ⟨by rw [← hq_]; exact (HW.zV HO288.out)⟩; have n2_ : Aside0 (w12.heap[gb283]? = some (.cells #[.int .u8 0, .slice none 0 0] 101 (0, 0))) := ⟨by rw [← hq_]; exact (HW.zB BK283.out)⟩; have n3_ : Aside0 (Below w.heap.size w w12) := ⟨by rw [← hq_]; exact HW.zb⟩; clear HO0 HO288 BK283 HB hq_; have HO0 := n0_; have HO288 := n1_; have BK283 := n2_; have HB := n3_; clear n0_ n1_ n2_ n3_))))
    have n0_ := Aside0.mk (Kd.V_drew HO0.out)
    have n1_ := Aside0.mk (Kd.V_drew HO288.out)
    have n2_ := Aside0.mk (blk_drew BK283.out)
    have n3_ := Aside0.mk (below_drew1 HB.out)
    clear HO0
    clear HO288
    clear BK283
    clear HB
    have HO0 := n0_
    have HO288 := n1_
    have BK283 := n2_
    have HB := n3_
    clear n0_ n1_ n2_ n3_
    have q15 : ((ji6) : Int) ≤ ((l0.length : Int) : Int) := of_decide_eq_true (by first | (with_reducible assumption) | assumption)
    obtain ⟨i015, hi015, _, hsz15, _⟩ := info_parts info5
    have hroom15 : l0.length ≤ c0 := (Kd.V_reads' HO0.out).2.1
    have hC15 : Kd.F (Kd.int .u8) _ _ A0 l0.length l0 := (Kd.V_at (base := w.heap.size) HO0.out).2.2
    have q015 : (0 : Int) ≤ ((ji6) : Int) := of_decide_eq_true (by first | (with_reducible assumption) | assumption)
    have hcut15 := cut_from (P := Tryz.prog) 145 5 .i64 Tryz.underlying145 hi015 1 hsz15 A0 l0.length c0 (ji6) q015 q15
    have hr15 := Kd.F_cut (m := ((ji6) : Int).toNat) (c := c0) hC15 (by omega) hroom15
    obtain ⟨A15, hA15⟩ : ∃ A1, A1 = (if c0 = ((ji6) : Int).toNat then A0 else (A0 : Option Addr).map (·.add (((ji6) : Int).toNat * 1))) := ⟨_, rfl⟩
    obtain ⟨c15, hc15⟩ : ∃ c1, c1 = c0 - ((ji6) : Int).toNat := ⟨_, rfl⟩
    have hy15 : y290.length = l0.length - ((ji6) : Int).toNat := (by rw [Ny290.out, List.length_drop] <;> omega)
    rw [show (l0).drop ((ji6) : Int).toNat = y290 from Ny290.out.symm] at hr15
    replace hr15 : Kd.F (Kd.int .u8) _ _ A15 y290.length y290 := (by rw [hA15]; exact hr15)
    rw [← hy15, ← hA15, ← hc15] at hcut15
    have HO294 := Aside0.mk (show Kd.V (Kd.int .u8) 5 _ w.heap.size _ (.slice A15 y290.length c15) y290 from Kd.V_mk (by rw [hy15, hc15]; exact Nat.sub_le_sub_right hroom15 _) hr15)
    have HC294 := Aside0.mk (show y290.length ≤ c15 from by rw [hy15, hc15]; exact Nat.sub_le_sub_right hroom15 _)
    clear hr15 hC15 hroom15 hi015 hsz15 hc15
    have KY15 := Aside0.mk hy15
    have KA15 := Aside0.mk hA15
    clear hy15 hA15
    replace q15 := eq_true q15
    have p295 : 0 ≤ (0 : Int) := (by omega)
    have q295 : 0 < (l0.length : Int) := of_decide_eq_true (by first | (with_reducible assumption) | assumption)
    obtain ⟨ad295, e295, hx295_0⟩ := Kd.at_int (Kd.V_reads' HO0.out).2.2 0 p295 q295
    cases e295
    have qi295 : (0 < l0.length) = True := eq_true (by omega)
    (try rw [show ((0 : Int)).toNat = 0 from rfl] at hx295_0)
    (try rw [Addr.add_zero'] at hx295_0)
    replace p295 := eq_true p295
    replace q295 := eq_true q295
    refine start_ (n := 16) (S := fun w' => w'.cell? ad295 = some (.int .u8 (rd l0 0))) (ds := []) #[false, false, false, false, false, false, false, false, false, false, false, false, false, false, false, false] (by kernel_rfl) rfl rfl (hx295_0) (fun hHeld => ?_); refine with_tabW bsoncore_Element_ValueErr.tab6 bsoncore_Element_ValueErr.bits6 (fun HT_ HW_ => ?_)
    generalize w12.drew = w14 at HO0 HO288 BK283 HB HO294 hx295_0 hHeld ⊢
    refine HW.pz (i := 0) (N := some 21) #[true, false, false, false, false, false, false, false, false, false, false, false, false, false, false, false] ?_ (hc := any_of HT_.out (by kernel_rfl))
    refine HW.pz (i := 1) (N := some 22) #[true, true, false, false, false, false, false, false, false, false, false, false, false, false, false, false] ?_ (hc := any_of HT_.out (by kernel_rfl))
    refine HW.pz (i := 2) (N := some 23) #[true, true, true, false, false, false, false, false, false, false, false, false, false, false, false, false] ?_ (hc := any_of HT_.out (by kernel_rfl))
    refine HW.pz (i := 3) (N := some 24) #[true, true, true, true, false, false, false, false, false, false, false, false, false, false, false, false] ?_ (hc := any_of HT_.out (by kernel_rfl))
    refine HW.pz (i := 4) (N := some 25) #[true, true, true, true, true, false, false, false, false, false, false, false, false, false, false, false] ?_ (hc := any_of HT_.out (by kernel_rfl))
    refine HW.pz (i := 5) (N := some 26) #[true, true, true, true, true, true, false, false, false, false, false, false, false, false, false, false] ?_ (hc := any_of HT_.out (by kernel_rfl))
    refine take_ (i := 6) (N := some 27) (v := ?_) (a' := ?_) #[true, true, true, true, true, true, true, false, false, false, false, false, false, false, false, false] rfl rfl (take_ofW HT_.out HW_.out (by kernel_rfl)) (fun _ _ _ h => h) (Or.inl ⟨by rfl, ?_⟩) hHeld ?_ ?_
    rotate_left
    · intro w' s0
      go_simp
      with_reducible rfl
    rotate_left
    · simp only [Act.put, List.setIfInBounds_toArray, List.set_cons_zero, List.set_cons_succ, i64_w, i32_w]
      rfl
    refine join_ (σ := Value × Value × Nat) 3 #[true, true, true, true, true, true, true, true, true, true, true, true, true, false, false, false] (fun s_ => [(28, .tuple #[.agg #[.int .u8 t296, s_.1], s_.2.1, .bool true]), (5, .pointer (some ⟨s_.2.2, 0, none⟩)), (20, .tuple #[.agg #[.int .u8 t296, s_.1], s_.2.1, .bool true]), (29, .agg #[.int .u8 t296, s_.1]), (30, s_.2.1), (31, .bool true)]) (fun s_ w' => (w'.cell? ad295 = some (.int .u8 (rd l0 0))) ∧ (Kd.V (Kd.int .u8) 5 w' w.heap.size (fun k_ => (P0_ k_ ∨ w.heap.size ≤ k_) ∧ k_ ≠ gb283 ∧ k_ ≠ s_.2.2) (.slice (some ad295) l0.length c0) l0) ∧ (Kd.V (Kd.int .u8) 5 w' w.heap.size (fun k_ => (P0_ k_ ∨ w.heap.size ≤ k_) ∧ k_ ≠ gb283 ∧ k_ ≠ s_.2.2) (.slice A13 y284.length c13) y284) ∧ (Kd.V (Kd.int .u8) 5 w' w.heap.size (fun k_ => (P0_ k_ ∨ w.heap.size ≤ k_) ∧ k_ ≠ gb283 ∧ k_ ≠ s_.2.2) (.slice A15 y290.length c15) y290) ∧ (Kd.V (Kd.int .u8) 5 w' w.heap.size (fun k_ => (P0_ k_ ∨ w.heap.size ≤ k_) ∧ k_ ≠ gb283 ∧ k_ ≠ s_.2.2) s_.1 t297) ∧ (Kd.V (Kd.int .u8) 5 w' w.heap.size (fun k_ => (P0_ k_ ∨ w.heap.size ≤ k_) ∧ k_ ≠ gb283 ∧ k_ ≠ s_.2.2) s_.2.1 t300) ∧ (w'.heap[gb283]? = some (.cells #[.int .u8 0, .slice none 0 0] 101 (0, 0))) ∧ (w'.heap[s_.2.2]? = some (.cells #[.int .u8 0, .slice none 0 0] 101 (0, 0))) ∧ (w.heap.size ≤ s_.2.2) ∧ (w.heap.size ≤ s_.2.2) ∧ (gb283 ≠ s_.2.2) ∧ (s_.2.2 ≠ gb283) ∧ (Below w.heap.size w w')) ?_ ?_
    rotate_left
    · intro hCont
      refine two_ (i := 7) (j := 12) (Ni := some 28) (Nj := some 5) #[true, true, true, true, true, true, true, true, false, false, false, false, false, false, false, false] #[true, true, true, true, true, true, true, false, false, false, false, false, true, false, false, false] rfl rfl rfl rfl (two_of HT_.out (by kernel_rfl)) (by decide) (by decide) (fun K hK => ?_) (fun K hK => ?_)
      · skip
        refine goes_ Tryz.func89 (by kernel_rfl) rfl #[.slice A15 y290.length c15, .int .u8 (rd l0 0)] (by rfl) rfl rfl (by (try simp only [List.map_toArray, List.map_cons, List.map_nil]); first | done | rfl | (simp only [List.length_drop, List.length_take]; rfl)) ?_
        with_reducible refine (bsoncore_ReadValue.calls k (fun k_ => ((P0_ k_ ∨ w.heap.size ≤ k_) ∧ k_ ≠ gb283)) _ _ y290 (rd l0 0) t296 t297 t300 true _ ?side1 A10.out).mono ?_
        (case side1 => exact HO294.out)
        rintro e w16 ⟨v298, v301, rfl, ho0, ho1, hb⟩
        have HS0_ := (hb.cell (World.block_lt_of_cell? _ _ (hHeld))).trans (hHeld)
        refine ⟨_, rfl, ?_⟩
        have n0_ := Aside0.mk (Kd.V_below (HW.zV HO0.out) hb)
        have n1_ := Aside0.mk (Kd.V_below (HW.zV HO288.out) hb)
        have n2_ := Aside0.mk (Kd.V_below (HW.zV HO294.out) hb)
        have n3_ := Aside0.mk (Kd.V_lower (Kd.V_mono (ok' := fun k_ => (P0_ k_ ∨ w.heap.size ≤ k_) ∧ k_ ≠ gb283) ho0 (fun k_ hk_ => ⟨Or.elim hk_ (fun hs_ => hs_.1) (fun hn_ => (.inr (Nat.le_trans (below_size HW.zb) hn_))), Or.elim hk_ (fun hs_ => hs_.2) (fun hn_ => (Kd.freshB (g := gb283) (o := .cells #[.int .u8 0, .slice none 0 0] 101 (0, 0)) (HW.zB BK283.out) k_ hn_))⟩)) (below_size HW.zb))
        have n4_ := Aside0.mk (Kd.V_lower (Kd.V_mono (ok' := fun k_ => (P0_ k_ ∨ w.heap.size ≤ k_) ∧ k_ ≠ gb283) ho1 (fun k_ hk_ => ⟨Or.elim hk_ (fun hs_ => hs_.1) (fun hn_ => (.inr (Nat.le_trans (below_size HW.zb) hn_))), Or.elim hk_ (fun hs_ => hs_.2) (fun hn_ => (Kd.freshB (g := gb283) (o := .cells #[.int .u8 0, .slice none 0 0] 101 (0, 0)) (HW.zB BK283.out) k_ hn_))⟩)) (below_size HW.zb))
        have n5_ := Aside0.mk (blk_below (g := gb283) (o := .cells #[.int .u8 0, .slice none 0 0] 101 (0, 0)) (HW.zB BK283.out) hb)
        have n6_ := Aside0.mk (below_step HW.zb hb)
        clear HO0
        clear HO288
        clear HO294
        clear BK283
        clear HB
        have HO0 := n0_
        have HO288 := n1_
        have HO294 := n2_
        have HO299 := n3_
        have HO302 := n4_
        have BK283 := n5_
        have HB := n6_
        clear n0_ n1_ n2_ n3_ n4_ n5_ n6_
        (try clear hb)
        (try clear hb2)
        (try clear hk)
        (try clear hi)
        (try clear ho0)
        (try clear ho1)
        refine hK.out _ _ (HS0_) (fun hHeld => ?_)
        clear hK K
        refine HW.nz (N := (some 28)) ?_
        refine HW.pz (i := 8) (N := some 20) #[true, true, true, true, true, true, true, true, true, false, false, false, false, false, false, false] ?_ (hc := any_of HT_.out (by kernel_rfl))
        refine HW.pz (i := 9) (N := some 29) #[true, true, true, true, true, true, true, true, true, true, false, false, false, false, false, false] ?_ (hc := any_of HT_.out (by kernel_rfl))
        refine HW.pz (i := 10) (N := some 30) #[true, true, true, true, true, true, true, true, true, true, true, false, false, false, false, false] ?_ (hc := any_of HT_.out (by kernel_rfl))
        refine HW.pz (i := 11) (N := some 31) #[true, true, true, true, true, true, true, true, true, true, true, true, false, false, false, false] ?_ (hc := any_of HT_.out (by kernel_rfl))
        refine one_ (i := 12) (N := some 5) #[true, true, true, true, true, true, true, true, true, true, true, true, true, false, false, false] rfl rfl (one_of HT_.out (by kernel_rfl)) (by decide) (fun K hK => ?_)
        refine box_step ?hg (N := 5) ?hd (cs := #[.int .u8 0, .slice none 0 0]) (t := 101) ?hr ?_; (case hd => rfl); (case hg => rfl); (case hr => first | (go_simp; done) | (go_simp; rfl))
        intro gb304 hg w17 hbox hb
        have HS0_ := (hb.cell (World.block_lt_of_cell? _ _ (hHeld))).trans (hHeld)
        have n0_ := Aside0.mk (Kd.V_below (Kd.V_elderB (HW.zV HO0.out) gb304 (Nat.le_of_eq hg.symm)) hb)
        have n1_ := Aside0.mk (Kd.V_below (Kd.V_elderB (HW.zV HO288.out) gb304 (Nat.le_of_eq hg.symm)) hb)
        have n2_ := Aside0.mk (Kd.V_below (Kd.V_elderB (HW.zV HO294.out) gb304 (Nat.le_of_eq hg.symm)) hb)
        have n3_ := Aside0.mk (Kd.V_below (Kd.V_elderB (HW.zV HO299.out) gb304 (Nat.le_of_eq hg.symm)) hb)
        have n4_ := Aside0.mk (Kd.V_below (Kd.V_elderB (HW.zV HO302.out) gb304 (Nat.le_of_eq hg.symm)) hb)
        have n5_ := Aside0.mk (blk_below (g := gb283) (o := .cells #[.int .u8 0, .slice none 0 0] 101 (0, 0)) (HW.zB BK283.out) hb)
        have n6_ := Aside0.mk (below_step HW.zb hb)
        have n7_ := Aside0.mk (hbox)
        have n8_ := Aside0.mk ((by rw [hg]; exact (below_size HW.zb) : w.heap.size ≤ gb304))
        have n9_ := Aside0.mk ((by rw [hg]; exact (below_size HW.zb) : w.heap.size ≤ gb304))
        have n10_ := Aside0.mk ((by rw [hg]; exact Nat.ne_of_lt (blk_lt (g := gb283) (o := .cells #[.int .u8 0, .slice none 0 0] 101 (0, 0)) (HW.zB BK283.out)) : gb283 ≠ gb304))
        have n11_ := Aside0.mk ((by rw [hg]; exact Nat.ne_of_gt (blk_lt (g := gb283) (o := .cells #[.int .u8 0, .slice none 0 0] 101 (0, 0)) (HW.zB BK283.out)) : gb304 ≠ gb283))
        clear HO0
        clear HO288
        clear HO294
        clear HO299
        clear HO302
        clear BK283
        clear HB
        have HO0 := n0_
        have HO288 := n1_
        have HO294 := n2_
        have HO299 := n3_
        have HO302 := n4_
        have BK283 := n5_
        have HB := n6_
        have BK304 := n7_
        have GW304 := n8_
        have GE304 := n9_
        have NB283_304 := n10_
        have NB304_283 := n11_
        clear n0_ n1_ n2_ n3_ n4_ n5_ n6_ n7_ n8_ n9_ n10_ n11_
        clear hb hbox hg
        refine hK.out _ _ (HS0_) (fun hHeld => ?_)
        clear hK K
        refine HW.nz (N := (some 5)) ?_
        exact norm_ (by simp only [putAll, Act.put, List.setIfInBounds_toArray, List.set_cons_zero, List.set_cons_succ, errW_none]) (hCont (v298, v301, gb304) _ ⟨hHeld, (HW.zV (Kd.V_mono HO0.out (fun _ hk => ⟨hk.1.1, ⟨hk.1.2, hk.2⟩⟩))), (HW.zV (Kd.V_mono HO288.out (fun _ hk => ⟨hk.1.1, ⟨hk.1.2, hk.2⟩⟩))), (HW.zV (Kd.V_mono HO294.out (fun _ hk => ⟨hk.1.1, ⟨hk.1.2, hk.2⟩⟩))), (HW.zV (Kd.V_mono HO299.out (fun _ hk => ⟨hk.1.1, ⟨hk.1.2, hk.2⟩⟩))), (HW.zV (Kd.V_mono HO302.out (fun _ hk => ⟨hk.1.1, ⟨hk.1.2, hk.2⟩⟩))), (HW.zB BK283.out), (HW.zB BK304.out), GW304.out, GE304.out, NB283_304.out, NB304_283.out, HW.zb⟩)
      skip
      refine box_step ?hg (N := 5) ?hd (cs := #[.int .u8 0, .slice none 0 0]) (t := 101) ?hr ?_; (case hd => rfl); (case hg => rfl); (case hr => first | (go_simp; done) | (go_simp; rfl))
      intro gb304 hg w16 hbox hb
      have HS0_ := (hb.cell (World.block_lt_of_cell? _ _ (hHeld))).trans (hHeld)
      have n0_ := Aside0.mk (Kd.V_below (Kd.V_elderB (HW.zV HO0.out) gb304 (Nat.le_of_eq hg.symm)) hb)
      have n1_ := Aside0.mk (Kd.V_below (Kd.V_elderB (HW.zV HO288.out) gb304 (Nat.le_of_eq hg.symm)) hb)
      have n2_ := Aside0.mk (Kd.V_below (Kd.V_elderB (HW.zV HO294.out) gb304 (Nat.le_of_eq hg.symm)) hb)
      have n3_ := Aside0.mk (blk_below (g := gb283) (o := .cells #[.int .u8 0, .slice none 0 0] 101 (0, 0)) (HW.zB BK283.out) hb)
      have n4_ := Aside0.mk (below_step HW.zb hb)
      have n5_ := Aside0.mk (hbox)
      have n6_ := Aside0.mk ((by rw [hg]; exact (below_size HW.zb) : w.heap.size ≤ gb304))
      have n7_ := Aside0.mk ((by rw [hg]; exact (below_size HW.zb) : w.heap.size ≤ gb304))
      have n8_ := Aside0.mk ((by rw [hg]; exact Nat.ne_of_lt (blk_lt (g := gb283) (o := .cells #[.int .u8 0, .slice none 0 0] 101 (0, 0)) (HW.zB BK283.out)) : gb283 ≠ gb304))
      have n9_ := Aside0.mk ((by rw [hg]; exact Nat.ne_of_gt (blk_lt (g := gb283) (o := .cells #[.int .u8 0, .slice none 0 0] 101 (0, 0)) (HW.zB BK283.out)) : gb304 ≠ gb283))
      clear HO0
      clear HO288
      clear HO294
      clear BK283
      clear HB
      have HO0 := n0_
      have HO288 := n1_
      have HO294 := n2_
      have BK283 := n3_
      have HB := n4_
      have BK304 := n5_
      have GW304 := n6_
      have GE304 := n7_
      have NB283_304 := n8_
      have NB304_283 := n9_
      clear n0_ n1_ n2_ n3_ n4_ n5_ n6_ n7_ n8_ n9_
      clear hb hbox hg
      refine hK.out _ _ (HS0_) (fun hHeld => ?_)
      clear hK K
      refine HW.nz (N := (some 5)) ?_
      refine one_ (i := 7) (N := some 28) #[true, true, true, true, true, true, true, true, false, false, false, false, true, false, false, false] rfl rfl (one_of HT_.out (by kernel_rfl)) (by decide) (fun K hK => ?_)
      refine goes_ Tryz.func89 (by kernel_rfl) rfl #[.slice A15 y290.length c15, .int .u8 (rd l0 0)] (by rfl) rfl rfl (by (try simp only [List.map_toArray, List.map_cons, List.map_nil]); first | done | rfl | (simp only [List.length_drop, List.length_take]; rfl)) ?_
      with_reducible refine (bsoncore_ReadValue.calls k (fun k_ => (((P0_ k_ ∨ w.heap.size ≤ k_) ∧ k_ ≠ gb283) ∧ k_ ≠ gb304)) _ _ y290 (rd l0 0) t296 t297 t300 true _ ?side1 A10.out).mono ?_
      (case side1 => exact HO294.out)
      rintro e w17 ⟨v298, v301, rfl, ho0, ho1, hb⟩
      have HS0_ := (hb.cell (World.block_lt_of_cell? _ _ (hHeld))).trans (hHeld)
      refine ⟨_, rfl, ?_⟩
      have n0_ := Aside0.mk (Kd.V_below (HW.zV HO0.out) hb)
      have n1_ := Aside0.mk (Kd.V_below (HW.zV HO288.out) hb)
      have n2_ := Aside0.mk (Kd.V_below (HW.zV HO294.out) hb)
      have n3_ := Aside0.mk (Kd.V_lower (Kd.V_mono (ok' := fun k_ => (P0_ k_ ∨ w.heap.size ≤ k_) ∧ k_ ≠ gb283 ∧ k_ ≠ gb304) ho0 (fun k_ hk_ => ⟨Or.elim hk_ (fun hs_ => hs_.1.1) (fun hn_ => (.inr (Nat.le_trans (below_size HW.zb) hn_))), Or.elim hk_ (fun hs_ => hs_.1.2) (fun hn_ => (Kd.freshB (g := gb283) (o := .cells #[.int .u8 0, .slice none 0 0] 101 (0, 0)) (HW.zB BK283.out) k_ hn_)), Or.elim hk_ (fun hs_ => hs_.2) (fun hn_ => (Kd.freshB (g := gb304) (o := .cells #[.int .u8 0, .slice none 0 0] 101 (0, 0)) (HW.zB BK304.out) k_ hn_))⟩)) (below_size HW.zb))
      have n4_ := Aside0.mk (Kd.V_lower (Kd.V_mono (ok' := fun k_ => (P0_ k_ ∨ w.heap.size ≤ k_) ∧ k_ ≠ gb283 ∧ k_ ≠ gb304) ho1 (fun k_ hk_ => ⟨Or.elim hk_ (fun hs_ => hs_.1.1) (fun hn_ => (.inr (Nat.le_trans (below_size HW.zb) hn_))), Or.elim hk_ (fun hs_ => hs_.1.2) (fun hn_ => (Kd.freshB (g := gb283) (o := .cells #[.int .u8 0, .slice none 0 0] 101 (0, 0)) (HW.zB BK283.out) k_ hn_)), Or.elim hk_ (fun hs_ => hs_.2) (fun hn_ => (Kd.freshB (g := gb304) (o := .cells #[.int .u8 0, .slice none 0 0] 101 (0, 0)) (HW.zB BK304.out) k_ hn_))⟩)) (below_size HW.zb))
      have n5_ := Aside0.mk (blk_below (g := gb283) (o := .cells #[.int .u8 0, .slice none 0 0] 101 (0, 0)) (HW.zB BK283.out) hb)
      have n6_ := Aside0.mk (blk_below (g := gb304) (o := .cells #[.int .u8 0, .slice none 0 0] 101 (0, 0)) (HW.zB BK304.out) hb)
      have n7_ := Aside0.mk (below_step HW.zb hb)
      clear HO0
      clear HO288
      clear HO294
      clear BK283
      clear BK304
      clear HB
      have HO0 := n0_
      have HO288 := n1_
      have HO294 := n2_
      have HO299 := n3_
      have HO302 := n4_
      have BK283 := n5_
      have BK304 := n6_
      have HB := n7_
      clear n0_ n1_ n2_ n3_ n4_ n5_ n6_ n7_
      (try clear hb)
      (try clear hb2)
      (try clear hk)
      (try clear hi)
      (try clear ho0)
      (try clear ho1)
      refine hK.out _ _ (HS0_) (fun hHeld => ?_)
      clear hK K
      refine HW.nz (N := (some 28)) ?_
      refine HW.pz (i := 8) (N := some 20) #[true, true, true, true, true, true, true, true, true, false, false, false, true, false, false, false] ?_ (hc := any_of HT_.out (by kernel_rfl))
      refine HW.pz (i := 9) (N := some 29) #[true, true, true, true, true, true, true, true, true, true, false, false, true, false, false, false] ?_ (hc := any_of HT_.out (by kernel_rfl))
      refine HW.pz (i := 10) (N := some 30) #[true, true, true, true, true, true, true, true, true, true, true, false, true, false, false, false] ?_ (hc := any_of HT_.out (by kernel_rfl))
      refine HW.pz (i := 11) (N := some 31) #[true, true, true, true, true, true, true, true, true, true, true, true, true, false, false, false] ?_ (hc := any_of HT_.out (by kernel_rfl))
      exact norm_ (by simp only [putAll, Act.put, List.setIfInBounds_toArray, List.set_cons_zero, List.set_cons_succ, errW_none]) (hCont (v298, v301, gb304) _ ⟨hHeld, (HW.zV (Kd.V_mono HO0.out (fun _ hk => ⟨hk.1.1, ⟨hk.1.2, hk.2⟩⟩))), (HW.zV (Kd.V_mono HO288.out (fun _ hk => ⟨hk.1.1, ⟨hk.1.2, hk.2⟩⟩))), (HW.zV (Kd.V_mono HO294.out (fun _ hk => ⟨hk.1.1, ⟨hk.1.2, hk.2⟩⟩))), (HW.zV HO299.out), (HW.zV HO302.out), (HW.zB BK283.out), (HW.zB BK304.out), GW304.out, GE304.out, NB283_304.out, NB304_283.out, HW.zb⟩)
    rintro ⟨v298, v301, gb304⟩ w18 ⟨hS_, h0_, h1_, h2_, h3_, h4_, h5_, h6_, h7_, h8_, h9_, h10_, h11_⟩
    have n0_ : Aside0 (Kd.V (Kd.int .u8) 5 w18 w.heap.size (fun k_ => (P0_ k_ ∨ w.heap.size ≤ k_) ∧ k_ ≠ gb283 ∧ k_ ≠ gb304) (.slice (some ad295) l0.length c0) l0) := ⟨h0_⟩
    have n1_ : Aside0 (Kd.V (Kd.int .u8) 5 w18 w.heap.size (fun k_ => (P0_ k_ ∨ w.heap.size ≤ k_) ∧ k_ ≠ gb283 ∧ k_ ≠ gb304) (.slice A13 y284.length c13) y284) := ⟨h1_⟩
    have n2_ : Aside0 (Kd.V (Kd.int .u8) 5 w18 w.heap.size (fun k_ => (P0_ k_ ∨ w.heap.size ≤ k_) ∧ k_ ≠ gb283 ∧ k_ ≠ gb304) (.slice A15 y290.length c15) y290) := ⟨h2_⟩
    have n3_ : Aside0 (Kd.V (Kd.int .u8) 5 w18 w.heap.size (fun k_ => (P0_ k_ ∨ w.heap.size ≤ k_) ∧ k_ ≠ gb283 ∧ k_ ≠ gb304) v298 t297) := ⟨h3_⟩
    have n4_ : Aside0 (Kd.V (Kd.int .u8) 5 w18 w.heap.size (fun k_ => (P0_ k_ ∨ w.heap.size ≤ k_) ∧ k_ ≠ gb283 ∧ k_ ≠ gb304) v301 t300) := ⟨h4_⟩
    have n5_ : Aside0 (w18.heap[gb283]? = some (.cells #[.int .u8 0, .slice none 0 0] 101 (0, 0))) := ⟨h5_⟩
    have n6_ : Aside0 (w18.heap[gb304]? = some (.cells #[.int .u8 0, .slice none 0 0] 101 (0, 0))) := ⟨h6_⟩
    have n7_ : Aside0 (w.heap.size ≤ gb304) := ⟨h7_⟩
    have n8_ : Aside0 (w.heap.size ≤ gb304) := ⟨h8_⟩
    have n9_ : Aside0 (gb283 ≠ gb304) := ⟨h9_⟩
    have n10_ : Aside0 (gb304 ≠ gb283) := ⟨h10_⟩
    have n11_ : Aside0 (Below w.heap.size w w18) := ⟨h11_⟩
    clear HO0
    clear HO288
    clear BK283
    clear HB
    clear h0_ h1_ h2_ h3_ h4_ h5_ h6_ h7_ h8_ h9_ h10_ h11_
    have HO0 := n0_
    have HO288 := n1_
    have HO294 := n2_
    have HO299 := n3_
    have HO302 := n4_
    have BK283 := n5_
    have BK304 := n6_
    have GW304 := n7_
    have GE304 := n8_
    have NB283_304 := n9_
    have NB304_283 := n10_
    have HB := n11_
    clear n0_ n1_ n2_ n3_ n4_ n5_ n6_ n7_ n8_ n9_ n10_ n11_
    have hHeld : w18.cell? ad295 = some (.int .u8 (rd l0 0)) := hS_
    obtain ⟨Ao20, co20, eo20⟩ := Kd.V_slice HO299.out
    (first | subst eo20 | (injection eo20 with f1_ f2_ f3_; have f4_ := f1_.symm; have f5_ := f3_.symm; clear f1_ f2_ f3_; subst f4_; subst f5_))
    refine norm_ (a' := ?_) ?_ ?_
    rotate_left
    · simp only [putAll, Act.put, List.setIfInBounds_toArray, List.set_cons_zero, List.set_cons_succ, errW_none]
      rfl
    refine one_ (i := 13) (N := none) #[true, true, true, true, true, true, true, true, true, true, true, true, true, true, false, false] rfl rfl (one_of HT_.out (by kernel_rfl)) (by decide) (fun K hK => ?_)
    have hs19 : w18.cell? ⟨gb304, 0, none⟩ = some (.int .u8 0) := (blk_cell BK304.out 0).trans rfl
    have hfs19 := blk_frozen BK304.out 0
    have hns19_0 := NB283_304.out
    have hms19_0 := NB304_283.out
    have hs21 : w18.cell? ⟨gb304, 1, none⟩ = some (.slice none 0 0) := (blk_cell BK304.out 1).trans rfl
    have hfs21 := blk_frozen BK304.out 1
    have hns21_0 := NB283_304.out
    have hms21_0 := NB304_283.out
    refine skip_ (w1 := ?_) (by rfl) rfl ?_ ?_
    rotate_left
    · go_simp
      rfl
    refine hK.out _ _ (((cell_far (p := ⟨gb304, _, none⟩) (by first | exact Kd.own_blk (Kd.V_away HO0.out (fun _ hk => hk.2.2)) | (rw [add_block]; exact Kd.own_blk (Kd.V_away HO0.out (fun _ hk => hk.2.2))) | (show (Addr.add _ _).block ≠ _; rw [add_block]; exact Kd.own_blk (Kd.V_away HO0.out (fun _ hk => hk.2.2))) | (dsimp only; exact Kd.own_blk (Kd.V_away HO0.out (fun _ hk => hk.2.2)))) _).trans (((cell_far (p := ⟨gb304, _, none⟩) (by first | exact Kd.own_blk (Kd.V_away HO0.out (fun _ hk => hk.2.2)) | (rw [add_block]; exact Kd.own_blk (Kd.V_away HO0.out (fun _ hk => hk.2.2))) | (show (Addr.add _ _).block ≠ _; rw [add_block]; exact Kd.own_blk (Kd.V_away HO0.out (fun _ hk => hk.2.2))) | (dsimp only; exact Kd.own_blk (Kd.V_away HO0.out (fun _ hk => hk.2.2)))) _).trans (hHeld))))) (fun hHeld => ?_)
    clear hK K
    refine HW.pz (i := 14) (N := some 6) #[true, true, true, true, true, true, true, true, true, true, true, true, true, true, true, false] ?_ (hc := any_of HT_.out (by kernel_rfl))
    refine HW.pz (i := 15) (N := some 7) #[true, true, true, true, true, true, true, true, true, true, true, true, true, true, true, true] ?_ (hc := any_of HT_.out (by kernel_rfl))
    refine done_ (done_of HT_.out (by kernel_rfl)) ?_
    have hnb22 := NB304_283.out
    have hnc22 := NB283_304.out
    have hcz23_0 := HW.zc BK304.out 0 (.int .u8 0)
    have hcz23_1 := HW.zc BK304.out 1 (.slice none 0 0)
    have hfz24_0 := blk_frozen BK304.out 0
    have hfz24_1 := blk_frozen BK304.out 1
    have hcz25_0 := HW.zc BK283.out 0 (.int .u8 0)
    have hcz25_1 := HW.zc BK283.out 1 (.slice none 0 0)
    have hfz26_0 := blk_frozen BK283.out 0
    have hfz26_1 := blk_frozen BK283.out 1
    try go_wp2
    refine bodyPost_ret (results_ct rfl _ _ gb283 101 #[.int .u8 t296, .slice Ao20 t297.length co20] (0, 0) _ rfl (by (with_reducible repeat (first | refine blk_drewN ?_ _ | refine blk_drew ?_ | refine blk_alloc ?_ _)); refine blk_put (cs := #[.int .u8 t296, .slice none 0 0]) ?_ 1 _ rfl; (with_reducible repeat (first | refine blk_drewN ?_ _ | refine blk_drew ?_ | refine blk_alloc ?_ _)); refine blk_put (cs := #[.int .u8 0, .slice none 0 0]) ?_ 0 _ rfl; (with_reducible repeat (first | refine blk_drewN ?_ _ | refine blk_drew ?_ | refine blk_alloc ?_ _)); refine blk_far ?_ NB283_304.out _; (with_reducible repeat (first | refine blk_drewN ?_ _ | refine blk_drew ?_ | refine blk_alloc ?_ _)); refine blk_far ?_ NB283_304.out _; (with_reducible repeat (first | refine blk_drewN ?_ _ | refine blk_drew ?_ | refine blk_alloc ?_ _)); exact BK283.out) Tryz.underlying101 rfl (by kernel_rfl)) rfl ?_
    exact ⟨_, by first | rfl | (simp [errW_none, errW_some] <;> rfl) | (simp only [← hji6]; first | rfl | (simp [errW_none, errW_some] <;> rfl)) | (simp [*, errW_none, errW_some] <;> rfl), by (with_reducible repeat (first | apply Kd.V_alloc | apply Kd.V_drewN | apply Kd.V_drew)); exact Kd.V_mono (Kd.V_far (p := ⟨gb283, 1, none⟩) (Kd.V_far (p := ⟨gb283, 0, none⟩) (Kd.V_far (p := ⟨gb304, 1, none⟩) (Kd.V_far (p := ⟨gb304, 0, none⟩) (Kd.V_mono (Kd.V_mono HO299.out (fun k_ hk => (⟨hk, hk.2.2⟩ : _ ∧ k_ ≠ gb304))) (fun k_ hk => (⟨hk, hk.1.2.1⟩ : _ ∧ k_ ≠ gb283))) (fun _ hk => hk.1.2) (.int .u8 t296)) (fun _ hk => hk.1.2) (.slice Ao20 t297.length co20)) (fun _ hk => hk.2) (.int .u8 t296)) (fun _ hk => hk.2) (.slice Ao20 t297.length co20)) (fun _ hk => hk.1.1.1), HW.zb⟩

/-! ### bsoncore_Element_Value: function 121 -/
def bsoncore_Element_Value.f (k : Nat) (l0 : List Int) : Option (Int × List Int) := (bsoncore_Element_ValueErr.f k l0).bind fun bt312 => (some (bt312.1, bt312.2.1))
theorem bsoncore_Element_Value.mono : ∀ a0 k, LeO (bsoncore_Element_Value.f k a0) (bsoncore_Element_Value.f (k + 1) a0) := by
  intro a0 k
  unfold bsoncore_Element_Value.f
  repeat' first
      | (with_reducible exact bsoncore_Element_ValueErr.mono _ _)
      | (with_reducible exact LeO.refl _)
      | (with_reducible exact LeO.none _)
      | (with_reducible refine LeO.ite ?_ ?_)
      | (with_reducible refine LeO.bind ?_ (fun _ => ?_))
      | exact bsoncore_Element_ValueErr.mono _ _
      | exact LeO.none _
      | refine LeO.ite ?_ ?_
      | refine LeO.bind ?_ (fun _ => ?_)
set_option maxHeartbeats 8000000 in
set_option maxRecDepth 100000 in
theorem bsoncore_Element_Value.calls (k : Nat) (P0_ : Nat → Prop) (A0 : Option Addr) (c0 : Nat) (l0 : List Int) (r1 : Int) (r2 : List Int) (w : World) (hs0 : Kd.V (Kd.int .u8) 5 w w.heap.size (fun k_ => P0_ k_) (.slice A0 l0.length c0) l0) (h : bsoncore_Element_Value.f k l0 = some (r1, r2)) :
    Calls Tryz.prog 121 #[.slice A0 l0.length c0] w fun e w' => ∃ v1_ : Value, e = .returned (.agg #[.int .u8 r1, v1_]) ∧ Kd.V (Kd.int .u8) 5 w' w.heap.size (fun k_ => (P0_ k_ ∨ w.heap.size ≤ k_)) v1_ r2 ∧ Below w.heap.size w w' := by
  have hu101 := Tryz.underlying101
  have HO0 := Aside0.mk (show Kd.V (Kd.int .u8) 5 w w.heap.size (fun k_ => (P0_ k_ ∨ w.heap.size ≤ k_)) (.slice A0 l0.length c0) l0 from Kd.V_mono hs0 (fun k_ hk => .inl hk))
  have HB := Aside0.mk (Below.refl w.heap.size w)
  have H : ((bsoncore_Element_ValueErr.f k l0).bind fun bt312 => (some (bt312.1, bt312.2.1))) = some (r1, r2) := h
  clear h
  replace H := Option.bind_eq_some_iff.mp H
  obtain ⟨⟨t312, t313, t316⟩, A20, H⟩ := H
  replace H : (some (t312, t313)) = some (r1, r2) := H
  have A2 := Aside0.mk A20
  clear A20
  as_aux_lemma =>
    simp only [Option.some.injEq, Prod.mk.injEq] at H
    obtain ⟨rfl, rfl⟩ := H
    go_enter Tryz.func121, Tryz.ntmps121
    go_wp2_with (first | ((with_reducible refine gate_dst (N := 2) rfl ?_); refine box_event ?hg (N := 2) ?hd (cs := #[.int .u8 0, .slice none 0 0]) (t := 101) ?hr ?_; (case hd => rfl); (case hg => rfl); (case hr => first | (go_simp; done) | (go_simp; rfl)); intro gb311 hg w3 hbox hb; have n0_ := Aside0.mk (Kd.V_below (Kd.V_elderB (HW.zV HO0.out) gb311 (Nat.le_of_eq hg.symm)) hb); have n1_ := Aside0.mk (below_step HW.zb hb); have n2_ := Aside0.mk (hbox); have n4_ := Aside0.mk ((by rw [hg]; exact (below_size HW.zb) : w.heap.size ≤ gb311)); clear HO0; clear HB; have HO0 := n0_; have HB := n1_; have BK311 := n2_; have GE311 := n4_; clear n0_ n1_ n2_ n4_; clear hb hbox hg) | ((with_reducible refine gate_callee (f := 125) rfl ?_); refine HW.gz (some 7) rfl rfl Tryz.func125 (by kernel_rfl) rfl #[.slice A0 l0.length c0] rfl ?_; (with_reducible refine (bsoncore_Element_ValueErr.calls k (fun k_ => ((P0_ k_ ∨ w.heap.size ≤ k_) ∧ k_ ≠ gb311)) _ _ l0 t312 t313 t316 _ ?side1 A2.out).mono ?_); (case side1 => exact HO0.out); rintro e w4 ⟨v314, rfl, ho0, hb⟩; refine ⟨_, rfl, ?_⟩; have n1_ := Aside0.mk (Kd.V_lower (Kd.V_mono (ok' := fun k_ => (P0_ k_ ∨ w.heap.size ≤ k_) ∧ k_ ≠ gb311) ho0 (fun k_ hk_ => ⟨Or.elim hk_ (fun hs_ => hs_.1) (fun hn_ => (.inr (Nat.le_trans (below_size HW.zb) hn_))), Or.elim hk_ (fun hs_ => hs_.2) (fun hn_ => (Kd.freshB (g := gb311) (o := .cells #[.int .u8 0, .slice none 0 0] 101 (0, 0)) (HW.zB BK311.out) k_ hn_))⟩)) (below_size HW.zb)); have n2_ := Aside0.mk (blk_below (g := gb311) (o := .cells #[.int .u8 0, .slice none 0 0] 101 (0, 0)) (HW.zB BK311.out) hb); have n3_ := Aside0.mk (below_step HW.zb hb); clear BK311; clear HB; have HO315 := n1_; have BK311 := n2_; have HB := n3_; clear n1_ n2_ n3_; (try clear hb); (try clear hb2); (try clear hk); (try clear hi); (try clear ho0); (try simp only [errW_none, errW_some])) | ((with_reducible refine gate_dst (N := 3) rfl ?_); refine box_event ?hg (N := 3) ?hd (cs := #[.int .u8 0, .slice none 0 0]) (t := 101) ?hr ?_; (case hd => rfl); (case hg => rfl); (case hr => first | (go_simp; done) | (go_simp; rfl)); intro gb317 hg w5 hbox hb; have n1_ := Aside0.mk (Kd.V_below (Kd.V_elderB (HW.zV HO315.out) gb317 (Nat.le_of_eq hg.symm)) hb); have n2_ := Aside0.mk (blk_below (g := gb311) (o := .cells #[.int .u8 0, .slice none 0 0] 101 (0, 0)) (HW.zB BK311.out) hb); have n3_ := Aside0.mk (below_step HW.zb hb); have n4_ := Aside0.mk (hbox); have n6_ := Aside0.mk ((by rw [hg]; exact (below_size HW.zb) : w.heap.size ≤ gb317)); have n7_ := Aside0.mk ((by rw [hg]; exact Nat.ne_of_lt (blk_lt (g := gb311) (o := .cells #[.int .u8 0, .slice none 0 0] 101 (0, 0)) (HW.zB BK311.out)) : gb311 ≠ gb317)); have n8_ := Aside0.mk ((by rw [hg]; exact Nat.ne_of_gt (blk_lt (g := gb311) (o := .cells #[.int .u8 0, .slice none 0 0] 101 (0, 0)) (HW.zB BK311.out)) : gb317 ≠ gb311)); clear HO315; clear BK311; clear HB; have HO315 := n1_; have BK311 := n2_; have HB := n3_; have BK317 := n4_; have GE317 := n6_; have NB311_317 := n7_; have NB317_311 := n8_; clear n1_ n2_ n3_ n4_ n6_ n7_ n8_; clear hb hbox hg; have hnb6 := NB317_311.out; have hnc6 := NB311_317.out; have hcz7_0 := HW.zc BK317.out 0 (.int .u8 0); have hcz7_1 := HW.zc BK317.out 1 (.slice none 0 0); have hfz8_0 := blk_frozen BK317.out 0; have hfz8_1 := blk_frozen BK317.out 1; obtain ⟨Ao9, co9, eo9⟩ := Kd.V_slice HO315.out; subst eo9; have hcz10_0 := HW.zc BK311.out 0 (.int .u8 0); have hcz10_1 := HW.zc BK311.out 1 (.slice none 0 0); have hfz11_0 := blk_frozen BK311.out 0; have hfz11_1 := blk_frozen BK311.out 1))
    refine bodyPost_ret (results_cell_row rfl _ _ gb311 101 #[.int .u8 t312, .slice Ao9 t313.length co9] (0, 0) _ rfl (by (with_reducible repeat (first | refine blk_drewN ?_ _ | refine blk_drew ?_ | refine blk_alloc ?_ _)); refine blk_put (cs := #[.int .u8 t312, .slice none 0 0]) ?_ 1 _ rfl; (with_reducible repeat (first | refine blk_drewN ?_ _ | refine blk_drew ?_ | refine blk_alloc ?_ _)); refine blk_put (cs := #[.int .u8 0, .slice none 0 0]) ?_ 0 _ rfl; (with_reducible repeat (first | refine blk_drewN ?_ _ | refine blk_drew ?_ | refine blk_alloc ?_ _)); refine blk_far ?_ NB311_317.out _; (with_reducible repeat (first | refine blk_drewN ?_ _ | refine blk_drew ?_ | refine blk_alloc ?_ _)); refine blk_far ?_ NB311_317.out _; (with_reducible repeat (first | refine blk_drewN ?_ _ | refine blk_drew ?_ | refine blk_alloc ?_ _)); exact BK311.out) Tryz.underlying101 rfl (by kernel_rfl)) rfl ?_
    exact ⟨_, by first | rfl | (simp [errW_none, errW_some] <;> rfl) | (simp [*, errW_none, errW_some] <;> rfl), by (with_reducible repeat (first | apply Kd.V_alloc | apply Kd.V_drewN | apply Kd.V_drew)); exact Kd.V_mono (Kd.V_far (p := ⟨gb311, 1, none⟩) (Kd.V_far (p := ⟨gb311, 0, none⟩) (Kd.V_far (p := ⟨gb317, 1, none⟩) (Kd.V_far (p := ⟨gb317, 0, none⟩) (Kd.V_mono (Kd.V_mono HO315.out (fun k_ hk => (⟨hk, hk.2⟩ : _ ∧ k_ ≠ gb317))) (fun k_ hk => (⟨hk, hk.1.1.2⟩ : _ ∧ k_ ≠ gb311))) (fun _ hk => hk.1.2) (.int .u8 t312)) (fun _ hk => hk.1.2) (.slice Ao9 t313.length co9)) (fun _ hk => hk.2) (.int .u8 t312)) (fun _ hk => hk.2) (.slice Ao9 t313.length co9)) (fun _ hk => hk.1.1.1.1), HW.zb⟩

/-! ### bsoncore_readLengthBytes: function 112 -/
def bsoncore_readLengthBytes.f (l0 : List Int) : Option (List Int × List Int × Bool) := (bsoncore_ReadLength.f l0).bind fun bt318 => (if bt318.2.2 = true then (if bt318.1 < 4 then (some (([] : List Int), l0, false)) else (if (l0.length : Int) < (wrap64 (bt318.1)) then (some (([] : List Int), l0, false)) else (if 0 ≤ bt318.1 then (if bt318.1 ≤ (l0.length : Int) then (some ((l0.take (bt318.1 : Int).toNat), (l0.drop (bt318.1 : Int).toNat), true)) else (none)) else (none)))) else (some (([] : List Int), l0, false)))
set_option maxHeartbeats 8000000 in
set_option maxRecDepth 100000 in
theorem bsoncore_readLengthBytes.calls (P0_ : Nat → Prop) (A0 : Option Addr) (c0 : Nat) (l0 : List Int) (r1 : List Int) (r2 : List Int) (r3 : Bool) (w : World) (hs0 : Kd.V (Kd.int .u8) 5 w w.heap.size (fun k_ => P0_ k_) (.slice A0 l0.length c0) l0) (h : bsoncore_readLengthBytes.f l0 = some (r1, r2, r3)) :
    Calls Tryz.prog 112 #[.slice A0 l0.length c0] w fun e w' => ∃ v0_ v1_ : Value, e = .returned (.tuple #[v0_, v1_, .bool r3]) ∧ Kd.V (Kd.int .u8) 5 w' w.heap.size (fun k_ => (P0_ k_ ∨ w.heap.size ≤ k_)) v0_ r1 ∧ Kd.V (Kd.int .u8) 5 w' w.heap.size (fun k_ => (P0_ k_ ∨ w.heap.size ≤ k_)) v1_ r2 ∧ Below w.heap.size w w' := by
  have HO0 := Aside0.mk (show Kd.V (Kd.int .u8) 5 w w.heap.size (fun k_ => (P0_ k_ ∨ w.heap.size ≤ k_)) (.slice A0 l0.length c0) l0 from Kd.V_mono hs0 (fun k_ hk => .inl hk))
  have HB := Aside0.mk (Below.refl w.heap.size w)
  have H : ((bsoncore_ReadLength.f l0).bind fun bt318 => (if bt318.2.2 = true then (if bt318.1 < 4 then (some (([] : List Int), l0, false)) else (if (l0.length : Int) < (wrap64 (bt318.1)) then (some (([] : List Int), l0, false)) else (if 0 ≤ bt318.1 then (if bt318.1 ≤ (l0.length : Int) then (some ((l0.take (bt318.1 : Int).toNat), (l0.drop (bt318.1 : Int).toNat), true)) else (none)) else (none)))) else (some (([] : List Int), l0, false)))) = some (r1, r2, r3) := h
  clear h
  replace H := Option.bind_eq_some_iff.mp H
  obtain ⟨⟨t318, t319, t322⟩, A20, H⟩ := H
  replace H : (if t322 = true then (if t318 < 4 then (some (([] : List Int), l0, false)) else (if (l0.length : Int) < (wrap64 (t318)) then (some (([] : List Int), l0, false)) else (if 0 ≤ t318 then (if t318 ≤ (l0.length : Int) then (some ((l0.take (t318 : Int).toNat), (l0.drop (t318 : Int).toNat), true)) else (none)) else (none)))) else (some (([] : List Int), l0, false))) = some (r1, r2, r3) := H
  have A2 := Aside0.mk A20
  clear A20
  by_cases c3 : t322 = true
  rotate_left
  · replace c3 := Bool.eq_false_iff.mpr c3
    subst c3
    have H1 : (some (([] : List Int), l0, false)) = some (r1, r2, r3) := by rw [if_neg (show ¬ (false = true) by decide)] at H; exact H
    clear H
    have H := H1
    clear H1
    as_aux_lemma =>
      simp only [Option.some.injEq, Prod.mk.injEq] at H
      obtain ⟨rfl, rfl, rfl⟩ := H
      go_enter Tryz.func112, Tryz.ntmps112
      go_wp2_with (first | (go_at_call 113; (with_reducible refine (bsoncore_ReadLength.calls (fun k_ => (P0_ k_ ∨ w.heap.size ≤ k_)) _ _ l0 t318 t319 false _ ?side1 A2.out).mono ?_); (case side1 => exact HO0.out); rintro e w15 ⟨v320, rfl, ho0, hb⟩; have n0_ := Aside0.mk (Kd.V_below (HW.zV HO0.out) hb); have n2_ := Aside0.mk (below_step HW.zb hb); clear HO0; clear HB; have HO0 := n0_; have HB := n2_; clear n0_ n2_; (try clear hb); (try clear hb2); (try clear hk); (try clear hi); (try clear ho0)))
      repeat (go_quiet (first | (go_at_call 113; (with_reducible refine (bsoncore_ReadLength.calls (fun k_ => (P0_ k_ ∨ w.heap.size ≤ k_)) _ _ l0 t318 t319 false _ ?side1 A2.out).mono ?_); (case side1 => exact HO0.out); rintro e w15 ⟨v320, rfl, ho0, hb⟩; have n0_ := Aside0.mk (Kd.V_below (HW.zV HO0.out) hb); have n2_ := Aside0.mk (below_step HW.zb hb); clear HO0; clear HB; have HO0 := n0_; have HB := n2_; clear n0_ n2_; (try clear hb); (try clear hb2); (try clear hk); (try clear hi); (try clear ho0))); try go_wp2_with (first | (go_at_call 113; (with_reducible refine (bsoncore_ReadLength.calls (fun k_ => (P0_ k_ ∨ w.heap.size ≤ k_)) _ _ l0 t318 t319 false _ ?side1 A2.out).mono ?_); (case side1 => exact HO0.out); rintro e w15 ⟨v320, rfl, ho0, hb⟩; have n0_ := Aside0.mk (Kd.V_below (HW.zV HO0.out) hb); have n2_ := Aside0.mk (below_step HW.zb hb); clear HO0; clear HB; have HO0 := n0_; have HB := n2_; clear n0_ n2_; (try clear hb); (try clear hb2); (try clear hk); (try clear hi); (try clear ho0))))
      go_ret3
      exact ⟨_, _, by first | rfl | (simp [errW_none, errW_some] <;> rfl) | (simp [*, errW_none, errW_some] <;> rfl), Kd.V_nil _ _ _ _ _, HW.zV HO0.out, HW.zb⟩
  subst c3
  have H1 : (if t318 < 4 then (some (([] : List Int), l0, false)) else (if (l0.length : Int) < (wrap64 (t318)) then (some (([] : List Int), l0, false)) else (if 0 ≤ t318 then (if t318 ≤ (l0.length : Int) then (some ((l0.take (t318 : Int).toNat), (l0.drop (t318 : Int).toNat), true)) else (none)) else (none)))) = some (r1, r2, r3) := by rw [if_pos rfl] at H; exact H
  clear H
  have H := H1
  clear H1
  by_cases c4 : t318 < 4
  · rw [if_pos c4] at H
    have c4b0 : decide (t318 < 4) = true := decide_eq_true c4
    clear c4
    as_aux_lemma =>
      simp only [Option.some.injEq, Prod.mk.injEq] at H
      obtain ⟨rfl, rfl, rfl⟩ := H
      go_enter Tryz.func112, Tryz.ntmps112
      go_wp2_with (first | (go_at_call 113; (with_reducible refine (bsoncore_ReadLength.calls (fun k_ => (P0_ k_ ∨ w.heap.size ≤ k_)) _ _ l0 t318 t319 true _ ?side1 A2.out).mono ?_); (case side1 => exact HO0.out); rintro e w5 ⟨v320, rfl, ho0, hb⟩; have n0_ := Aside0.mk (Kd.V_below (HW.zV HO0.out) hb); have n2_ := Aside0.mk (below_step HW.zb hb); clear HO0; clear HB; have HO0 := n0_; have HB := n2_; clear n0_ n2_; (try clear hb); (try clear hb2); (try clear hk); (try clear hi); (try clear ho0)))
      repeat (go_quiet (first | (go_at_call 113; (with_reducible refine (bsoncore_ReadLength.calls (fun k_ => (P0_ k_ ∨ w.heap.size ≤ k_)) _ _ l0 t318 t319 true _ ?side1 A2.out).mono ?_); (case side1 => exact HO0.out); rintro e w5 ⟨v320, rfl, ho0, hb⟩; have n0_ := Aside0.mk (Kd.V_below (HW.zV HO0.out) hb); have n2_ := Aside0.mk (below_step HW.zb hb); clear HO0; clear HB; have HO0 := n0_; have HB := n2_; clear n0_ n2_; (try clear hb); (try clear hb2); (try clear hk); (try clear hi); (try clear ho0))); try go_wp2_with (first | (go_at_call 113; (with_reducible refine (bsoncore_ReadLength.calls (fun k_ => (P0_ k_ ∨ w.heap.size ≤ k_)) _ _ l0 t318 t319 true _ ?side1 A2.out).mono ?_); (case side1 => exact HO0.out); rintro e w5 ⟨v320, rfl, ho0, hb⟩; have n0_ := Aside0.mk (Kd.V_below (HW.zV HO0.out) hb); have n2_ := Aside0.mk (below_step HW.zb hb); clear HO0; clear HB; have HO0 := n0_; have HB := n2_; clear n0_ n2_; (try clear hb); (try clear hb2); (try clear hk); (try clear hi); (try clear ho0))))
      go_ret3
      exact ⟨_, _, by first | rfl | (simp [errW_none, errW_some] <;> rfl) | (simp [*, errW_none, errW_some] <;> rfl), Kd.V_nil _ _ _ _ _, HW.zV HO0.out, HW.zb⟩
  rw [if_neg c4] at H
  have c4b0 : decide (t318 < 4) = false := decide_eq_false c4
  clear c4
  by_cases c6 : (l0.length : Int) < (wrap64 (t318))
  · rw [if_pos c6] at H
    have c6b0 : decide ((l0.length : Int) < (wrap64 (t318))) = true := decide_eq_true c6
    clear c6
    as_aux_lemma =>
      simp only [Option.some.injEq, Prod.mk.injEq] at H
      obtain ⟨rfl, rfl, rfl⟩ := H
      go_enter Tryz.func112, Tryz.ntmps112
      go_wp2_with (first | (go_at_call 113; (with_reducible refine (bsoncore_ReadLength.calls (fun k_ => (P0_ k_ ∨ w.heap.size ≤ k_)) _ _ l0 t318 t319 true _ ?side1 A2.out).mono ?_); (case side1 => exact HO0.out); rintro e w7 ⟨v320, rfl, ho0, hb⟩; have n0_ := Aside0.mk (Kd.V_below (HW.zV HO0.out) hb); have n2_ := Aside0.mk (below_step HW.zb hb); clear HO0; clear HB; have HO0 := n0_; have HB := n2_; clear n0_ n2_; (try clear hb); (try clear hb2); (try clear hk); (try clear hi); (try clear ho0)))
      repeat (go_quiet (first | (go_at_call 113; (with_reducible refine (bsoncore_ReadLength.calls (fun k_ => (P0_ k_ ∨ w.heap.size ≤ k_)) _ _ l0 t318 t319 true _ ?side1 A2.out).mono ?_); (case side1 => exact HO0.out); rintro e w7 ⟨v320, rfl, ho0, hb⟩; have n0_ := Aside0.mk (Kd.V_below (HW.zV HO0.out) hb); have n2_ := Aside0.mk (below_step HW.zb hb); clear HO0; clear HB; have HO0 := n0_; have HB := n2_; clear n0_ n2_; (try clear hb); (try clear hb2); (try clear hk); (try clear hi); (try clear ho0))); try go_wp2_with (first | (go_at_call 113; (with_reducible refine (bsoncore_ReadLength.calls (fun k_ => (P0_ k_ ∨ w.heap.size ≤ k_)) _ _ l0 t318 t319 true _ ?side1 A2.out).mono ?_); (case side1 => exact HO0.out); rintro e w7 ⟨v320, rfl, ho0, hb⟩; have n0_ := Aside0.mk (Kd.V_below (HW.zV HO0.out) hb); have n2_ := Aside0.mk (below_step HW.zb hb); clear HO0; clear HB; have HO0 := n0_; have HB := n2_; clear n0_ n2_; (try clear hb); (try clear hb2); (try clear hk); (try clear hi); (try clear ho0))))
      go_ret3
      exact ⟨_, _, by first | rfl | (simp [errW_none, errW_some] <;> rfl) | (simp [*, errW_none, errW_some] <;> rfl), Kd.V_nil _ _ _ _ _, HW.zV HO0.out, HW.zb⟩
  rw [if_neg c6] at H
  have c6b0 : decide ((l0.length : Int) < (wrap64 (t318))) = false := decide_eq_false c6
  clear c6
  by_cases c8 : 0 ≤ t318
  rotate_left
  · rw [if_neg c8] at H
    exact absurd H (by simp)
  rw [if_pos c8] at H
  have c8b0 := eq_true c8
  have c8b1 : decide (0 ≤ t318) = true := decide_eq_true c8
  clear c8
  by_cases c9 : t318 ≤ (l0.length : Int)
  rotate_left
  · rw [if_neg c9] at H
    exact absurd H (by simp)
  rw [if_pos c9] at H
  have c9b0 := eq_true c9
  have c9b1 : decide (t318 ≤ (l0.length : Int)) = true := decide_eq_true c9
  clear c9
  obtain ⟨y323, hy323⟩ : ∃ y_ : List Int, y_ = (l0.take (t318 : Int).toNat) := ⟨_, rfl⟩
  replace H : (some (y323, (l0.drop (t318 : Int).toNat), true)) = some (r1, r2, r3) := by first | (rw [hy323]; with_reducible exact H) | (have H2_ := (Option.bind_some _ _).symm.trans H; rw [hy323]; with_reducible exact H2_) | (have H2_ := (Option.bind_some _ _).symm.trans H; with_reducible exact H2_) | with_reducible exact H | (rw [hy323]; exact H) | exact H
  have Ny323 := Aside0.mk hy323
  clear hy323
  have c10b0 := eq_true (of_decide_eq_true (by first | (with_reducible assumption) | assumption) : 0 ≤ t318)
  have c11b0 := eq_true (of_decide_eq_true (by first | (with_reducible assumption) | assumption) : t318 ≤ (l0.length : Int))
  obtain ⟨y328, hy328⟩ : ∃ y_ : List Int, y_ = (l0.drop (t318 : Int).toNat) := ⟨_, rfl⟩
  replace H : (some (y323, y328, true)) = some (r1, r2, r3) := by first | (rw [hy328]; with_reducible exact H) | (have H2_ := (Option.bind_some _ _).symm.trans H; rw [hy328]; with_reducible exact H2_) | (have H2_ := (Option.bind_some _ _).symm.trans H; with_reducible exact H2_) | with_reducible exact H | (rw [hy328]; exact H) | exact H
  have Ny328 := Aside0.mk hy328
  clear hy328
  as_aux_lemma =>
    simp only [Option.some.injEq, Prod.mk.injEq] at H
    obtain ⟨rfl, rfl, rfl⟩ := H
    go_enter Tryz.func112, Tryz.ntmps112
    go_wp2_with (first | (go_at_call 113; (with_reducible refine (bsoncore_ReadLength.calls (fun k_ => (P0_ k_ ∨ w.heap.size ≤ k_)) _ _ l0 t318 t319 true _ ?side1 A2.out).mono ?_); (case side1 => exact HO0.out); rintro e w12 ⟨v320, rfl, ho0, hb⟩; have n0_ := Aside0.mk (Kd.V_below (HW.zV HO0.out) hb); have n2_ := Aside0.mk (below_step HW.zb hb); clear HO0; clear HB; have HO0 := n0_; have HB := n2_; clear n0_ n2_; (try clear hb); (try clear hb2); (try clear hk); (try clear hi); (try clear ho0); have q13 : (t318 : Int) ≤ ((l0.length : Int) : Int) := of_decide_eq_true (by first | (with_reducible assumption) | assumption); obtain ⟨i013, hi013, _, hsz13, _⟩ := info_parts info5; have hroom13 : l0.length ≤ c0 := (Kd.V_reads' HO0.out).2.1; have hC13 : Kd.F (Kd.int .u8) _ _ A0 l0.length l0 := (Kd.V_at (base := w.heap.size) HO0.out).2.2; have hcut13 := cut_to (P := Tryz.prog) 22 5 .i32 Tryz.underlying22 hi013 A0 l0.length c0 t318 (of_decide_eq_true (by first | (with_reducible assumption) | assumption)) q13 hroom13; have hr13 := Kd.F_take (m := (t318 : Int).toNat) hC13 (by omega); have hy13 : y323.length = (t318 : Int).toNat := (by rw [Ny323.out, List.length_take]; omega); rw [← Ny323.out] at hr13; rw [← hy13] at hcut13; have HO327 := Aside0.mk (show Kd.V (Kd.int .u8) 5 _ w.heap.size _ (.slice A0 y323.length c0) y323 from Kd.V_mk (by omega) hr13); have HC327 := Aside0.mk (show y323.length ≤ c0 from by omega); clear hr13 hC13 hroom13 hi013 hsz13; have KY13 := Aside0.mk hy13; clear hy13; replace q13 := eq_true q13; have q14 : (t318 : Int) ≤ ((l0.length : Int) : Int) := of_decide_eq_true (by first | (with_reducible assumption) | assumption); obtain ⟨i014, hi014, _, hsz14, _⟩ := info_parts info5; have hroom14 : l0.length ≤ c0 := (Kd.V_reads' HO0.out).2.1; have hC14 : Kd.F (Kd.int .u8) _ _ A0 l0.length l0 := (Kd.V_at (base := w.heap.size) HO0.out).2.2; have q014 : (0 : Int) ≤ (t318 : Int) := of_decide_eq_true (by first | (with_reducible assumption) | assumption); have hcut14 := cut_from (P := Tryz.prog) 22 5 .i32 Tryz.underlying22 hi014 1 hsz14 A0 l0.length c0 t318 q014 q14; have hr14 := Kd.F_cut (m := (t318 : Int).toNat) (c := c0) hC14 (by omega) hroom14; obtain ⟨A14, hA14⟩ : ∃ A1, A1 = (if c0 = (t318 : Int).toNat then A0 else (A0 : Option Addr).map (·.add ((t318 : Int).toNat * 1))) := ⟨_, rfl⟩; obtain ⟨c14, hc14⟩ : ∃ c1, c1 = c0 - (t318 : Int).toNat := ⟨_, rfl⟩; have hy14 : y328.length = l0.length - (t318 : Int).toNat := (by rw [Ny328.out, List.length_drop] <;> omega); rw [show (l0).drop (t318 : Int).toNat = y328 from Ny328.out.symm] at hr14; replace hr14 : Kd.F (Kd.int .u8) _ _ A14 y328.length y328 := (by rw [hA14]; exact hr14); rw [← hy14, ← hA14, ← hc14] at hcut14; have HO332 := Aside0.mk (show Kd.V (Kd.int .u8) 5 _ w.heap.size _ (.slice A14 y328.length c14) y328 from Kd.V_mk (by rw [hy14, hc14]; exact Nat.sub_le_sub_right hroom14 _) hr14); have HC332 := Aside0.mk (show y328.length ≤ c14 from by rw [hy14, hc14]; exact Nat.sub_le_sub_right hroom14 _); clear hr14 hC14 hroom14 hi014 hsz14 hc14; have KY14 := Aside0.mk hy14; have KA14 := Aside0.mk hA14; clear hy14 hA14; replace q14 := eq_true q14))
    repeat (go_quiet (first | (go_at_call 113; (with_reducible refine (bsoncore_ReadLength.calls (fun k_ => (P0_ k_ ∨ w.heap.size ≤ k_)) _ _ l0 t318 t319 true _ ?side1 A2.out).mono ?_); (case side1 => exact HO0.out); rintro e w12 ⟨v320, rfl, ho0, hb⟩; have n0_ := Aside0.mk (Kd.V_below (HW.zV HO0.out) hb); have n2_ := Aside0.mk (below_step HW.zb hb); clear HO0; clear HB; have HO0 := n0_; have HB := n2_; clear n0_ n2_; (try clear hb); (try clear hb2); (try clear hk); (try clear hi); (try clear ho0); have q13 : (t318 : Int) ≤ ((l0.length : Int) : Int) := of_decide_eq_true (by first | (with_reducible assumption) | assumption); obtain ⟨i013, hi013, _, hsz13, _⟩ := info_parts info5; have hroom13 : l0.length ≤ c0 := (Kd.V_reads' HO0.out).2.1; have hC13 : Kd.F (Kd.int .u8) _ _ A0 l0.length l0 := (Kd.V_at (base := w.heap.size) HO0.out).2.2; have hcut13 := cut_to (P := Tryz.prog) 22 5 .i32 Tryz.underlying22 hi013 A0 l0.length c0 t318 (of_decide_eq_true (by first | (with_reducible assumption) | assumption)) q13 hroom13; have hr13 := Kd.F_take (m := (t318 : Int).toNat) hC13 (by omega); have hy13 : y323.length = (t318 : Int).toNat := (by rw [Ny323.out, List.length_take]; omega); rw [← Ny323.out] at hr13; rw [← hy13] at hcut13; have HO327 := Aside0.mk (show Kd.V (Kd.int .u8) 5 _ w.heap.size _ (.slice A0 y323.length c0) y323 from Kd.V_mk (by omega) hr13); have HC327 := Aside0.mk (show y323.length ≤ c0 from by omega); clear hr13 hC13 hroom13 hi013 hsz13; have KY13 := Aside0.mk hy13; clear hy13; replace q13 := eq_true q13; have q14 : (t318 : Int) ≤ ((l0.length : Int) : Int) := of_decide_eq_true (by first | (with_reducible assumption) | assumption); obtain ⟨i014, hi014, _, hsz14, _⟩ := info_parts info5; have hroom14 : l0.length ≤ c0 := (Kd.V_reads' HO0.out).2.1; have hC14 : Kd.F (Kd.int .u8) _ _ A0 l0.length l0 := (Kd.V_at (base := w.heap.size) HO0.out).2.2; have q014 : (0 : Int) ≤ (t318 : Int) := of_decide_eq_true (by first | (with_reducible assumption) | assumption); have hcut14 := cut_from (P := Tryz.prog) 22 5 .i32 Tryz.underlying22 hi014 1 hsz14 A0 l0.length c0 t318 q014 q14; have hr14 := Kd.F_cut (m := (t318 : Int).toNat) (c := c0) hC14 (by omega) hroom14; obtain ⟨A14, hA14⟩ : ∃ A1, A1 = (if c0 = (t318 : Int).toNat then A0 else (A0 : Option Addr).map (·.add ((t318 : Int).toNat * 1))) := ⟨_, rfl⟩; obtain ⟨c14, hc14⟩ : ∃ c1, c1 = c0 - (t318 : Int).toNat := ⟨_, rfl⟩; have hy14 : y328.length = l0.length - (t318 : Int).toNat := (by rw [Ny328.out, List.length_drop] <;> omega); rw [show (l0).drop (t318 : Int).toNat = y328 from Ny328.out.symm] at hr14; replace hr14 : Kd.F (Kd.int .u8) _ _ A14 y328.length y328 := (by rw [hA14]; exact hr14); rw [← hy14, ← hA14, ← hc14] at hcut14; have HO332 := Aside0.mk (show Kd.V (Kd.int .u8) 5 _ w.heap.size _ (.slice A14 y328.length c14) y328 from Kd.V_mk (by rw [hy14, hc14]; exact Nat.sub_le_sub_right hroom14 _) hr14); have HC332 := Aside0.mk (show y328.length ≤ c14 from by rw [hy14, hc14]; exact Nat.sub_le_sub_right hroom14 _); clear hr14 hC14 hroom14 hi014 hsz14 hc14; have KY14 := Aside0.mk hy14; have KA14 := Aside0.mk hA14; clear hy14 hA14; replace q14 := eq_true q14)); try go_wp2_with (first | (go_at_call 113; (with_reducible refine (bsoncore_ReadLength.calls (fun k_ => (P0_ k_ ∨ w.heap.size ≤ k_)) _ _ l0 t318 t319 true _ ?side1 A2.out).mono ?_); (case side1 => exact HO0.out); rintro e w12 ⟨v320, rfl, ho0, hb⟩; have n0_ := Aside0.mk (Kd.V_below (HW.zV HO0.out) hb); have n2_ := Aside0.mk (below_step HW.zb hb); clear HO0; clear HB; have HO0 := n0_; have HB := n2_; clear n0_ n2_; (try clear hb); (try clear hb2); (try clear hk); (try clear hi); (try clear ho0); have q13 : (t318 : Int) ≤ ((l0.length : Int) : Int) := of_decide_eq_true (by first | (with_reducible assumption) | assumption); obtain ⟨i013, hi013, _, hsz13, _⟩ := info_parts info5; have hroom13 : l0.length ≤ c0 := (Kd.V_reads' HO0.out).2.1; have hC13 : Kd.F (Kd.int .u8) _ _ A0 l0.length l0 := (Kd.V_at (base := w.heap.size) HO0.out).2.2; have hcut13 := cut_to (P := Tryz.prog) 22 5 .i32 Tryz.underlying22 hi013 A0 l0.length c0 t318 (of_decide_eq_true (by first | (with_reducible assumption) | assumption)) q13 hroom13; have hr13 := Kd.F_take (m := (t318 : Int).toNat) hC13 (by omega); have hy13 : y323.length = (t318 : Int).toNat := (by rw [Ny323.out, List.length_take]; omega); rw [← Ny323.out] at hr13; rw [← hy13] at hcut13; have HO327 := Aside0.mk (show Kd.V (Kd.int .u8) 5 _ w.heap.size _ (.slice A0 y323.length c0) y323 from Kd.V_mk (by omega) hr13); have HC327 := Aside0.mk (show y323.length ≤ c0 from by omega); clear hr13 hC13 hroom13 hi013 hsz13; have KY13 := Aside0.mk hy13; clear hy13; replace q13 := eq_true q13; have q14 : (t318 : Int) ≤ ((l0.length : Int) : Int) := of_decide_eq_true (by first | (with_reducible assumption) | assumption); obtain ⟨i014, hi014, _, hsz14, _⟩ := info_parts info5; have hroom14 : l0.length ≤ c0 := (Kd.V_reads' HO0.out).2.1; have hC14 : Kd.F (Kd.int .u8) _ _ A0 l0.length l0 := (Kd.V_at (base := w.heap.size) HO0.out).2.2; have q014 : (0 : Int) ≤ (t318 : Int) := of_decide_eq_true (by first | (with_reducible assumption) | assumption); have hcut14 := cut_from (P := Tryz.prog) 22 5 .i32 Tryz.underlying22 hi014 1 hsz14 A0 l0.length c0 t318 q014 q14; have hr14 := Kd.F_cut (m := (t318 : Int).toNat) (c := c0) hC14 (by omega) hroom14; obtain ⟨A14, hA14⟩ : ∃ A1, A1 = (if c0 = (t318 : Int).toNat then A0 else (A0 : Option Addr).map (·.add ((t318 : Int).toNat * 1))) := ⟨_, rfl⟩; obtain ⟨c14, hc14⟩ : ∃ c1, c1 = c0 - (t318 : Int).toNat := ⟨_, rfl⟩; have hy14 : y328.length = l0.length - (t318 : Int).toNat := (by rw [Ny328.out, List.length_drop] <;> omega); rw [show (l0).drop (t318 : Int).toNat = y328 from Ny328.out.symm] at hr14; replace hr14 : Kd.F (Kd.int .u8) _ _ A14 y328.length y328 := (by rw [hA14]; exact hr14); rw [← hy14, ← hA14, ← hc14] at hcut14; have HO332 := Aside0.mk (show Kd.V (Kd.int .u8) 5 _ w.heap.size _ (.slice A14 y328.length c14) y328 from Kd.V_mk (by rw [hy14, hc14]; exact Nat.sub_le_sub_right hroom14 _) hr14); have HC332 := Aside0.mk (show y328.length ≤ c14 from by rw [hy14, hc14]; exact Nat.sub_le_sub_right hroom14 _); clear hr14 hC14 hroom14 hi014 hsz14 hc14; have KY14 := Aside0.mk hy14; have KA14 := Aside0.mk hA14; clear hy14 hA14; replace q14 := eq_true q14)))
    go_ret3
    exact ⟨_, _, by first | rfl | (simp [errW_none, errW_some] <;> rfl) | (simp [*, errW_none, errW_some] <;> rfl), HW.zV HO327.out, HW.zV HO332.out, HW.zb⟩

/-! ### bsoncore_ReadDocument: function 73 -/
def bsoncore_ReadDocument.f (l0 : List Int) : Option (List Int × List Int × Bool) := (bsoncore_readLengthBytes.f l0).bind fun bt333 => (some (bt333.1, bt333.2.1, bt333.2.2))
set_option maxHeartbeats 8000000 in
set_option maxRecDepth 100000 in
theorem bsoncore_ReadDocument.calls (P0_ : Nat → Prop) (A0 : Option Addr) (c0 : Nat) (l0 : List Int) (r1 : List Int) (r2 : List Int) (r3 : Bool) (w : World) (hs0 : Kd.V (Kd.int .u8) 5 w w.heap.size (fun k_ => P0_ k_) (.slice A0 l0.length c0) l0) (h : bsoncore_ReadDocument.f l0 = some (r1, r2, r3)) :
    Calls Tryz.prog 73 #[.slice A0 l0.length c0] w fun e w' => ∃ v0_ v1_ : Value, e = .returned (.tuple #[v0_, v1_, .bool r3]) ∧ Kd.V (Kd.int .u8) 5 w' w.heap.size (fun k_ => (P0_ k_ ∨ w.heap.size ≤ k_)) v0_ r1 ∧ Kd.V (Kd.int .u8) 5 w' w.heap.size (fun k_ => (P0_ k_ ∨ w.heap.size ≤ k_)) v1_ r2 ∧ Below w.heap.size w w' := by
  have HO0 := Aside0.mk (show Kd.V (Kd.int .u8) 5 w w.heap.size (fun k_ => (P0_ k_ ∨ w.heap.size ≤ k_)) (.slice A0 l0.length c0) l0 from Kd.V_mono hs0 (fun k_ hk => .inl hk))
  have HB := Aside0.mk (Below.refl w.heap.size w)
  have H : ((bsoncore_readLengthBytes.f l0).bind fun bt333 => (some (bt333.1, bt333.2.1, bt333.2.2))) = some (r1, r2, r3) := h
  clear h
  replace H := Option.bind_eq_some_iff.mp H
  obtain ⟨⟨t333, t336, t339⟩, A20, H⟩ := H
  replace H : (some (t333, t336, t339)) = some (r1, r2, r3) := H
  have A2 := Aside0.mk A20
  clear A20
  as_aux_lemma =>
    simp only [Option.some.injEq, Prod.mk.injEq] at H
    obtain ⟨rfl, rfl, rfl⟩ := H
    go_enter Tryz.func73, Tryz.ntmps73
    go_wp2_with (first | ((with_reducible refine gate_callee (f := 112) rfl ?_); refine HW.gz (some 6) rfl rfl Tryz.func112 (by kernel_rfl) rfl #[.slice A0 l0.length c0] rfl ?_; (with_reducible refine (bsoncore_readLengthBytes.calls (fun k_ => (P0_ k_ ∨ w.heap.size ≤ k_)) _ _ l0 t333 t336 t339 _ ?side1 A2.out).mono ?_); (case side1 => exact HO0.out); rintro e w3 ⟨v334, v337, rfl, ho0, ho1, hb⟩; refine ⟨_, rfl, ?_⟩; have n1_ := Aside0.mk (Kd.V_lower (Kd.V_mono (ok' := fun k_ => (P0_ k_ ∨ w.heap.size ≤ k_)) ho0 (fun k_ hk_ => Or.elim hk_ (fun hs_ => hs_) (fun hn_ => (.inr (Nat.le_trans (below_size HW.zb) hn_))))) (below_size HW.zb)); have n2_ := Aside0.mk (Kd.V_lower (Kd.V_mono (ok' := fun k_ => (P0_ k_ ∨ w.heap.size ≤ k_)) ho1 (fun k_ hk_ => Or.elim hk_ (fun hs_ => hs_) (fun hn_ => (.inr (Nat.le_trans (below_size HW.zb) hn_))))) (below_size HW.zb)); have n3_ := Aside0.mk (below_step HW.zb hb); clear HB; have HO335 := n1_; have HO338 := n2_; have HB := n3_; clear n1_ n2_ n3_; (try clear hb); (try clear hb2); (try clear hk); (try clear hi); (try clear ho0); (try clear ho1)))
    go_ret3
    exact ⟨_, _, by first | rfl | (simp [errW_none, errW_some] <;> rfl) | (simp [*, errW_none, errW_some] <;> rfl), HW.zV HO335.out, HW.zV HO338.out, HW.zb⟩

/-! ### bsoncore_Value_Document: function 122 -/
def bsoncore_Value_Document.f (a0_0 : Int) (l0_1 : List Int) : Option (List Int) := if a0_0 = 3 then ((bsoncore_ReadDocument.f l0_1).bind fun bt341 => (if bt341.2.2 = true then (some bt341.1) else (none))) else (none)
set_option maxHeartbeats 8000000 in
set_option maxRecDepth 100000 in
theorem bsoncore_Value_Document.calls (a0_0 : Int) (P0_1_ : Nat → Prop) (A0_1 : Option Addr) (c0_1 : Nat) (l0_1 : List Int) (r : List Int) (w : World) (hs0_1 : Kd.V (Kd.int .u8) 5 w w.heap.size (fun k_ => P0_1_ k_) (.slice A0_1 l0_1.length c0_1) l0_1) (h : bsoncore_Value_Document.f a0_0 l0_1 = some r) :
    Calls Tryz.prog 122 #[.agg #[.int .u8 a0_0, .slice A0_1 l0_1.length c0_1]] w fun e w' => ∃ v0_ : Value, e = .returned (v0_) ∧ Kd.V (Kd.int .u8) 5 w' w.heap.size (fun k_ => (P0_1_ k_ ∨ w.heap.size ≤ k_)) v0_ r ∧ Below w.heap.size w w' := by
  have hu101 := Tryz.underlying101
  have hu229 := Tryz.underlying229
  have HO0_1 := Aside0.mk (show Kd.V (Kd.int .u8) 5 w w.heap.size (fun k_ => (P0_1_ k_ ∨ w.heap.size ≤ k_)) (.slice A0_1 l0_1.length c0_1) l0_1 from Kd.V_mono hs0_1 (fun k_ hk => .inl hk))
  have HB := Aside0.mk (Below.refl w.heap.size w)
  have H : (if a0_0 = 3 then ((bsoncore_ReadDocument.f l0_1).bind fun bt341 => (if bt341.2.2 = true then (some bt341.1) else (none))) else (none)) = some r := h
  clear h
  by_cases c2 : a0_0 = 3
  rotate_left
  · rw [if_neg c2] at H
    exact absurd H (by simp)
  rw [if_pos c2] at H
  have c2b0 : (a0_0 == 3) = true := beq_iff_eq.mpr c2
  have c2b1 : (a0_0 != 3) = false := bne_eq_false_iff_eq.mpr c2
  clear c2
  replace H := Option.bind_eq_some_iff.mp H
  obtain ⟨⟨t341, t344, t347⟩, A30, H⟩ := H
  replace H : (if t347 = true then (some t341) else (none)) = some r := H
  have A3 := Aside0.mk A30
  clear A30
  by_cases c4 : t347 = true
  rotate_left
  · replace c4 := Bool.eq_false_iff.mpr c4
    subst c4
    have H1 : (none) = some r := by rw [if_neg (show ¬ (false = true) by decide)] at H; exact H
    clear H
    have H := H1
    clear H1
    exact absurd H (by simp)
  subst c4
  have H1 : (some t341) = some r := by rw [if_pos rfl] at H; exact H
  clear H
  have H := H1
  clear H1
  as_aux_lemma =>
    obtain rfl := Option.some.inj H
    go_enter Tryz.func122, Tryz.ntmps122
    go_wp2_with (first | ((with_reducible refine gate_dst (N := 1) rfl ?_); refine box_event ?hg (N := 1) ?hd (cs := #[.int .u8 a0_0, .slice A0_1 l0_1.length c0_1]) (t := 101) ?hr ?_; (case hd => rfl); (case hg => rfl); (case hr => first | (go_simp; done) | (go_simp; rfl)); intro gb340 hg w5 hbox hb; have n0_ := Aside0.mk (Kd.V_below (Kd.V_elderB (HW.zV HO0_1.out) gb340 (Nat.le_of_eq hg.symm)) hb); have n1_ := Aside0.mk (below_step HW.zb hb); have n2_ := Aside0.mk (hbox); have n4_ := Aside0.mk ((by rw [hg]; exact (below_size HW.zb) : w.heap.size ≤ gb340)); clear HO0_1; clear HB; have HO0_1 := n0_; have HB := n1_; have BK340 := n2_; have GE340 := n4_; clear n0_ n1_ n2_ n4_; clear hb hbox hg; have hcz6_0 := HW.zc BK340.out 0 (.int .u8 a0_0); have hcz6_1 := HW.zc BK340.out 1 (.slice A0_1 l0_1.length c0_1)) | ((with_reducible refine gate_callee (f := 73) rfl ?_); refine HW.gz (some 16) rfl rfl Tryz.func73 (by kernel_rfl) rfl #[.slice A0_1 l0_1.length c0_1] rfl ?_; (with_reducible refine (bsoncore_ReadDocument.calls (fun k_ => ((P0_1_ k_ ∨ w.heap.size ≤ k_) ∧ k_ ≠ gb340)) _ _ l0_1 t341 t344 true _ ?side1 A3.out).mono ?_); (case side1 => exact HO0_1.out); rintro e w7 ⟨v342, v345, rfl, ho0, ho1, hb⟩; refine ⟨_, rfl, ?_⟩; have n1_ := Aside0.mk (Kd.V_lower (Kd.V_mono (ok' := fun k_ => (P0_1_ k_ ∨ w.heap.size ≤ k_) ∧ k_ ≠ gb340) ho0 (fun k_ hk_ => ⟨Or.elim hk_ (fun hs_ => hs_.1) (fun hn_ => (.inr (Nat.le_trans (below_size HW.zb) hn_))), Or.elim hk_ (fun hs_ => hs_.2) (fun hn_ => (Kd.freshB (g := gb340) (o := .cells #[.int .u8 a0_0, .slice A0_1 l0_1.length c0_1] 101 (0, 0)) (HW.zB BK340.out) k_ hn_))⟩)) (below_size HW.zb)); have n4_ := Aside0.mk (below_step HW.zb hb); clear HB; have HO343 := n1_; have HB := n4_; clear n1_ n4_; (try clear hb); (try clear hb2); (try clear hk); (try clear hi); (try clear ho0); (try clear ho1)))
    go_ret
    exact ⟨_, by first | rfl | (simp [errW_none, errW_some] <;> rfl) | (simp [*, errW_none, errW_some] <;> rfl), by (with_reducible repeat (first | apply Kd.V_alloc | apply Kd.V_drewN | apply Kd.V_drew)); exact Kd.V_mono HO343.out (fun _ hk => hk.1), HW.zb⟩

/-! ### bsoncore_ReadArray: function 74 -/
def bsoncore_ReadArray.f (l0 : List Int) : Option (List Int × List Int × Bool) := (bsoncore_readLengthBytes.f l0).bind fun bt354 => (some (bt354.1, bt354.2.1, bt354.2.2))
set_option maxHeartbeats 8000000 in
set_option maxRecDepth 100000 in
theorem bsoncore_ReadArray.calls (P0_ : Nat → Prop) (A0 : Option Addr) (c0 : Nat) (l0 : List Int) (r1 : List Int) (r2 : List Int) (r3 : Bool) (w : World) (hs0 : Kd.V (Kd.int .u8) 5 w w.heap.size (fun k_ => P0_ k_) (.slice A0 l0.length c0) l0) (h : bsoncore_ReadArray.f l0 = some (r1, r2, r3)) :
    Calls Tryz.prog 74 #[.slice A0 l0.length c0] w fun e w' => ∃ v0_ v1_ : Value, e = .returned (.tuple #[v0_, v1_, .bool r3]) ∧ Kd.V (Kd.int .u8) 5 w' w.heap.size (fun k_ => (P0_ k_ ∨ w.heap.size ≤ k_)) v0_ r1 ∧ Kd.V (Kd.int .u8) 5 w' w.heap.size (fun k_ => (P0_ k_ ∨ w.heap.size ≤ k_)) v1_ r2 ∧ Below w.heap.size w w' := by
  have HO0 := Aside0.mk (show Kd.V (Kd.int .u8) 5 w w.heap.size (fun k_ => (P0_ k_ ∨ w.heap.size ≤ k_)) (.slice A0 l0.length c0) l0 from Kd.V_mono hs0 (fun k_ hk => .inl hk))
  have HB := Aside0.mk (Below.refl w.heap.size w)
  have H : ((bsoncore_readLengthBytes.f l0).bind fun bt354 => (some (bt354.1, bt354.2.1, bt354.2.2))) = some (r1, r2, r3) := h
  clear h
  replace H := Option.bind_eq_some_iff.mp H
  obtain ⟨⟨t354, t357, t360⟩, A20, H⟩ := H
  replace H : (some (t354, t357, t360)) = some (r1, r2, r3) := H
  have A2 := Aside0.mk A20
  clear A20
  as_aux_lemma =>
    simp only [Option.some.injEq, Prod.mk.injEq] at H
    obtain ⟨rfl, rfl, rfl⟩ := H
    go_enter Tryz.func74, Tryz.ntmps74
    go_wp2_with (first | ((with_reducible refine gate_callee (f := 112) rfl ?_); refine HW.gz (some 6) rfl rfl Tryz.func112 (by kernel_rfl) rfl #[.slice A0 l0.length c0] rfl ?_; (with_reducible refine (bsoncore_readLengthBytes.calls (fun k_ => (P0_ k_ ∨ w.heap.size ≤ k_)) _ _ l0 t354 t357 t360 _ ?side1 A2.out).mono ?_); (case side1 => exact HO0.out); rintro e w3 ⟨v355, v358, rfl, ho0, ho1, hb⟩; refine ⟨_, rfl, ?_⟩; have n1_ := Aside0.mk (Kd.V_lower (Kd.V_mono (ok' := fun k_ => (P0_ k_ ∨ w.heap.size ≤ k_)) ho0 (fun k_ hk_ => Or.elim hk_ (fun hs_ => hs_) (fun hn_ => (.inr (Nat.le_trans (below_size HW.zb) hn_))))) (below_size HW.zb)); have n2_ := Aside0.mk (Kd.V_lower (Kd.V_mono (ok' := fun k_ => (P0_ k_ ∨ w.heap.size ≤ k_)) ho1 (fun k_ hk_ => Or.elim hk_ (fun hs_ => hs_) (fun hn_ => (.inr (Nat.le_trans (below_size HW.zb) hn_))))) (below_size HW.zb)); have n3_ := Aside0.mk (below_step HW.zb hb); clear HB; have HO356 := n1_; have HO359 := n2_; have HB := n3_; clear n1_ n2_ n3_; (try clear hb); (try clear hb2); (try clear hk); (try clear hi); (try clear ho0); (try clear ho1)))
    go_ret3
    exact ⟨_, _, by first | rfl | (simp [errW_none, errW_some] <;> rfl) | (simp [*, errW_none, errW_some] <;> rfl), HW.zV HO356.out, HW.zV HO359.out, HW.zb⟩

/-! ### bsoncore_Value_Array: function 123 -/
def bsoncore_Value_Array.f (a0_0 : Int) (l0_1 : List Int) : Option (List Int) := if a0_0 = 4 then ((bsoncore_ReadArray.f l0_1).bind fun bt362 => (if bt362.2.2 = true then (some bt362.1) else (none))) else (none)
set_option maxHeartbeats 8000000 in
set_option maxRecDepth 100000 in
theorem bsoncore_Value_Array.calls (a0_0 : Int) (P0_1_ : Nat → Prop) (A0_1 : Option Addr) (c0_1 : Nat) (l0_1 : List Int) (r : List Int) (w : World) (hs0_1 : Kd.V (Kd.int .u8) 5 w w.heap.size (fun k_ => P0_1_ k_) (.slice A0_1 l0_1.length c0_1) l0_1) (h : bsoncore_Value_Array.f a0_0 l0_1 = some r) :
    Calls Tryz.prog 123 #[.agg #[.int .u8 a0_0, .slice A0_1 l0_1.length c0_1]] w fun e w' => ∃ v0_ : Value, e = .returned (v0_) ∧ Kd.V (Kd.int .u8) 5 w' w.heap.size (fun k_ => (P0_1_ k_ ∨ w.heap.size ≤ k_)) v0_ r ∧ Below w.heap.size w w' := by
  have hu101 := Tryz.underlying101
  have hu229 := Tryz.underlying229
  have HO0_1 := Aside0.mk (show Kd.V (Kd.int .u8) 5 w w.heap.size (fun k_ => (P0_1_ k_ ∨ w.heap.size ≤ k_)) (.slice A0_1 l0_1.length c0_1) l0_1 from Kd.V_mono hs0_1 (fun k_ hk => .inl hk))
  have HB := Aside0.mk (Below.refl w.heap.size w)
  have H : (if a0_0 = 4 then ((bsoncore_ReadArray.f l0_1).bind fun bt362 => (if bt362.2.2 = true then (some bt362.1) else (none))) else (none)) = some r := h
  clear h
  by_cases c2 : a0_0 = 4
  rotate_left
  · rw [if_neg c2] at H
    exact absurd H (by simp)
  rw [if_pos c2] at H
  have c2b0 : (a0_0 == 4) = true := beq_iff_eq.mpr c2
  have c2b1 : (a0_0 != 4) = false := bne_eq_false_iff_eq.mpr c2
  clear c2
  replace H := Option.bind_eq_some_iff.mp H
  obtain ⟨⟨t362, t365, t368⟩, A30, H⟩ := H
  replace H : (if t368 = true then (some t362) else (none)) = some r := H
  have A3 := Aside0.mk A30
  clear A30
  by_cases c4 : t368 = true
  rotate_left
  · replace c4 := Bool.eq_false_iff.mpr c4
    subst c4
    have H1 : (none) = some r := by rw [if_neg (show ¬ (false = true) by decide)] at H; exact H
    clear H
    have H := H1
    clear H1
    exact absurd H (by simp)
  subst c4
  have H1 : (some t362) = some r := by rw [if_pos rfl] at H; exact H
  clear H
  have H := H1
  clear H1
  as_aux_lemma =>
    obtain rfl := Option.some.inj H
    go_enter Tryz.func123, Tryz.ntmps123
    go_wp2_with (first | ((with_reducible refine gate_dst (N := 1) rfl ?_); refine box_event ?hg (N := 1) ?hd (cs := #[.int .u8 a0_0, .slice A0_1 l0_1.length c0_1]) (t := 101) ?hr ?_; (case hd => rfl); (case hg => rfl); (case hr => first | (go_simp; done) | (go_simp; rfl)); intro gb361 hg w5 hbox hb; have n0_ := Aside0.mk (Kd.V_below (Kd.V_elderB (HW.zV HO0_1.out) gb361 (Nat.le_of_eq hg.symm)) hb); have n1_ := Aside0.mk (below_step HW.zb hb); have n2_ := Aside0.mk (hbox); have n4_ := Aside0.mk ((by rw [hg]; exact (below_size HW.zb) : w.heap.size ≤ gb361)); clear HO0_1; clear HB; have HO0_1 := n0_; have HB := n1_; have BK361 := n2_; have GE361 := n4_; clear n0_ n1_ n2_ n4_; clear hb hbox hg; have hcz6_0 := HW.zc BK361.out 0 (.int .u8 a0_0); have hcz6_1 := HW.zc BK361.out 1 (.slice A0_1 l0_1.length c0_1)) | ((with_reducible refine gate_callee (f := 74) rfl ?_); refine HW.gz (some 16) rfl rfl Tryz.func74 (by kernel_rfl) rfl #[.slice A0_1 l0_1.length c0_1] rfl ?_; (with_reducible refine (bsoncore_ReadArray.calls (fun k_ => ((P0_1_ k_ ∨ w.heap.size ≤ k_) ∧ k_ ≠ gb361)) _ _ l0_1 t362 t365 true _ ?side1 A3.out).mono ?_); (case side1 => exact HO0_1.out); rintro e w7 ⟨v363, v366, rfl, ho0, ho1, hb⟩; refine ⟨_, rfl, ?_⟩; have n1_ := Aside0.mk (Kd.V_lower (Kd.V_mono (ok' := fun k_ => (P0_1_ k_ ∨ w.heap.size ≤ k_) ∧ k_ ≠ gb361) ho0 (fun k_ hk_ => ⟨Or.elim hk_ (fun hs_ => hs_.1) (fun hn_ => (.inr (Nat.le_trans (below_size HW.zb) hn_))), Or.elim hk_ (fun hs_ => hs_.2) (fun hn_ => (Kd.freshB (g := gb361) (o := .cells #[.int .u8 a0_0, .slice A0_1 l0_1.length c0_1] 101 (0, 0)) (HW.zB BK361.out) k_ hn_))⟩)) (below_size HW.zb)); have n4_ := Aside0.mk (below_step HW.zb hb); clear HB; have HO364 := n1_; have HB := n4_; clear n1_ n4_; (try clear hb); (try clear hb2); (try clear hk); (try clear hi); (try clear ho0); (try clear ho1)))
    go_ret
    exact ⟨_, by first | rfl | (simp [errW_none, errW_some] <;> rfl) | (simp [*, errW_none, errW_some] <;> rfl), by (with_reducible repeat (first | apply Kd.V_alloc | apply Kd.V_drewN | apply Kd.V_drew)); exact Kd.V_mono HO364.out (fun _ hk => hk.1), HW.zb⟩

/-! ### bsoncore_Element_KeyErr: function 170 -/
def bsoncore_Element_KeyErr.f (l0 : List Int) : Option (ByteArray × Option Int) := (bsoncore_Element_KeyBytesErr.f l0).bind fun bt375 => (some (strOfNums bt375.1, bt375.2))
set_option maxHeartbeats 8000000 in
set_option maxRecDepth 100000 in
theorem bsoncore_Element_KeyErr.calls (A0 : Option Addr) (c0 : Nat) (l0 : List Int) (r1 : ByteArray) (r2 : Option Int) (w : World) (hr0 : Kd.C (Kd.int .u8) w A0 l0.length l0) (hc0 : l0.length ≤ c0) (h : bsoncore_Element_KeyErr.f l0 = some (r1, r2)) :
    Calls Tryz.prog 170 #[.slice A0 l0.length c0] w fun e w' => e = .returned (.tuple #[.string r1, errW r2]) ∧ Below w.heap.size w w' := by
  have HR0 := Aside0.mk hr0
  have HC0 := Aside0.mk hc0
  clear hr0 hc0
  have HB := Aside0.mk (Below.refl w.heap.size w)
  have H : ((bsoncore_Element_KeyBytesErr.f l0).bind fun bt375 => (some (strOfNums bt375.1, bt375.2))) = some (r1, r2) := h
  clear h
  replace H := Option.bind_eq_some_iff.mp H
  obtain ⟨⟨t375, t378⟩, A20, H⟩ := H
  replace H : (some (strOfNums t375, t378)) = some (r1, r2) := H
  have A2 := Aside0.mk A20
  clear A20
  as_aux_lemma =>
    simp only [Option.some.injEq, Prod.mk.injEq] at H
    obtain ⟨rfl, rfl⟩ := H
    go_enter Tryz.func170, Tryz.ntmps170
    go_wp2_with (first | ((with_reducible refine gate_callee (f := 169) rfl ?_); refine HW.gz (some 8) rfl rfl Tryz.func169 (by kernel_rfl) rfl #[.slice A0 l0.length c0] rfl ?_; (with_reducible refine (bsoncore_Element_KeyBytesErr.calls (fun k_ => k_ < w.heap.size) _ _ l0 t375 t378 _ ?side1 A2.out).mono ?_); (case side1 => exact Kd.V_mk HC0.out (Kd.F_below (Kd.C_F (Kd.heap_int .u8) HR0.out) HW.zb)); rintro e w3 ⟨v376, rfl, ho0, hb⟩; refine ⟨_, rfl, ?_⟩; have n0_ := Aside0.mk (Kd.V_lower (Kd.V_mono (ok' := fun k_ => True) ho0 (fun k_ hk_ => trivial)) (below_size HW.zb)); have n1_ := Aside0.mk (below_step HW.zb hb); clear HB; have HO377 := n0_; have HB := n1_; clear n0_ n1_; (try clear hb); (try clear hb2); (try clear hk); (try clear hi); (try clear ho0); (try simp only [errW_none, errW_some]); have hcv4 := HW.V_string (P := Tryz.prog) Tryz.underlying22 Tryz.underlying5 Tryz.underlying9 (HO377.out)))
    go_ret2
    exact ⟨by first | rfl | (simp [errW_none, errW_some] <;> rfl) | (simp [*, errW_none, errW_some] <;> rfl), HW.zb⟩

/-! ### bsoncore_Element_Key: function 124 -/
def bsoncore_Element_Key.f (l0 : List Int) : Option (ByteArray) := (bsoncore_Element_KeyErr.f l0).bind fun bt379 => (some bt379.1)
set_option maxHeartbeats 8000000 in
set_option maxRecDepth 100000 in
theorem bsoncore_Element_Key.calls (A0 : Option Addr) (c0 : Nat) (l0 : List Int) (r : ByteArray) (w : World) (hr0 : Kd.C (Kd.int .u8) w A0 l0.length l0) (hc0 : l0.length ≤ c0) (h : bsoncore_Element_Key.f l0 = some r) :
    Calls Tryz.prog 124 #[.slice A0 l0.length c0] w fun e w' => e = .returned (.string r) ∧ Below w.heap.size w w' := by
  have HR0 := Aside0.mk hr0
  have HC0 := Aside0.mk hc0
  clear hr0 hc0
  have HB := Aside0.mk (Below.refl w.heap.size w)
  have H : ((bsoncore_Element_KeyErr.f l0).bind fun bt379 => (some bt379.1)) = some r := h
  clear h
  replace H := Option.bind_eq_some_iff.mp H
  obtain ⟨⟨t379, t380⟩, A20, H⟩ := H
  replace H : (some t379) = some r := H
  have A2 := Aside0.mk A20
  clear A20
  as_aux_lemma =>
    obtain rfl := Option.some.inj H
    go_enter Tryz.func124, Tryz.ntmps124
    go_wp2_with (first | ((with_reducible refine gate_callee (f := 170) rfl ?_); refine HW.gz (some 7) rfl rfl Tryz.func170 (by kernel_rfl) rfl #[.slice A0 l0.length c0] rfl ?_; (with_reducible refine (bsoncore_Element_KeyErr.calls _ _ l0 t379 t380 _ ?side1 ?side2 A2.out).mono ?_); (case side1 => repeat (first | exact HR0.out | (with_reducible refine Kd.C_alloc ?_ _) | (with_reducible refine Kd.C_drewN ?_ _) | (with_reducible refine Kd.C_drew ?_))); (case side2 => exact HC0.out); rintro e w3 ⟨rfl, hb⟩; refine ⟨_, rfl, ?_⟩; have n0_ := Aside0.mk (below_step HW.zb hb); clear HB; have HB := n0_; clear n0_; (try clear hb); (try clear hb2); (try clear hk); (try clear hi); (try simp only [errW_none, errW_some])))
    go_ret
    exact ⟨by first | rfl | (simp [errW_none, errW_some] <;> rfl) | (simp [*, errW_none, errW_some] <;> rfl), HW.zb⟩

end Go.Proofs.YtanecebppagakaaGreatDoor.PAh
