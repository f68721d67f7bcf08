import Derived.Test.YtanecebppagakaaGreatDoorPRxx0
import Derived.Test.YtanecebppagakaaGreatDoorPRxx1
import Derived.Test.YtanecebppagakaaGreatDoorPRxx2
import Derived.Test.YtanecebppagakaaGreatDoorPRxx5
import Derived.Test.YtanecebppagakaaGreatDoorPRxx7
namespace Go.Proofs.YtanecebppagakaaGreatDoor.PRx
open Go.Proofs.YtanecebppagakaaGreatDoor.HW (tt ff)
open Go.RowKit Go.Proofs.YtanecebppagakaaGreatDoorW.PrintWords Go.Proofs.YtanecebppagakaaGreatDoorW.PrintLast Go.Proofs.YtanecebppagakaaGreatDoorW.PrintMore
attribute [local go_sem] max2_int min2_int max_two min_two max_three min_three max_four min_four
set_option linter.unusedVariables false
set_option maxHeartbeats 8000000
set_option maxRecDepth 100000
set_option linter.unusedSimpArgs false
def bsoncore_Element_ValueErr.f (k : Nat) (l0 : List Int) : Option (Int × List Int × Option Int) := if (l0.length : Int) = 0 then (none) else (if 1 ≤ (l0.length : Int) then ((bytes_IndexByte.f (l0.drop 1) 0).bind fun t409 => (if t409 = (-1) then (none) else (if 0 ≤ (wrap64 (t409 + 2)) then (if (wrap64 (t409 + 2)) ≤ (l0.length : Int) then (if 0 < (l0.length : Int) then ((bsoncore_ReadValue.f k (l0.drop ((wrap64 (t409 + 2)) : Int).toNat) (rd l0 0)).bind fun bt416 => (if bt416.2.2.2 = true then (some (bt416.1, bt416.2.1, none)) else (none))) else (none)) else (none)) else (none)))) else (none))
theorem bsoncore_Element_ValueErr.mono : ∀ a0 k, LeO (bsoncore_Element_ValueErr.f k a0) (bsoncore_Element_ValueErr.f (k + 1) a0) := by
  intro a0 k
  unfold bsoncore_Element_ValueErr.f
  have m0_ := @bsoncore_ReadValue.mono; exact HW.mo
def bsoncore_Element_ValueErr.T6 : Bool × List (List Nat × List Nat) := (true, [([], []), ([], []), ([1], [1]), ([0, 2], [0, 2]), ([], []), ([4], [4]), ([5], [5]), ([3, 6], [3, 6]), ([7], [7]), ([8], [8]), ([8], [8]), ([8], [8]), ([], []), ([12, 9, 7, 0, 1, 2, 3, 4, 5, 6, 7, 8, 9, 12], [9, 12]), ([10, 13, 0, 1, 2, 3, 4, 5, 6, 7, 8, 9, 10, 12, 13], [10]), ([11, 14, 0, 1, 2, 3, 4, 5, 6, 7, 8, 9, 10, 11, 12, 13, 14], [11])])
def bsoncore_Element_ValueErr.B6 : List Nat := [0, 0, 2, 7, 0, 16, 48, 127, 255, 511, 511, 511, 0, 5119, 14335, 32767]
theorem bsoncore_Element_ValueErr.tab6 : rtab .any (opsOf Tryz.f125 6) = bsoncore_Element_ValueErr.T6 := by kernel_rfl
theorem bsoncore_Element_ValueErr.bits6 : waitsOk bsoncore_Element_ValueErr.T6.2 bsoncore_Element_ValueErr.B6 = true := by kernel_rfl
theorem bsoncore_Element_ValueErr.calls (k : Nat) (P0_ : Nat → Prop) (A0 : Option Addr) (c0 : Nat) (l0 : List Int) (r1 : Int) (r2 : List Int) (r3 : Option Int) (w : World) (hs0 : Kd.V (Kd.int .u8) 5 w w.heap.size (fun k_ => P0_ k_) (.slice A0 l0.length c0) l0) (h : bsoncore_Element_ValueErr.f k l0 = some (r1, r2, r3)) :
    Calls Tryz.prog 125 #[.slice A0 l0.length c0] w fun e w' => ∃ v1_ : Value, e = .returned (.tuple #[.agg #[.int .u8 r1, v1_], errW r3]) ∧ Kd.V (Kd.int .u8) 5 w' w.heap.size (fun k_ => (P0_ k_ ∨ w.heap.size ≤ k_)) v1_ r2 ∧ Below w.heap.size w w' := by
  have hu101 := Tryz.underlying101; have hu150 := Tryz.underlying150; have HO0 := Aside0.mk (show Kd.V (Kd.int .u8) 5 w w.heap.size (fun k_ => (P0_ k_ ∨ w.heap.size ≤ k_)) (.slice A0 l0.length c0) l0 from Kd.V_mono hs0 (fun k_ hk => .inl hk)); have HB := Aside0.mk (Below.refl w.heap.size w); have H : (if (l0.length : Int) = 0 then (none) else (if 1 ≤ (l0.length : Int) then ((bytes_IndexByte.f (l0.drop 1) 0).bind fun t409 => (if t409 = (-1) then (none) else (if 0 ≤ (wrap64 (t409 + 2)) then (if (wrap64 (t409 + 2)) ≤ (l0.length : Int) then (if 0 < (l0.length : Int) then ((bsoncore_ReadValue.f k (l0.drop ((wrap64 (t409 + 2)) : Int).toNat) (rd l0 0)).bind fun bt416 => (if bt416.2.2.2 = true then (some (bt416.1, bt416.2.1, none)) else (none))) else (none)) else (none)) else (none)))) else (none))) = some (r1, r2, r3) := h; clear h
  by_cases c2 : (l0.length : Int) = 0
  · rw [if_pos c2] at H
    exact absurd H (by simp)
  rw [if_neg c2] at H; have c2b0 : ((l0.length : Int) == 0) = false := beq_eq_false_iff_ne.mpr c2; have c2b1 : ((l0.length : Int) != 0) = true := bne_iff_ne.mpr c2
  have c2b2 : ¬ (l0 = []) := fun h_ => c2 (by rw [h_]; rfl)
  by_cases c3 : 1 ≤ (l0.length : Int)
  rotate_left
  · rw [if_neg c3] at H
    exact absurd H (by simp)
  rw [if_pos c3] at H; have c3b0 := eq_true c3; have c3b1 : decide (1 ≤ (l0.length : Int)) = true := decide_eq_true c3; clear c3; obtain ⟨y404, hy404⟩ : ∃ y_ : List Int, y_ = (l0.drop 1) := ⟨_, rfl⟩
  replace H : ((bytes_IndexByte.f y404 0).bind fun t409 => (if t409 = (-1) then (none) else (if 0 ≤ (wrap64 (t409 + 2)) then (if (wrap64 (t409 + 2)) ≤ (l0.length : Int) then (if 0 < (l0.length : Int) then ((bsoncore_ReadValue.f k (l0.drop ((wrap64 (t409 + 2)) : Int).toNat) (rd l0 0)).bind fun bt416 => (if bt416.2.2.2 = true then (some (bt416.1, bt416.2.1, none)) else (none))) else (none)) else (none)) else (none)))) = some (r1, r2, r3) := by (try rw [hy404]); exact HW.rp
  have Ny404 := Aside0.mk hy404; clear hy404; replace H := Option.bind_eq_some_iff.mp H; obtain ⟨t409, A40, H⟩ := H; replace H : (if t409 = (-1) then (none) else (if 0 ≤ (wrap64 (t409 + 2)) then (if (wrap64 (t409 + 2)) ≤ (l0.length : Int) then (if 0 < (l0.length : Int) then ((bsoncore_ReadValue.f k (l0.drop ((wrap64 (t409 + 2)) : Int).toNat) (rd l0 0)).bind fun bt416 => (if bt416.2.2.2 = true then (some (bt416.1, bt416.2.1, none)) else (none))) else (none)) else (none)) else (none))) = some (r1, r2, r3) := H; have A4 := Aside0.mk A40; clear A40
  by_cases c5 : t409 = (-1)
  · rw [if_pos c5] at H
    exact absurd H (by simp)
  rw [if_neg c5] at H; have c5b0 : (t409 == (-1)) = false := beq_eq_false_iff_ne.mpr c5; have c5b1 : (t409 != (-1)) = true := bne_iff_ne.mpr c5; obtain ⟨ji6, hji6⟩ : ∃ j_ : Int, (wrap64 (t409 + 2)) = j_ := ⟨_, rfl⟩
  replace H : (if 0 ≤ (ji6) then (if (ji6) ≤ (l0.length : Int) then (if 0 < (l0.length : Int) then ((bsoncore_ReadValue.f k (l0.drop ((ji6) : Int).toNat) (rd l0 0)).bind fun bt416 => (if bt416.2.2.2 = true then (some (bt416.1, bt416.2.1, none)) else (none))) else (none)) else (none)) else (none)) = some (r1, r2, r3) := by first | (rw [hji6] at H; exact H) | (simp only [hji6] at H ⊢; exact H)
  (try rw [hji6] at A4)
  have hji6w : (IntKind.i64.wrap (t409 + 2)) = ji6 := (i64_w _).trans hji6
  by_cases c7 : 0 ≤ (ji6)
  rotate_left
  · rw [if_neg c7] at H
    exact absurd H (by simp)
  rw [if_pos c7] at H; have c7b0 := eq_true c7; have c7b1 : decide (0 ≤ (ji6)) = true := decide_eq_true c7; clear c7
  by_cases c8 : (ji6) ≤ (l0.length : Int)
  rotate_left
  · rw [if_neg c8] at H
    exact absurd H (by simp)
  rw [if_pos c8] at H; have c8b0 := eq_true c8; have c8b1 : decide ((ji6) ≤ (l0.length : Int)) = true := decide_eq_true c8; clear c8; obtain ⟨y410, hy410⟩ : ∃ y_ : List Int, y_ = (l0.drop ((ji6) : Int).toNat) := ⟨_, rfl⟩
  replace H : (if 0 < (l0.length : Int) then ((bsoncore_ReadValue.f k y410 (rd l0 0)).bind fun bt416 => (if bt416.2.2.2 = true then (some (bt416.1, bt416.2.1, none)) else (none))) else (none)) = some (r1, r2, r3) := by (try rw [hy410]); exact HW.rp
  have Ny410 := Aside0.mk hy410; clear hy410
  by_cases c9 : 0 < (l0.length : Int)
  rotate_left
  · rw [if_neg c9] at H
    exact absurd H (by simp)
  rw [if_pos c9] at H; have c9b0 : decide (0 < (l0.length : Int)) = true := decide_eq_true c9
  have c9b1 : decide (0 < l0.length) = true := decide_eq_true (by omega)
  clear c9; replace H := Option.bind_eq_some_iff.mp H; obtain ⟨⟨t416, t417, t420, t423⟩, A100, H⟩ := H; replace H : (if t423 = true then (some (t416, t417, none)) else (none)) = some (r1, r2, r3) := H; have A10 := Aside0.mk A100; clear A100
  by_cases c11 : t423 = true
  rotate_left
  · replace c11 := Bool.eq_false_iff.mpr c11
    subst c11
    have H1 : (none) = some (r1, r2, r3) := by rw [if_neg (show ¬ (false = true) by decide)] at H; exact H
    clear H; have H := H1; clear H1
    exact absurd H (by simp)
  subst c11
  have H1 : (some (t416, t417, none)) = some (r1, r2, r3) := by rw [if_pos rfl] at H; exact H
  clear H; have H := H1; clear H1
  as_aux_lemma =>
    simp only [Option.some.injEq, Prod.mk.injEq] at H
    obtain ⟨rfl, rfl, rfl⟩ := H
    go_enter Tryz.func125, Tryz.ntmps125
    try go_wp2_with (first | ((with_reducible refine gate_dst (N := 2) rfl ?_); refine box_event ?hg (N := 2) ?hd (cs := #[.int .u8 0, .slice none 0 0]) (t := 101) ?hr ?_; (case hd => rfl); (case hg => rfl); (case hr => first | (go_simp; done) | (go_simp; rfl)); intro gb403 hg w12 hbox hb; have n0_ := Aside0.mk (Kd.V_below (Kd.V_elderB (HW.zV HO0.out) gb403 (Nat.le_of_eq hg.symm)) hb); have n1_ := Aside0.mk (below_step HW.zb hb); have n2_ := Aside0.mk (hbox); have n4_ := Aside0.mk ((by rw [hg]; exact (below_size HW.zb) : w.heap.size ≤ gb403)); clear HO0; clear HB; have HO0 := n0_; have HB := n1_; have BK403 := n2_; have GE403 := n4_; clear n0_ n1_ n2_ n4_; clear hb hbox hg; have q13 : (1 : Int) ≤ ((l0.length : Int) : Int) := HW.od; obtain ⟨i013, hi013, _, hsz13, _⟩ := info_parts info5; have hroom13 : l0.length ≤ c0 := (Kd.V_reads' HO0.out).2.1; have hC13 : Kd.F (Kd.int .u8) _ _ A0 l0.length l0 := (Kd.V_at (base := w.heap.size) HO0.out).2.2; have hcut13 := cut_from (P := Tryz.prog) 145 5 .i64 Tryz.underlying145 hi013 1 hsz13 A0 l0.length c0 1 (by omega) q13; have hr13 := Kd.F_cut (m := (1 : Int).toNat) (c := c0) hC13 (by omega) hroom13; obtain ⟨A13, hA13⟩ : ∃ A1, A1 = (if c0 = (1 : Int).toNat then A0 else (A0 : Option Addr).map (·.add ((1 : Int).toNat * 1))) := ⟨_, rfl⟩; obtain ⟨c13, hc13⟩ : ∃ c1, c1 = c0 - (1 : Int).toNat := ⟨_, rfl⟩; have hy13 : y404.length = l0.length - (1 : Int).toNat := (by rw [Ny404.out, List.length_drop] <;> omega); rw [show (l0).drop (1 : Int).toNat = y404 from Ny404.out.symm] at hr13; replace hr13 : Kd.F (Kd.int .u8) _ _ A13 y404.length y404 := (by rw [hA13]; exact hr13); rw [← hy13, ← hA13, ← hc13] at hcut13; have HO408 := Aside0.mk (show Kd.V (Kd.int .u8) 5 _ w.heap.size _ (.slice A13 y404.length c13) y404 from Kd.V_mk (by rw [hy13, hc13]; exact Nat.sub_le_sub_right hroom13 _) hr13); have HC408 := Aside0.mk (show y404.length ≤ c13 from by rw [hy13, hc13]; exact Nat.sub_le_sub_right hroom13 _); clear hr13 hC13 hroom13 hi013 hsz13 hc13; have KY13 := Aside0.mk hy13; have KA13 := Aside0.mk hA13; clear hy13 hA13; replace q13 := eq_true q13) | ((with_reducible refine gate_callee (f := 129) rfl ?_); refine HW.gz (some 15) rfl rfl Tryz.func129 (by kernel_rfl) rfl #[.slice A13 y404.length c13, .int .u8 0] rfl ?_; (with_reducible refine (bytes_IndexByte.calls _ _ y404 0 t409 _ ?side1 ?side2 A4.out).mono ?_); (case side1 => repeat (first | exact (Kd.V_reads' HO408.out).2.2 | (with_reducible refine Kd.C_alloc ?_ _) | (with_reducible refine Kd.C_drewN ?_ _) | (with_reducible refine Kd.C_drew ?_))); (case side2 => exact (Kd.V_reads' HO408.out).2.1); rintro e w' ⟨rfl, ⟨nd, rfl⟩⟩; refine ⟨_, rfl, ?_⟩; (try (rw [drewN_self w12]; generalize hq_ : World.drewN w12 _ = w12; have n0_ : Aside0 (Kd.V (Kd.int .u8) 5 w12 w.heap.size (fun k_ => (P0_ k_ ∨ w.heap.size ≤ k_) ∧ k_ ≠ gb403) (.slice A0 l0.length c0) l0) := ⟨by rw [← hq_]; exact (HW.zV HO0.out)⟩; have n1_ : Aside0 (Kd.V (Kd.int .u8) 5 w12 w.heap.size (fun k_ => (P0_ k_ ∨ w.heap.size ≤ k_) ∧ k_ ≠ gb403) (.slice A13 y404.length c13) y404) := ⟨by rw [← hq_]; exact (HW.zV HO408.out)⟩; have n2_ : Aside0 (w12.heap[gb403]? = some (.cells #[.int .u8 0, .slice none 0 0] 101 (0, 0))) := ⟨by rw [← hq_]; exact (HW.zB BK403.out)⟩; have n3_ : Aside0 (Below w.heap.size w w12) := ⟨by rw [← hq_]; exact HW.zb⟩; clear HO0 HO408 BK403 HB hq_; have HO0 := n0_; have HO408 := n1_; have BK403 := n2_; have HB := n3_; clear n0_ n1_ n2_ n3_))))
    replace HO0 := Aside0.mk (Kd.V_drew HO0.out); replace HO408 := Aside0.mk (Kd.V_drew HO408.out); replace BK403 := Aside0.mk (blk_drew BK403.out); replace HB := Aside0.mk (below_drew1 HB.out)
    have q15 : ((ji6) : Int) ≤ ((l0.length : Int) : Int) := HW.od
    obtain ⟨i015, hi015, _, hsz15, _⟩ := info_parts info5; have hroom15 : l0.length ≤ c0 := (Kd.V_reads' HO0.out).2.1; have hC15 : Kd.F (Kd.int .u8) _ _ A0 l0.length l0 := (Kd.V_at (base := w.heap.size) HO0.out).2.2
    have q015 : (0 : Int) ≤ ((ji6) : Int) := HW.od
    have hcut15 := cut_from (P := Tryz.prog) 145 5 .i64 Tryz.underlying145 hi015 1 hsz15 A0 l0.length c0 (ji6) q015 q15
    have hr15 := Kd.F_cut (m := ((ji6) : Int).toNat) (c := c0) hC15 (by omega) hroom15
    obtain ⟨A15, hA15⟩ : ∃ A1, A1 = (if c0 = ((ji6) : Int).toNat then A0 else (A0 : Option Addr).map (·.add (((ji6) : Int).toNat * 1))) := ⟨_, rfl⟩; obtain ⟨c15, hc15⟩ : ∃ c1, c1 = c0 - ((ji6) : Int).toNat := ⟨_, rfl⟩
    have hy15 : y410.length = l0.length - ((ji6) : Int).toNat := (by rw [Ny410.out, List.length_drop] <;> omega)
    rw [show (l0).drop ((ji6) : Int).toNat = y410 from Ny410.out.symm] at hr15
    replace hr15 : Kd.F (Kd.int .u8) _ _ A15 y410.length y410 := (by rw [hA15]; exact hr15)
    rw [← hy15, ← hA15, ← hc15] at hcut15
    have HO414 := Aside0.mk (show Kd.V (Kd.int .u8) 5 _ w.heap.size _ (.slice A15 y410.length c15) y410 from Kd.V_mk (by rw [hy15, hc15]; exact Nat.sub_le_sub_right hroom15 _) hr15)
    have HC414 := Aside0.mk (show y410.length ≤ c15 from by rw [hy15, hc15]; exact Nat.sub_le_sub_right hroom15 _)
    clear hr15 hC15 hroom15 hi015 hsz15 hc15; have KY15 := Aside0.mk hy15; have KA15 := Aside0.mk hA15; clear hy15 hA15; replace q15 := eq_true q15
    have p415 : 0 ≤ (0 : Int) := (by omega)
    have q415 : 0 < (l0.length : Int) := HW.od
    obtain ⟨ad415, e415, hx415_0⟩ := Kd.at_int (Kd.V_reads' HO0.out).2.2 0 p415 q415
    cases e415
    have qi415 : (0 < l0.length) = True := eq_true (by omega)
    (try rw [show ((0 : Int)).toNat = 0 from rfl] at hx415_0)
    (try rw [Addr.add_zero'] at hx415_0)
    replace p415 := eq_true p415; replace q415 := eq_true q415
    refine start_ (n := 16) (S := fun w' => w'.cell? ad415 = some (.int .u8 (rd l0 0))) (ds := []) #[ff,ff,ff,ff,ff,ff,ff,ff,ff,ff,ff,ff,ff,ff,ff,ff] (by kernel_rfl) rfl rfl (hx415_0) (fun hHeld => ?_); refine with_tabW bsoncore_Element_ValueErr.tab6 bsoncore_Element_ValueErr.bits6 (fun HT_ HW_ => ?_)
    generalize w12.drew = w14 at HO0 HO408 BK403 HB HO414 hx415_0 hHeld ⊢
    refine HW.pz (i := 0) (N := some 21) #[tt,ff,ff,ff,ff,ff,ff,ff,ff,ff,ff,ff,ff,ff,ff,ff] ?_ (hc := any_of HT_.out (by kernel_rfl))
    refine HW.pz (i := 1) (N := some 22) #[tt,tt,ff,ff,ff,ff,ff,ff,ff,ff,ff,ff,ff,ff,ff,ff] ?_ (hc := any_of HT_.out (by kernel_rfl))
    refine HW.pz (i := 2) (N := some 23) #[tt,tt,tt,ff,ff,ff,ff,ff,ff,ff,ff,ff,ff,ff,ff,ff] ?_ (hc := any_of HT_.out (by kernel_rfl))
    refine HW.pz (i := 3) (N := some 24) #[tt,tt,tt,tt,ff,ff,ff,ff,ff,ff,ff,ff,ff,ff,ff,ff] ?_ (hc := any_of HT_.out (by kernel_rfl))
    refine HW.pz (i := 4) (N := some 25) #[tt,tt,tt,tt,tt,ff,ff,ff,ff,ff,ff,ff,ff,ff,ff,ff] ?_ (hc := any_of HT_.out (by kernel_rfl))
    refine HW.pz (i := 5) (N := some 26) #[tt,tt,tt,tt,tt,tt,ff,ff,ff,ff,ff,ff,ff,ff,ff,ff] ?_ (hc := any_of HT_.out (by kernel_rfl))
    refine take_ (i := 6) (N := some 27) (v := ?_) (a' := ?_) #[tt,tt,tt,tt,tt,tt,tt,ff,ff,ff,ff,ff,ff,ff,ff,ff] rfl rfl (take_ofW HT_.out HW_.out (by kernel_rfl)) (fun _ _ _ h => h) (Or.inl ⟨by rfl, ?_⟩) hHeld ?_ ?_
    rotate_left
    · intro w' s0
      go_simp
      with_reducible rfl
    rotate_left
    · exact HW.pt
    refine join_ (σ := Value × Value × Nat) 3 #[tt,tt,tt,tt,tt,tt,tt,tt,tt,tt,tt,tt,tt,ff,ff,ff] (fun s_ => [(28, .tuple #[.agg #[.int .u8 t416, s_.1], s_.2.1, .bool true]), (5, .pointer (some ⟨s_.2.2, 0, none⟩)), (20, .tuple #[.agg #[.int .u8 t416, s_.1], s_.2.1, .bool true]), (29, .agg #[.int .u8 t416, s_.1]), (30, s_.2.1), (31, .bool true)]) (fun s_ w' => (w'.cell? ad415 = some (.int .u8 (rd l0 0))) ∧ (Kd.V (Kd.int .u8) 5 w' w.heap.size (fun k_ => (P0_ k_ ∨ w.heap.size ≤ k_) ∧ k_ ≠ gb403 ∧ k_ ≠ s_.2.2) (.slice (some ad415) l0.length c0) l0) ∧ (Kd.V (Kd.int .u8) 5 w' w.heap.size (fun k_ => (P0_ k_ ∨ w.heap.size ≤ k_) ∧ k_ ≠ gb403 ∧ k_ ≠ s_.2.2) (.slice A13 y404.length c13) y404) ∧ (Kd.V (Kd.int .u8) 5 w' w.heap.size (fun k_ => (P0_ k_ ∨ w.heap.size ≤ k_) ∧ k_ ≠ gb403 ∧ k_ ≠ s_.2.2) (.slice A15 y410.length c15) y410) ∧ (Kd.V (Kd.int .u8) 5 w' w.heap.size (fun k_ => (P0_ k_ ∨ w.heap.size ≤ k_) ∧ k_ ≠ gb403 ∧ k_ ≠ s_.2.2) s_.1 t417) ∧ (Kd.V (Kd.int .u8) 5 w' w.heap.size (fun k_ => (P0_ k_ ∨ w.heap.size ≤ k_) ∧ k_ ≠ gb403 ∧ k_ ≠ s_.2.2) s_.2.1 t420) ∧ (w'.heap[gb403]? = some (.cells #[.int .u8 0, .slice none 0 0] 101 (0, 0))) ∧ (w'.heap[s_.2.2]? = some (.cells #[.int .u8 0, .slice none 0 0] 101 (0, 0))) ∧ (w.heap.size ≤ s_.2.2) ∧ (w.heap.size ≤ s_.2.2) ∧ (gb403 ≠ s_.2.2) ∧ (s_.2.2 ≠ gb403) ∧ (Below w.heap.size w w')) ?_ ?_
    rotate_left
    · intro hCont
      refine two_ (i := 7) (j := 12) (Ni := some 28) (Nj := some 5) #[tt,tt,tt,tt,tt,tt,tt,tt,ff,ff,ff,ff,ff,ff,ff,ff] #[tt,tt,tt,tt,tt,tt,tt,ff,ff,ff,ff,ff,tt,ff,ff,ff] rfl rfl rfl rfl (two_of HT_.out (by kernel_rfl)) (by decide) (by decide) (fun K hK => ?_) (fun K hK => ?_)
      · skip
        refine goes_ Tryz.func89 (by kernel_rfl) rfl #[.slice A15 y410.length c15, .int .u8 (rd l0 0)] (by rfl) rfl rfl HW.mt ?_
        with_reducible refine (bsoncore_ReadValue.calls k (fun k_ => ((P0_ k_ ∨ w.heap.size ≤ k_) ∧ k_ ≠ gb403)) _ _ y410 (rd l0 0) t416 t417 t420 true _ ?side1 A10.out).mono ?_
        (case side1 => exact HO414.out)
        rintro e w16 ⟨v418, v421, rfl, ho0, ho1, hb⟩
        have HS0_ := (hb.cell (World.block_lt_of_cell? _ _ (hHeld))).trans (hHeld)
        refine ⟨_, rfl, ?_⟩
        replace HO0 := Aside0.mk (Kd.V_below (HW.zV HO0.out) hb); replace HO408 := Aside0.mk (Kd.V_below (HW.zV HO408.out) hb); replace HO414 := Aside0.mk (Kd.V_below (HW.zV HO414.out) hb); have HO419 := Aside0.mk (Kd.V_lower (Kd.V_mono (ok' := fun k_ => (P0_ k_ ∨ w.heap.size ≤ k_) ∧ k_ ≠ gb403) ho0 (fun k_ hk_ => ⟨Or.elim hk_ (fun hs_ => hs_.1) (fun hn_ => (.inr (Nat.le_trans (below_size HW.zb) hn_))), Or.elim hk_ (fun hs_ => hs_.2) (fun hn_ => (Kd.freshB (g := gb403) (o := .cells #[.int .u8 0, .slice none 0 0] 101 (0, 0)) (HW.zB BK403.out) k_ hn_))⟩)) (below_size HW.zb)); have HO422 := Aside0.mk (Kd.V_lower (Kd.V_mono (ok' := fun k_ => (P0_ k_ ∨ w.heap.size ≤ k_) ∧ k_ ≠ gb403) ho1 (fun k_ hk_ => ⟨Or.elim hk_ (fun hs_ => hs_.1) (fun hn_ => (.inr (Nat.le_trans (below_size HW.zb) hn_))), Or.elim hk_ (fun hs_ => hs_.2) (fun hn_ => (Kd.freshB (g := gb403) (o := .cells #[.int .u8 0, .slice none 0 0] 101 (0, 0)) (HW.zB BK403.out) k_ hn_))⟩)) (below_size HW.zb)); replace BK403 := Aside0.mk (blk_below (HW.zB BK403.out) hb); replace HB := Aside0.mk (below_step HW.zb hb)
        (try clear hb)
        (try clear hk)
        (try clear ho0)
        (try clear ho1)
        refine hK.out _ _ (HS0_) (fun hHeld => ?_)
        clear hK K
        refine HW.nz (N := (some 28)) ?_
        refine HW.pz (i := 8) (N := some 20) #[tt,tt,tt,tt,tt,tt,tt,tt,tt,ff,ff,ff,ff,ff,ff,ff] ?_ (hc := any_of HT_.out (by kernel_rfl))
        refine HW.pz (i := 9) (N := some 29) #[tt,tt,tt,tt,tt,tt,tt,tt,tt,tt,ff,ff,ff,ff,ff,ff] ?_ (hc := any_of HT_.out (by kernel_rfl))
        refine HW.pz (i := 10) (N := some 30) #[tt,tt,tt,tt,tt,tt,tt,tt,tt,tt,tt,ff,ff,ff,ff,ff] ?_ (hc := any_of HT_.out (by kernel_rfl))
        refine HW.pz (i := 11) (N := some 31) #[tt,tt,tt,tt,tt,tt,tt,tt,tt,tt,tt,tt,ff,ff,ff,ff] ?_ (hc := any_of HT_.out (by kernel_rfl))
        refine one_ (i := 12) (N := some 5) #[tt,tt,tt,tt,tt,tt,tt,tt,tt,tt,tt,tt,tt,ff,ff,ff] rfl rfl (one_of HT_.out (by kernel_rfl)) (by decide) (fun K hK => ?_)
        refine box_step ?hg (N := 5) ?hd (cs := #[.int .u8 0, .slice none 0 0]) (t := 101) ?hr ?_; (case hd => rfl); (case hg => rfl); (case hr => first | (go_simp; done) | (go_simp; rfl))
        intro gb424 hg w17 hbox hb
        have HS0_ := (hb.cell (World.block_lt_of_cell? _ _ (hHeld))).trans (hHeld); have n0_ := Aside0.mk (Kd.V_below (Kd.V_elderB (HW.zV HO0.out) gb424 (Nat.le_of_eq hg.symm)) hb); have n1_ := Aside0.mk (Kd.V_below (Kd.V_elderB (HW.zV HO408.out) gb424 (Nat.le_of_eq hg.symm)) hb); have n2_ := Aside0.mk (Kd.V_below (Kd.V_elderB (HW.zV HO414.out) gb424 (Nat.le_of_eq hg.symm)) hb); have n3_ := Aside0.mk (Kd.V_below (Kd.V_elderB (HW.zV HO419.out) gb424 (Nat.le_of_eq hg.symm)) hb); have n4_ := Aside0.mk (Kd.V_below (Kd.V_elderB (HW.zV HO422.out) gb424 (Nat.le_of_eq hg.symm)) hb); have n5_ := Aside0.mk (blk_below (HW.zB BK403.out) hb); have n6_ := Aside0.mk (below_step HW.zb hb); have n7_ := Aside0.mk (hbox)
        have n8_ := Aside0.mk ((by rw [hg]; exact (below_size HW.zb) : w.heap.size ≤ gb424))
        have n9_ := Aside0.mk ((by rw [hg]; exact (below_size HW.zb) : w.heap.size ≤ gb424))
        have n10_ := Aside0.mk ((by rw [hg]; exact Nat.ne_of_lt (blk_lt (g := gb403) (o := .cells #[.int .u8 0, .slice none 0 0] 101 (0, 0)) (HW.zB BK403.out)) : gb403 ≠ gb424))
        have n11_ := Aside0.mk ((by rw [hg]; exact Nat.ne_of_gt (blk_lt (g := gb403) (o := .cells #[.int .u8 0, .slice none 0 0] 101 (0, 0)) (HW.zB BK403.out)) : gb424 ≠ gb403))
        clear HO0; clear HO408; clear HO414; clear HO419; clear HO422; clear BK403; clear HB; have HO0 := n0_; have HO408 := n1_; have HO414 := n2_; have HO419 := n3_; have HO422 := n4_; have BK403 := n5_; have HB := n6_; have BK424 := n7_; have GW424 := n8_; have GE424 := n9_; have NB403_424 := n10_; have NB424_403 := n11_; clear n0_ n1_ n2_ n3_ n4_ n5_ n6_ n7_ n8_ n9_ n10_ n11_; clear hb hbox hg
        refine hK.out _ _ (HS0_) (fun hHeld => ?_)
        clear hK K
        refine HW.nz (N := (some 5)) ?_
        exact norm_ (by simp only [putAll, Act.put, List.setIfInBounds_toArray, List.set_cons_zero, List.set_cons_succ, errW_none]) (hCont (v418, v421, gb424) _ ⟨hHeld, (HW.zV (Kd.V_mono HO0.out (fun _ hk => ⟨hk.1.1, ⟨hk.1.2, hk.2⟩⟩))), (HW.zV (Kd.V_mono HO408.out (fun _ hk => ⟨hk.1.1, ⟨hk.1.2, hk.2⟩⟩))), (HW.zV (Kd.V_mono HO414.out (fun _ hk => ⟨hk.1.1, ⟨hk.1.2, hk.2⟩⟩))), (HW.zV (Kd.V_mono HO419.out (fun _ hk => ⟨hk.1.1, ⟨hk.1.2, hk.2⟩⟩))), (HW.zV (Kd.V_mono HO422.out (fun _ hk => ⟨hk.1.1, ⟨hk.1.2, hk.2⟩⟩))), (HW.zB BK403.out), (HW.zB BK424.out), GW424.out, GE424.out, NB403_424.out, NB424_403.out, HW.zb⟩)
      skip
      refine box_step ?hg (N := 5) ?hd (cs := #[.int .u8 0, .slice none 0 0]) (t := 101) ?hr ?_; (case hd => rfl); (case hg => rfl); (case hr => first | (go_simp; done) | (go_simp; rfl))
      intro gb424 hg w16 hbox hb
      have HS0_ := (hb.cell (World.block_lt_of_cell? _ _ (hHeld))).trans (hHeld); have n0_ := Aside0.mk (Kd.V_below (Kd.V_elderB (HW.zV HO0.out) gb424 (Nat.le_of_eq hg.symm)) hb); have n1_ := Aside0.mk (Kd.V_below (Kd.V_elderB (HW.zV HO408.out) gb424 (Nat.le_of_eq hg.symm)) hb); have n2_ := Aside0.mk (Kd.V_below (Kd.V_elderB (HW.zV HO414.out) gb424 (Nat.le_of_eq hg.symm)) hb); have n3_ := Aside0.mk (blk_below (HW.zB BK403.out) hb); have n4_ := Aside0.mk (below_step HW.zb hb); have n5_ := Aside0.mk (hbox)
      have n6_ := Aside0.mk ((by rw [hg]; exact (below_size HW.zb) : w.heap.size ≤ gb424))
      have n7_ := Aside0.mk ((by rw [hg]; exact (below_size HW.zb) : w.heap.size ≤ gb424))
      have n8_ := Aside0.mk ((by rw [hg]; exact Nat.ne_of_lt (blk_lt (g := gb403) (o := .cells #[.int .u8 0, .slice none 0 0] 101 (0, 0)) (HW.zB BK403.out)) : gb403 ≠ gb424))
      have n9_ := Aside0.mk ((by rw [hg]; exact Nat.ne_of_gt (blk_lt (g := gb403) (o := .cells #[.int .u8 0, .slice none 0 0] 101 (0, 0)) (HW.zB BK403.out)) : gb424 ≠ gb403))
      clear HO0; clear HO408; clear HO414; clear BK403; clear HB; have HO0 := n0_; have HO408 := n1_; have HO414 := n2_; have BK403 := n3_; have HB := n4_; have BK424 := n5_; have GW424 := n6_; have GE424 := n7_; have NB403_424 := n8_; have NB424_403 := n9_; clear n0_ n1_ n2_ n3_ n4_ n5_ n6_ n7_ n8_ n9_; clear hb hbox hg
      refine hK.out _ _ (HS0_) (fun hHeld => ?_)
      clear hK K
      refine HW.nz (N := (some 5)) ?_
      refine one_ (i := 7) (N := some 28) #[tt,tt,tt,tt,tt,tt,tt,tt,ff,ff,ff,ff,tt,ff,ff,ff] rfl rfl (one_of HT_.out (by kernel_rfl)) (by decide) (fun K hK => ?_)
      refine goes_ Tryz.func89 (by kernel_rfl) rfl #[.slice A15 y410.length c15, .int .u8 (rd l0 0)] (by rfl) rfl rfl HW.mt ?_
      with_reducible refine (bsoncore_ReadValue.calls k (fun k_ => (((P0_ k_ ∨ w.heap.size ≤ k_) ∧ k_ ≠ gb403) ∧ k_ ≠ gb424)) _ _ y410 (rd l0 0) t416 t417 t420 true _ ?side1 A10.out).mono ?_
      (case side1 => exact HO414.out)
      rintro e w17 ⟨v418, v421, rfl, ho0, ho1, hb⟩
      have HS0_ := (hb.cell (World.block_lt_of_cell? _ _ (hHeld))).trans (hHeld)
      refine ⟨_, rfl, ?_⟩
      have n0_ := Aside0.mk (Kd.V_below (HW.zV HO0.out) hb); have n1_ := Aside0.mk (Kd.V_below (HW.zV HO408.out) hb); have n2_ := Aside0.mk (Kd.V_below (HW.zV HO414.out) hb); have n3_ := Aside0.mk (Kd.V_lower (Kd.V_mono (ok' := fun k_ => (P0_ k_ ∨ w.heap.size ≤ k_) ∧ k_ ≠ gb403 ∧ k_ ≠ gb424) ho0 (fun k_ hk_ => ⟨Or.elim hk_ (fun hs_ => hs_.1.1) (fun hn_ => (.inr (Nat.le_trans (below_size HW.zb) hn_))), Or.elim hk_ (fun hs_ => hs_.1.2) (fun hn_ => (Kd.freshB (g := gb403) (o := .cells #[.int .u8 0, .slice none 0 0] 101 (0, 0)) (HW.zB BK403.out) k_ hn_)), Or.elim hk_ (fun hs_ => hs_.2) (fun hn_ => (Kd.freshB (g := gb424) (o := .cells #[.int .u8 0, .slice none 0 0] 101 (0, 0)) (HW.zB BK424.out) k_ hn_))⟩)) (below_size HW.zb)); have n4_ := Aside0.mk (Kd.V_lower (Kd.V_mono (ok' := fun k_ => (P0_ k_ ∨ w.heap.size ≤ k_) ∧ k_ ≠ gb403 ∧ k_ ≠ gb424) ho1 (fun k_ hk_ => ⟨Or.elim hk_ (fun hs_ => hs_.1.1) (fun hn_ => (.inr (Nat.le_trans (below_size HW.zb) hn_))), Or.elim hk_ (fun hs_ => hs_.1.2) (fun hn_ => (Kd.freshB (g := gb403) (o := .cells #[.int .u8 0, .slice none 0 0] 101 (0, 0)) (HW.zB BK403.out) k_ hn_)), Or.elim hk_ (fun hs_ => hs_.2) (fun hn_ => (Kd.freshB (g := gb424) (o := .cells #[.int .u8 0, .slice none 0 0] 101 (0, 0)) (HW.zB BK424.out) k_ hn_))⟩)) (below_size HW.zb)); have n5_ := Aside0.mk (blk_below (HW.zB BK403.out) hb)
      have n6_ := Aside0.mk (blk_below (HW.zB BK424.out) hb); have n7_ := Aside0.mk (below_step HW.zb hb); clear HO0; clear HO408; clear HO414; clear BK403; clear BK424; clear HB; have HO0 := n0_; have HO408 := n1_; have HO414 := n2_; have HO419 := n3_; have HO422 := n4_; have BK403 := n5_; have BK424 := n6_; have HB := n7_; clear n0_ n1_ n2_ n3_ n4_ n5_ n6_ n7_
      (try clear hb)
      (try clear hk)
      (try clear ho0)
      (try clear ho1)
      refine hK.out _ _ (HS0_) (fun hHeld => ?_)
      clear hK K
      refine HW.nz (N := (some 28)) ?_
      refine HW.pz (i := 8) (N := some 20) #[tt,tt,tt,tt,tt,tt,tt,tt,tt,ff,ff,ff,tt,ff,ff,ff] ?_ (hc := any_of HT_.out (by kernel_rfl))
      refine HW.pz (i := 9) (N := some 29) #[tt,tt,tt,tt,tt,tt,tt,tt,tt,tt,ff,ff,tt,ff,ff,ff] ?_ (hc := any_of HT_.out (by kernel_rfl))
      refine HW.pz (i := 10) (N := some 30) #[tt,tt,tt,tt,tt,tt,tt,tt,tt,tt,tt,ff,tt,ff,ff,ff] ?_ (hc := any_of HT_.out (by kernel_rfl))
      refine HW.pz (i := 11) (N := some 31) #[tt,tt,tt,tt,tt,tt,tt,tt,tt,tt,tt,tt,tt,ff,ff,ff] ?_ (hc := any_of HT_.out (by kernel_rfl))
      exact norm_ (by simp only [putAll, Act.put, List.setIfInBounds_toArray, List.set_cons_zero, List.set_cons_succ, errW_none]) (hCont (v418, v421, gb424) _ ⟨hHeld, (HW.zV (Kd.V_mono HO0.out (fun _ hk => ⟨hk.1.1, ⟨hk.1.2, hk.2⟩⟩))), (HW.zV (Kd.V_mono HO408.out (fun _ hk => ⟨hk.1.1, ⟨hk.1.2, hk.2⟩⟩))), (HW.zV (Kd.V_mono HO414.out (fun _ hk => ⟨hk.1.1, ⟨hk.1.2, hk.2⟩⟩))), (HW.zV HO419.out), (HW.zV HO422.out), (HW.zB BK403.out), (HW.zB BK424.out), GW424.out, GE424.out, NB403_424.out, NB424_403.out, HW.zb⟩)
    rintro ⟨v418, v421, gb424⟩ w18 ⟨hS_, h0_, h1_, h2_, h3_, h4_, h5_, h6_, h7_, h8_, h9_, h10_, h11_⟩
    have n0_ : Aside0 (Kd.V (Kd.int .u8) 5 w18 w.heap.size (fun k_ => (P0_ k_ ∨ w.heap.size ≤ k_) ∧ k_ ≠ gb403 ∧ k_ ≠ gb424) (.slice (some ad415) l0.length c0) l0) := ⟨h0_⟩; have n1_ : Aside0 (Kd.V (Kd.int .u8) 5 w18 w.heap.size (fun k_ => (P0_ k_ ∨ w.heap.size ≤ k_) ∧ k_ ≠ gb403 ∧ k_ ≠ gb424) (.slice A13 y404.length c13) y404) := ⟨h1_⟩; have n2_ : Aside0 (Kd.V (Kd.int .u8) 5 w18 w.heap.size (fun k_ => (P0_ k_ ∨ w.heap.size ≤ k_) ∧ k_ ≠ gb403 ∧ k_ ≠ gb424) (.slice A15 y410.length c15) y410) := ⟨h2_⟩; have n3_ : Aside0 (Kd.V (Kd.int .u8) 5 w18 w.heap.size (fun k_ => (P0_ k_ ∨ w.heap.size ≤ k_) ∧ k_ ≠ gb403 ∧ k_ ≠ gb424) v418 t417) := ⟨h3_⟩; have n4_ : Aside0 (Kd.V (Kd.int .u8) 5 w18 w.heap.size (fun k_ => (P0_ k_ ∨ w.heap.size ≤ k_) ∧ k_ ≠ gb403 ∧ k_ ≠ gb424) v421 t420) := ⟨h4_⟩; have n5_ : Aside0 (w18.heap[gb403]? = some (.cells #[.int .u8 0, .slice none 0 0] 101 (0, 0))) := ⟨h5_⟩; have n6_ : Aside0 (w18.heap[gb424]? = some (.cells #[.int .u8 0, .slice none 0 0] 101 (0, 0))) := ⟨h6_⟩; have n7_ : Aside0 (w.heap.size ≤ gb424) := ⟨h7_⟩; have n8_ : Aside0 (w.heap.size ≤ gb424) := ⟨h8_⟩; have n9_ : Aside0 (gb403 ≠ gb424) := ⟨h9_⟩; have n10_ : Aside0 (gb424 ≠ gb403) := ⟨h10_⟩; have n11_ : Aside0 (Below w.heap.size w w18) := ⟨h11_⟩; clear HO0; clear HO408; clear BK403; clear HB; clear h0_ h1_ h2_ h3_ h4_ h5_ h6_ h7_ h8_ h9_ h10_ h11_; have HO0 := n0_; have HO408 := n1_; have HO414 := n2_; have HO419 := n3_; have HO422 := n4_; have BK403 := n5_; have BK424 := n6_; have GW424 := n7_
    have GE424 := n8_; have NB403_424 := n9_; have NB424_403 := n10_; have HB := n11_; clear n0_ n1_ n2_ n3_ n4_ n5_ n6_ n7_ n8_ n9_ n10_ n11_; have hHeld : w18.cell? ad415 = some (.int .u8 (rd l0 0)) := hS_; obtain ⟨Ao20, co20, eo20⟩ := Kd.V_slice HO419.out
    (first | subst eo20 | (injection eo20 with f1_ f2_ f3_; have f4_ := f1_.symm; have f5_ := f3_.symm; clear f1_ f2_ f3_; subst f4_; subst f5_))
    refine norm_ (a' := ?_) ?_ ?_
    rotate_left
    · simp only [putAll, Act.put, List.setIfInBounds_toArray, List.set_cons_zero, List.set_cons_succ, errW_none]
      rfl
    refine one_ (i := 13) (N := none) #[tt,tt,tt,tt,tt,tt,tt,tt,tt,tt,tt,tt,tt,tt,ff,ff] rfl rfl (one_of HT_.out (by kernel_rfl)) (by decide) (fun K hK => ?_)
    have hs19 : w18.cell? ⟨gb424, 0, none⟩ = some (.int .u8 0) := (blk_cell BK424.out 0).trans rfl; have hfs19 := blk_frozen BK424.out 0; have hns19_0 := NB403_424.out; have hms19_0 := NB424_403.out; have hs21 : w18.cell? ⟨gb424, 1, none⟩ = some (.slice none 0 0) := (blk_cell BK424.out 1).trans rfl; have hfs21 := blk_frozen BK424.out 1; have hns21_0 := NB403_424.out; have hms21_0 := NB424_403.out
    refine skip_ (w1 := ?_) (by rfl) rfl ?_ ?_
    rotate_left
    · go_simp
      rfl
    refine hK.out _ _ (((cell_far (p := ⟨gb424, _, none⟩) (by first | exact Kd.own_blk (Kd.V_away HO0.out (fun _ hk => hk.2.2)) | (rw [add_block]; exact Kd.own_blk (Kd.V_away HO0.out (fun _ hk => hk.2.2))) | (show (Addr.add _ _).block ≠ _; rw [add_block]; exact Kd.own_blk (Kd.V_away HO0.out (fun _ hk => hk.2.2))) | (dsimp only; exact Kd.own_blk (Kd.V_away HO0.out (fun _ hk => hk.2.2)))) _).trans (((cell_far (p := ⟨gb424, _, none⟩) (by first | exact Kd.own_blk (Kd.V_away HO0.out (fun _ hk => hk.2.2)) | (rw [add_block]; exact Kd.own_blk (Kd.V_away HO0.out (fun _ hk => hk.2.2))) | (show (Addr.add _ _).block ≠ _; rw [add_block]; exact Kd.own_blk (Kd.V_away HO0.out (fun _ hk => hk.2.2))) | (dsimp only; exact Kd.own_blk (Kd.V_away HO0.out (fun _ hk => hk.2.2)))) _).trans (hHeld))))) (fun hHeld => ?_)
    clear hK K
    refine HW.pz (i := 14) (N := some 6) #[tt,tt,tt,tt,tt,tt,tt,tt,tt,tt,tt,tt,tt,tt,tt,ff] ?_ (hc := any_of HT_.out (by kernel_rfl))
    refine HW.pz (i := 15) (N := some 7) #[tt,tt,tt,tt,tt,tt,tt,tt,tt,tt,tt,tt,tt,tt,tt,tt] ?_ (hc := any_of HT_.out (by kernel_rfl))
    refine done_ (done_of HT_.out (by kernel_rfl)) ?_
    have hnb22 := NB424_403.out; have hnc22 := NB403_424.out; obtain ⟨hcz23_0, hcz23_1, hfz24_0, hfz24_1⟩ := HW.k2f BK424.out; obtain ⟨hcz25_0, hcz25_1, hfz26_0, hfz26_1⟩ := HW.k2f BK403.out
    try go_wp2
    refine bodyPost_ret (results_ct rfl _ _ gb403 101 #[.int .u8 t416, .slice Ao20 t417.length co20] (0, 0) _ rfl (by (with_reducible repeat (first | refine blk_drewN ?_ _ | refine blk_drew ?_ | refine blk_alloc ?_ _)); refine blk_put (cs := #[.int .u8 t416, .slice none 0 0]) ?_ 1 _ rfl; (with_reducible repeat (first | refine blk_drewN ?_ _ | refine blk_drew ?_ | refine blk_alloc ?_ _)); refine blk_put (cs := #[.int .u8 0, .slice none 0 0]) ?_ 0 _ rfl; (with_reducible repeat (first | refine blk_drewN ?_ _ | refine blk_drew ?_ | refine blk_alloc ?_ _)); refine blk_far ?_ NB403_424.out _; (with_reducible repeat (first | refine blk_drewN ?_ _ | refine blk_drew ?_ | refine blk_alloc ?_ _)); refine blk_far ?_ NB403_424.out _; exact HW.zB BK403.out) Tryz.underlying101 rfl (by kernel_rfl)) rfl ?_
    exact ⟨_, by first | rfl | (simp [errW_none, errW_some] <;> rfl) | (simp only [← hji6]; first | rfl | (simp [errW_none, errW_some] <;> rfl)) | (simp [*, errW_none, errW_some] <;> rfl), by (with_reducible repeat (first | apply Kd.V_alloc | apply Kd.V_drewN | apply Kd.V_drew)); exact Kd.V_mono (Kd.V_far (p := ⟨gb403, 1, none⟩) (Kd.V_far (p := ⟨gb403, 0, none⟩) (Kd.V_far (p := ⟨gb424, 1, none⟩) (Kd.V_far (p := ⟨gb424, 0, none⟩) (Kd.V_mono (Kd.V_mono HO419.out (fun k_ hk => (⟨hk, hk.2.2⟩ : _ ∧ k_ ≠ gb424))) (fun k_ hk => (⟨hk, hk.1.2.1⟩ : _ ∧ k_ ≠ gb403))) (fun _ hk => hk.1.2) (.int .u8 t416)) (fun _ hk => hk.1.2) (.slice Ao20 t417.length co20)) (fun _ hk => hk.2) (.int .u8 t416)) (fun _ hk => hk.2) (.slice Ao20 t417.length co20)) (fun _ hk => hk.1.1.1), HW.zb⟩
end Go.Proofs.YtanecebppagakaaGreatDoor.PRx
