import Derived.Test.YtbfhpjkahobgnaaGreatDoorPIxx0
import Derived.Test.YtbfhpjkahobgnaaGreatDoorPIxx4
import Derived.Test.YtbfhpjkahobgnaaGreatDoorPIxx7
namespace Go.Proofs.YtbfhpjkahobgnaaGreatDoor.PIx
open Go.Proofs.YtbfhpjkahobgnaaGreatDoor.HW (tt ff)
open Go.RowKit Go.Proofs.YtbfhpjkahobgnaaGreatDoorW.PrintWords Go.Proofs.YtbfhpjkahobgnaaGreatDoorW.PrintLast Go.Proofs.YtbfhpjkahobgnaaGreatDoorW.PrintMore
attribute [local go_sem] max2_int min2_int max_two min_two max_three min_three max_four min_four
set_option linter.unusedVariables false
set_option maxHeartbeats 8000000
set_option maxRecDepth 100000
set_option linter.unusedSimpArgs false
def bsoncore_Element_ValueErr.f (k : Nat) (l0 : List Int) : Option (Int × List Int × Option Int) := if (l0.length : Int) = 0 then (none) else (if 1 ≤ (l0.length : Int) then ((bytes_IndexByte.f (l0.drop 1) 0).bind fun t284 => (if t284 = (-1) then (none) else (if 0 ≤ (wrap64 (t284 + 2)) then (if (wrap64 (t284 + 2)) ≤ (l0.length : Int) then (if 0 < (l0.length : Int) then ((bsoncore_ReadValue.f k (l0.drop ((wrap64 (t284 + 2)) : Int).toNat) (rd l0 0)).bind fun bt291 => (if bt291.2.2.2 = true then (some (bt291.1, bt291.2.1, none)) else (none))) else (none)) else (none)) else (none)))) else (none))
theorem bsoncore_Element_ValueErr.mono : ∀ a0 k, LeO (bsoncore_Element_ValueErr.f k a0) (bsoncore_Element_ValueErr.f (k + 1) a0) := by
  intro a0 k
  unfold bsoncore_Element_ValueErr.f
  have m0_ := @bsoncore_ReadValue.mono; exact HW.mo
def bsoncore_Element_ValueErr.T6 : Bool × List (List Nat × List Nat) := (true, [([], []), ([], []), ([1], [1]), ([0, 2], [0, 2]), ([], []), ([4], [4]), ([5], [5]), ([3, 6], [3, 6]), ([7], [7]), ([8], [8]), ([8], [8]), ([8], [8]), ([], []), ([12, 9, 7, 0, 1, 2, 3, 4, 5, 6, 7, 8, 9, 12], [9, 12]), ([10, 13, 0, 1, 2, 3, 4, 5, 6, 7, 8, 9, 10, 12, 13], [10]), ([11, 14, 0, 1, 2, 3, 4, 5, 6, 7, 8, 9, 10, 11, 12, 13, 14], [11])])
def bsoncore_Element_ValueErr.B6 : List Nat := [0, 0, 2, 7, 0, 16, 48, 127, 255, 511, 511, 511, 0, 5119, 14335, 32767]
theorem bsoncore_Element_ValueErr.tab6 : rtab .any (opsOf Tryz.f81 6) = bsoncore_Element_ValueErr.T6 := by kernel_rfl
theorem bsoncore_Element_ValueErr.bits6 : waitsOk bsoncore_Element_ValueErr.T6.2 bsoncore_Element_ValueErr.B6 = true := by kernel_rfl
theorem bsoncore_Element_ValueErr.calls (k : Nat) (P0_ : Nat → Prop) (A0 : Option Addr) (c0 : Nat) (l0 : List Int) (r1 : Int) (r2 : List Int) (r3 : Option Int) (w : World) (hs0 : Kd.V (Kd.int .u8) 5 w w.heap.size (fun k_ => P0_ k_) (.slice A0 l0.length c0) l0) (h : bsoncore_Element_ValueErr.f k l0 = some (r1, r2, r3)) :
    Calls Tryz.prog 81 #[.slice A0 l0.length c0] w fun e w' => ∃ v1_ : Value, e = .returned (.tuple #[.agg #[.int .u8 r1, v1_], errW r3]) ∧ Kd.V (Kd.int .u8) 5 w' w.heap.size (fun k_ => (P0_ k_ ∨ w.heap.size ≤ k_)) v1_ r2 ∧ Below w.heap.size w w' := by
  have hu67 := Tryz.underlying67; have hu59 := Tryz.underlying59; have HO0 := Aside0.mk (show Kd.V (Kd.int .u8) 5 w w.heap.size (fun k_ => (P0_ k_ ∨ w.heap.size ≤ k_)) (.slice A0 l0.length c0) l0 from Kd.V_mono hs0 (fun k_ hk => .inl hk)); have HB := Aside0.mk (Below.refl w.heap.size w); have H : (if (l0.length : Int) = 0 then (none) else (if 1 ≤ (l0.length : Int) then ((bytes_IndexByte.f (l0.drop 1) 0).bind fun t284 => (if t284 = (-1) then (none) else (if 0 ≤ (wrap64 (t284 + 2)) then (if (wrap64 (t284 + 2)) ≤ (l0.length : Int) then (if 0 < (l0.length : Int) then ((bsoncore_ReadValue.f k (l0.drop ((wrap64 (t284 + 2)) : Int).toNat) (rd l0 0)).bind fun bt291 => (if bt291.2.2.2 = true then (some (bt291.1, bt291.2.1, none)) else (none))) else (none)) else (none)) else (none)))) else (none))) = some (r1, r2, r3) := h; clear h
  by_cases c2 : (l0.length : Int) = 0
  · rw [if_pos c2] at H
    exact absurd H (by simp)
  rw [if_neg c2] at H; have c2b0 : ((l0.length : Int) == 0) = false := beq_eq_false_iff_ne.mpr c2; have c2b1 : ((l0.length : Int) != 0) = true := bne_iff_ne.mpr c2
  have c2b2 : ¬ (l0 = []) := fun h_ => c2 (by rw [h_]; rfl)
  by_cases c3 : 1 ≤ (l0.length : Int)
  rotate_left
  · rw [if_neg c3] at H
    exact absurd H (by simp)
  rw [if_pos c3] at H; have c3b0 := eq_true c3; have c3b1 : decide (1 ≤ (l0.length : Int)) = true := decide_eq_true c3; clear c3; obtain ⟨y279, hy279⟩ : ∃ y_ : List Int, y_ = (l0.drop 1) := ⟨_, rfl⟩
  replace H : ((bytes_IndexByte.f y279 0).bind fun t284 => (if t284 = (-1) then (none) else (if 0 ≤ (wrap64 (t284 + 2)) then (if (wrap64 (t284 + 2)) ≤ (l0.length : Int) then (if 0 < (l0.length : Int) then ((bsoncore_ReadValue.f k (l0.drop ((wrap64 (t284 + 2)) : Int).toNat) (rd l0 0)).bind fun bt291 => (if bt291.2.2.2 = true then (some (bt291.1, bt291.2.1, none)) else (none))) else (none)) else (none)) else (none)))) = some (r1, r2, r3) := by (try rw [hy279]); exact HW.rp
  have Ny279 := Aside0.mk hy279; clear hy279; replace H := Option.bind_eq_some_iff.mp H; obtain ⟨t284, A40, H⟩ := H; replace H : (if t284 = (-1) then (none) else (if 0 ≤ (wrap64 (t284 + 2)) then (if (wrap64 (t284 + 2)) ≤ (l0.length : Int) then (if 0 < (l0.length : Int) then ((bsoncore_ReadValue.f k (l0.drop ((wrap64 (t284 + 2)) : Int).toNat) (rd l0 0)).bind fun bt291 => (if bt291.2.2.2 = true then (some (bt291.1, bt291.2.1, none)) else (none))) else (none)) else (none)) else (none))) = some (r1, r2, r3) := H; have A4 := Aside0.mk A40; clear A40
  by_cases c5 : t284 = (-1)
  · rw [if_pos c5] at H
    exact absurd H (by simp)
  rw [if_neg c5] at H; have c5b0 : (t284 == (-1)) = false := beq_eq_false_iff_ne.mpr c5; have c5b1 : (t284 != (-1)) = true := bne_iff_ne.mpr c5; obtain ⟨ji6, hji6⟩ : ∃ j_ : Int, (wrap64 (t284 + 2)) = j_ := ⟨_, rfl⟩
  replace H : (if 0 ≤ (ji6) then (if (ji6) ≤ (l0.length : Int) then (if 0 < (l0.length : Int) then ((bsoncore_ReadValue.f k (l0.drop ((ji6) : Int).toNat) (rd l0 0)).bind fun bt291 => (if bt291.2.2.2 = true then (some (bt291.1, bt291.2.1, none)) else (none))) else (none)) else (none)) else (none)) = some (r1, r2, r3) := by first | (rw [hji6] at H; exact H) | (simp only [hji6] at H ⊢; exact H)
  (try rw [hji6] at A4)
  have hji6w : (IntKind.i64.wrap (t284 + 2)) = ji6 := (i64_w _).trans hji6
  by_cases c7 : 0 ≤ (ji6)
  rotate_left
  · rw [if_neg c7] at H
    exact absurd H (by simp)
  rw [if_pos c7] at H; have c7b0 := eq_true c7; have c7b1 : decide (0 ≤ (ji6)) = true := decide_eq_true c7; clear c7
  by_cases c8 : (ji6) ≤ (l0.length : Int)
  rotate_left
  · rw [if_neg c8] at H
    exact absurd H (by simp)
  rw [if_pos c8] at H; have c8b0 := eq_true c8; have c8b1 : decide ((ji6) ≤ (l0.length : Int)) = true := decide_eq_true c8; clear c8; obtain ⟨y285, hy285⟩ : ∃ y_ : List Int, y_ = (l0.drop ((ji6) : Int).toNat) := ⟨_, rfl⟩
  replace H : (if 0 < (l0.length : Int) then ((bsoncore_ReadValue.f k y285 (rd l0 0)).bind fun bt291 => (if bt291.2.2.2 = true then (some (bt291.1, bt291.2.1, none)) else (none))) else (none)) = some (r1, r2, r3) := by (try rw [hy285]); exact HW.rp
  have Ny285 := Aside0.mk hy285; clear hy285
  by_cases c9 : 0 < (l0.length : Int)
  rotate_left
  · rw [if_neg c9] at H
    exact absurd H (by simp)
  rw [if_pos c9] at H; have c9b0 : decide (0 < (l0.length : Int)) = true := decide_eq_true c9
  have c9b1 : decide (0 < l0.length) = true := decide_eq_true (by omega)
  clear c9; replace H := Option.bind_eq_some_iff.mp H; obtain ⟨⟨t291, t292, t295, t298⟩, A100, H⟩ := H; replace H : (if t298 = true then (some (t291, t292, none)) else (none)) = some (r1, r2, r3) := H; have A10 := Aside0.mk A100; clear A100
  by_cases c11 : t298 = true
  rotate_left
  · replace c11 := Bool.eq_false_iff.mpr c11
    subst c11
    have H1 : (none) = some (r1, r2, r3) := by rw [if_neg (show ¬ (false = true) by decide)] at H; exact H
    clear H; have H := H1; clear H1
    exact absurd H (by simp)
  subst c11
  have H1 : (some (t291, t292, none)) = some (r1, r2, r3) := by rw [if_pos rfl] at H; exact H
  clear H; have H := H1; clear H1
  as_aux_lemma =>
    simp only [Option.some.injEq, Prod.mk.injEq] at H
    obtain ⟨rfl, rfl, rfl⟩ := H
    go_enter Tryz.func81, Tryz.ntmps81
    try go_wp2_with (first | ((with_reducible refine gate_dst (N := 2) rfl ?_); refine box_event ?hg (N := 2) ?hd (cs := #[.int .u8 0, .slice none 0 0]) (t := 67) ?hr ?_; (case hd => rfl); (case hg => rfl); (case hr => first | (go_simp; done) | (go_simp; rfl)); intro gb278 hg w12 hbox hb; have n0_ := Aside0.mk (Kd.V_below (Kd.V_elderB (HW.zV HO0.out) gb278 (Nat.le_of_eq hg.symm)) hb); have n1_ := Aside0.mk (below_step HW.zb hb); have n2_ := Aside0.mk (hbox); have n4_ := Aside0.mk ((by rw [hg]; exact (below_size HW.zb) : w.heap.size ≤ gb278)); clear HO0; clear HB; have HO0 := n0_; have HB := n1_; have BK278 := n2_; have GE278 := n4_; clear n0_ n1_ n2_ n4_; clear hb hbox hg; have q13 : (1 : Int) ≤ ((l0.length : Int) : Int) := HW.od; obtain ⟨i013, hi013, _, hsz13, _⟩ := info_parts info5; have hroom13 : l0.length ≤ c0 := (Kd.V_reads' HO0.out).2.1; have hC13 : Kd.F (Kd.int .u8) _ _ A0 l0.length l0 := (Kd.V_at (base := w.heap.size) HO0.out).2.2; have hcut13 := cut_from (P := Tryz.prog) 57 5 .i64 Tryz.underlying57 hi013 1 hsz13 A0 l0.length c0 1 (by omega) q13; have hr13 := Kd.F_cut (m := (1 : Int).toNat) (c := c0) hC13 (by omega) hroom13; obtain ⟨A13, hA13⟩ : ∃ A1, A1 = (if c0 = (1 : Int).toNat then A0 else (A0 : Option Addr).map (·.add ((1 : Int).toNat * 1))) := ⟨_, rfl⟩; obtain ⟨c13, hc13⟩ : ∃ c1, c1 = c0 - (1 : Int).toNat := ⟨_, rfl⟩; have hy13 : y279.length = l0.length - (1 : Int).toNat := (by rw [Ny279.out, List.length_drop] <;> omega); rw [show (l0).drop (1 : Int).toNat = y279 from Ny279.out.symm] at hr13; replace hr13 : Kd.F (Kd.int .u8) _ _ A13 y279.length y279 := (by rw [hA13]; exact hr13); rw [← hy13, ← hA13, ← hc13] at hcut13; have HO283 := Aside0.mk (show Kd.V (Kd.int .u8) 5 _ w.heap.size _ (.slice A13 y279.length c13) y279 from Kd.V_mk (by rw [hy13, hc13]; exact Nat.sub_le_sub_right hroom13 _) hr13); have HC283 := Aside0.mk (show y279.length ≤ c13 from by rw [hy13, hc13]; exact Nat.sub_le_sub_right hroom13 _); clear hr13 hC13 hroom13 hi013 hsz13 hc13; have KY13 := Aside0.mk hy13; have KA13 := Aside0.mk hA13; clear hy13 hA13; replace q13 := eq_true q13) | ((with_reducible refine gate_callee (f := 127) rfl ?_); refine HW.gz (some 15) rfl rfl Tryz.func127 (by kernel_rfl) rfl #[.slice A13 y279.length c13, .int .u8 0] rfl ?_; (with_reducible refine (bytes_IndexByte.calls _ _ y279 0 t284 _ ?side1 ?side2 A4.out).mono ?_); (case side1 => repeat (first | exact (Kd.V_reads' HO283.out).2.2 | (with_reducible refine Kd.C_alloc ?_ _) | (with_reducible refine Kd.C_drewN ?_ _) | (with_reducible refine Kd.C_drew ?_))); (case side2 => exact (Kd.V_reads' HO283.out).2.1); rintro e w' ⟨rfl, ⟨nd, rfl⟩⟩; refine ⟨_, rfl, ?_⟩; (try (rw [drewN_self w12]; generalize hq_ : World.drewN w12 _ = w12; have n0_ : Aside0 (Kd.V (Kd.int .u8) 5 w12 w.heap.size (fun k_ => (P0_ k_ ∨ w.heap.size ≤ k_) ∧ k_ ≠ gb278) (.slice A0 l0.length c0) l0) := ⟨by rw [← hq_]; exact (HW.zV HO0.out)⟩; have n1_ : Aside0 (Kd.V (Kd.int .u8) 5 w12 w.heap.size (fun k_ => (P0_ k_ ∨ w.heap.size ≤ k_) ∧ k_ ≠ gb278) (.slice A13 y279.length c13) y279) := ⟨by rw [← hq_]; exact (HW.zV HO283.out)⟩; have n2_ : Aside0 (w12.heap[gb278]? = some (.cells #[.int .u8 0, .slice none 0 0] 67 (0, 0))) := ⟨by rw [← hq_]; exact (HW.zB BK278.out)⟩; have n3_ : Aside0 (Below w.heap.size w w12) := ⟨by rw [← hq_]; exact HW.zb⟩; clear HO0 HO283 BK278 HB hq_; have HO0 := n0_; have HO283 := n1_; have BK278 := n2_; have HB := n3_; clear n0_ n1_ n2_ n3_))))
    replace HO0 := Aside0.mk (Kd.V_drew HO0.out); replace HO283 := Aside0.mk (Kd.V_drew HO283.out); replace BK278 := Aside0.mk (blk_drew BK278.out); replace HB := Aside0.mk (below_drew1 HB.out)
    have q15 : ((ji6) : Int) ≤ ((l0.length : Int) : Int) := HW.od
    obtain ⟨i015, hi015, _, hsz15, _⟩ := info_parts info5; have hroom15 : l0.length ≤ c0 := (Kd.V_reads' HO0.out).2.1; have hC15 : Kd.F (Kd.int .u8) _ _ A0 l0.length l0 := (Kd.V_at (base := w.heap.size) HO0.out).2.2
    have q015 : (0 : Int) ≤ ((ji6) : Int) := HW.od
    have hcut15 := cut_from (P := Tryz.prog) 57 5 .i64 Tryz.underlying57 hi015 1 hsz15 A0 l0.length c0 (ji6) q015 q15
    have hr15 := Kd.F_cut (m := ((ji6) : Int).toNat) (c := c0) hC15 (by omega) hroom15
    obtain ⟨A15, hA15⟩ : ∃ A1, A1 = (if c0 = ((ji6) : Int).toNat then A0 else (A0 : Option Addr).map (·.add (((ji6) : Int).toNat * 1))) := ⟨_, rfl⟩; obtain ⟨c15, hc15⟩ : ∃ c1, c1 = c0 - ((ji6) : Int).toNat := ⟨_, rfl⟩
    have hy15 : y285.length = l0.length - ((ji6) : Int).toNat := (by rw [Ny285.out, List.length_drop] <;> omega)
    rw [show (l0).drop ((ji6) : Int).toNat = y285 from Ny285.out.symm] at hr15
    replace hr15 : Kd.F (Kd.int .u8) _ _ A15 y285.length y285 := (by rw [hA15]; exact hr15)
    rw [← hy15, ← hA15, ← hc15] at hcut15
    have HO289 := Aside0.mk (show Kd.V (Kd.int .u8) 5 _ w.heap.size _ (.slice A15 y285.length c15) y285 from Kd.V_mk (by rw [hy15, hc15]; exact Nat.sub_le_sub_right hroom15 _) hr15)
    have HC289 := Aside0.mk (show y285.length ≤ c15 from by rw [hy15, hc15]; exact Nat.sub_le_sub_right hroom15 _)
    clear hr15 hC15 hroom15 hi015 hsz15 hc15; have KY15 := Aside0.mk hy15; have KA15 := Aside0.mk hA15; clear hy15 hA15; replace q15 := eq_true q15
    have p290 : 0 ≤ (0 : Int) := (by omega)
    have q290 : 0 < (l0.length : Int) := HW.od
    obtain ⟨ad290, e290, hx290_0⟩ := Kd.at_int (Kd.V_reads' HO0.out).2.2 0 p290 q290
    cases e290
    have qi290 : (0 < l0.length) = True := eq_true (by omega)
    (try rw [show ((0 : Int)).toNat = 0 from rfl] at hx290_0)
    (try rw [Addr.add_zero'] at hx290_0)
    replace p290 := eq_true p290; replace q290 := eq_true q290
    refine start_ (n := 16) (S := fun w' => w'.cell? ad290 = some (.int .u8 (rd l0 0))) (ds := []) #[ff,ff,ff,ff,ff,ff,ff,ff,ff,ff,ff,ff,ff,ff,ff,ff] (by kernel_rfl) rfl rfl (hx290_0) (fun hHeld => ?_); refine with_tabW bsoncore_Element_ValueErr.tab6 bsoncore_Element_ValueErr.bits6 (fun HT_ HW_ => ?_)
    generalize w12.drew = w14 at HO0 HO283 BK278 HB HO289 hx290_0 hHeld ⊢
    refine HW.pz (i := 0) (N := some 21) #[tt,ff,ff,ff,ff,ff,ff,ff,ff,ff,ff,ff,ff,ff,ff,ff] ?_ (hc := any_of HT_.out (by kernel_rfl))
    refine HW.pz (i := 1) (N := some 22) #[tt,tt,ff,ff,ff,ff,ff,ff,ff,ff,ff,ff,ff,ff,ff,ff] ?_ (hc := any_of HT_.out (by kernel_rfl))
    refine HW.pz (i := 2) (N := some 23) #[tt,tt,tt,ff,ff,ff,ff,ff,ff,ff,ff,ff,ff,ff,ff,ff] ?_ (hc := any_of HT_.out (by kernel_rfl))
    refine HW.pz (i := 3) (N := some 24) #[tt,tt,tt,tt,ff,ff,ff,ff,ff,ff,ff,ff,ff,ff,ff,ff] ?_ (hc := any_of HT_.out (by kernel_rfl))
    refine HW.pz (i := 4) (N := some 25) #[tt,tt,tt,tt,tt,ff,ff,ff,ff,ff,ff,ff,ff,ff,ff,ff] ?_ (hc := any_of HT_.out (by kernel_rfl))
    refine HW.pz (i := 5) (N := some 26) #[tt,tt,tt,tt,tt,tt,ff,ff,ff,ff,ff,ff,ff,ff,ff,ff] ?_ (hc := any_of HT_.out (by kernel_rfl))
    refine take_ (i := 6) (N := some 27) (v := ?_) (a' := ?_) #[tt,tt,tt,tt,tt,tt,tt,ff,ff,ff,ff,ff,ff,ff,ff,ff] rfl rfl (take_ofW HT_.out HW_.out (by kernel_rfl)) (fun _ _ _ h => h) (Or.inl ⟨by rfl, ?_⟩) hHeld ?_ ?_
    rotate_left
    · intro w' s0
      go_simp
      with_reducible rfl
    rotate_left
    · exact HW.pt
    refine join_ (σ := Value × Value × Nat) 3 #[tt,tt,tt,tt,tt,tt,tt,tt,tt,tt,tt,tt,tt,ff,ff,ff] (fun s_ => [(28, .tuple #[.agg #[.int .u8 t291, s_.1], s_.2.1, .bool true]), (5, .pointer (some ⟨s_.2.2, 0, none⟩)), (20, .tuple #[.agg #[.int .u8 t291, s_.1], s_.2.1, .bool true]), (29, .agg #[.int .u8 t291, s_.1]), (30, s_.2.1), (31, .bool true)]) (fun s_ w' => (w'.cell? ad290 = some (.int .u8 (rd l0 0))) ∧ (Kd.V (Kd.int .u8) 5 w' w.heap.size (fun k_ => (P0_ k_ ∨ w.heap.size ≤ k_) ∧ k_ ≠ gb278 ∧ k_ ≠ s_.2.2) (.slice (some ad290) l0.length c0) l0) ∧ (Kd.V (Kd.int .u8) 5 w' w.heap.size (fun k_ => (P0_ k_ ∨ w.heap.size ≤ k_) ∧ k_ ≠ gb278 ∧ k_ ≠ s_.2.2) (.slice A13 y279.length c13) y279) ∧ (Kd.V (Kd.int .u8) 5 w' w.heap.size (fun k_ => (P0_ k_ ∨ w.heap.size ≤ k_) ∧ k_ ≠ gb278 ∧ k_ ≠ s_.2.2) (.slice A15 y285.length c15) y285) ∧ (Kd.V (Kd.int .u8) 5 w' w.heap.size (fun k_ => (P0_ k_ ∨ w.heap.size ≤ k_) ∧ k_ ≠ gb278 ∧ k_ ≠ s_.2.2) s_.1 t292) ∧ (Kd.V (Kd.int .u8) 5 w' w.heap.size (fun k_ => (P0_ k_ ∨ w.heap.size ≤ k_) ∧ k_ ≠ gb278 ∧ k_ ≠ s_.2.2) s_.2.1 t295) ∧ (w'.heap[gb278]? = some (.cells #[.int .u8 0, .slice none 0 0] 67 (0, 0))) ∧ (w'.heap[s_.2.2]? = some (.cells #[.int .u8 0, .slice none 0 0] 67 (0, 0))) ∧ (w.heap.size ≤ s_.2.2) ∧ (w.heap.size ≤ s_.2.2) ∧ (gb278 ≠ s_.2.2) ∧ (s_.2.2 ≠ gb278) ∧ (Below w.heap.size w w')) ?_ ?_
    rotate_left
    · intro hCont
      refine two_ (i := 7) (j := 12) (Ni := some 28) (Nj := some 5) #[tt,tt,tt,tt,tt,tt,tt,tt,ff,ff,ff,ff,ff,ff,ff,ff] #[tt,tt,tt,tt,tt,tt,tt,ff,ff,ff,ff,ff,tt,ff,ff,ff] rfl rfl rfl rfl (two_of HT_.out (by kernel_rfl)) (by decide) (by decide) (fun K hK => ?_) (fun K hK => ?_)
      · skip
        refine goes_ Tryz.func67 (by kernel_rfl) rfl #[.slice A15 y285.length c15, .int .u8 (rd l0 0)] (by rfl) rfl rfl HW.mt ?_
        with_reducible refine (bsoncore_ReadValue.calls k (fun k_ => ((P0_ k_ ∨ w.heap.size ≤ k_) ∧ k_ ≠ gb278)) _ _ y285 (rd l0 0) t291 t292 t295 true _ ?side1 A10.out).mono ?_
        (case side1 => exact HO289.out)
        rintro e w16 ⟨v293, v296, rfl, ho0, ho1, hb⟩
        have HS0_ := (hb.cell (World.block_lt_of_cell? _ _ (hHeld))).trans (hHeld)
        refine ⟨_, rfl, ?_⟩
        replace HO0 := Aside0.mk (Kd.V_below (HW.zV HO0.out) hb); replace HO283 := Aside0.mk (Kd.V_below (HW.zV HO283.out) hb); replace HO289 := Aside0.mk (Kd.V_below (HW.zV HO289.out) hb); have HO294 := Aside0.mk (Kd.V_lower (Kd.V_mono (ok' := fun k_ => (P0_ k_ ∨ w.heap.size ≤ k_) ∧ k_ ≠ gb278) ho0 (fun k_ hk_ => ⟨Or.elim hk_ (fun hs_ => hs_.1) (fun hn_ => (.inr (Nat.le_trans (below_size HW.zb) hn_))), Or.elim hk_ (fun hs_ => hs_.2) (fun hn_ => (Kd.freshB (g := gb278) (o := .cells #[.int .u8 0, .slice none 0 0] 67 (0, 0)) (HW.zB BK278.out) k_ hn_))⟩)) (below_size HW.zb)); have HO297 := Aside0.mk (Kd.V_lower (Kd.V_mono (ok' := fun k_ => (P0_ k_ ∨ w.heap.size ≤ k_) ∧ k_ ≠ gb278) ho1 (fun k_ hk_ => ⟨Or.elim hk_ (fun hs_ => hs_.1) (fun hn_ => (.inr (Nat.le_trans (below_size HW.zb) hn_))), Or.elim hk_ (fun hs_ => hs_.2) (fun hn_ => (Kd.freshB (g := gb278) (o := .cells #[.int .u8 0, .slice none 0 0] 67 (0, 0)) (HW.zB BK278.out) k_ hn_))⟩)) (below_size HW.zb)); replace BK278 := Aside0.mk (blk_below (HW.zB BK278.out) hb); replace HB := Aside0.mk (below_step HW.zb hb)
        (try clear hb)
        (try clear hk)
        (try clear ho0)
        (try clear ho1)
        refine hK.out _ _ (HS0_) (fun hHeld => ?_)
        clear hK K
        refine HW.nz (N := (some 28)) ?_
        refine HW.pz (i := 8) (N := some 20) #[tt,tt,tt,tt,tt,tt,tt,tt,tt,ff,ff,ff,ff,ff,ff,ff] ?_ (hc := any_of HT_.out (by kernel_rfl))
        refine HW.pz (i := 9) (N := some 29) #[tt,tt,tt,tt,tt,tt,tt,tt,tt,tt,ff,ff,ff,ff,ff,ff] ?_ (hc := any_of HT_.out (by kernel_rfl))
        refine HW.pz (i := 10) (N := some 30) #[tt,tt,tt,tt,tt,tt,tt,tt,tt,tt,tt,ff,ff,ff,ff,ff] ?_ (hc := any_of HT_.out (by kernel_rfl))
        refine HW.pz (i := 11) (N := some 31) #[tt,tt,tt,tt,tt,tt,tt,tt,tt,tt,tt,tt,ff,ff,ff,ff] ?_ (hc := any_of HT_.out (by kernel_rfl))
        refine one_ (i := 12) (N := some 5) #[tt,tt,tt,tt,tt,tt,tt,tt,tt,tt,tt,tt,tt,ff,ff,ff] rfl rfl (one_of HT_.out (by kernel_rfl)) (by decide) (fun K hK => ?_)
        refine box_step ?hg (N := 5) ?hd (cs := #[.int .u8 0, .slice none 0 0]) (t := 67) ?hr ?_; (case hd => rfl); (case hg => rfl); (case hr => first | (go_simp; done) | (go_simp; rfl))
        intro gb299 hg w17 hbox hb
        have HS0_ := (hb.cell (World.block_lt_of_cell? _ _ (hHeld))).trans (hHeld); have n0_ := Aside0.mk (Kd.V_below (Kd.V_elderB (HW.zV HO0.out) gb299 (Nat.le_of_eq hg.symm)) hb); have n1_ := Aside0.mk (Kd.V_below (Kd.V_elderB (HW.zV HO283.out) gb299 (Nat.le_of_eq hg.symm)) hb); have n2_ := Aside0.mk (Kd.V_below (Kd.V_elderB (HW.zV HO289.out) gb299 (Nat.le_of_eq hg.symm)) hb); have n3_ := Aside0.mk (Kd.V_below (Kd.V_elderB (HW.zV HO294.out) gb299 (Nat.le_of_eq hg.symm)) hb); have n4_ := Aside0.mk (Kd.V_below (Kd.V_elderB (HW.zV HO297.out) gb299 (Nat.le_of_eq hg.symm)) hb); have n5_ := Aside0.mk (blk_below (HW.zB BK278.out) hb); have n6_ := Aside0.mk (below_step HW.zb hb); have n7_ := Aside0.mk (hbox)
        have n8_ := Aside0.mk ((by rw [hg]; exact (below_size HW.zb) : w.heap.size ≤ gb299))
        have n9_ := Aside0.mk ((by rw [hg]; exact (below_size HW.zb) : w.heap.size ≤ gb299))
        have n10_ := Aside0.mk ((by rw [hg]; exact Nat.ne_of_lt (blk_lt (g := gb278) (o := .cells #[.int .u8 0, .slice none 0 0] 67 (0, 0)) (HW.zB BK278.out)) : gb278 ≠ gb299))
        have n11_ := Aside0.mk ((by rw [hg]; exact Nat.ne_of_gt (blk_lt (g := gb278) (o := .cells #[.int .u8 0, .slice none 0 0] 67 (0, 0)) (HW.zB BK278.out)) : gb299 ≠ gb278))
        clear HO0; clear HO283; clear HO289; clear HO294; clear HO297; clear BK278; clear HB; have HO0 := n0_; have HO283 := n1_; have HO289 := n2_; have HO294 := n3_; have HO297 := n4_; have BK278 := n5_; have HB := n6_; have BK299 := n7_; have GW299 := n8_; have GE299 := n9_; have NB278_299 := n10_; have NB299_278 := n11_; clear n0_ n1_ n2_ n3_ n4_ n5_ n6_ n7_ n8_ n9_ n10_ n11_; clear hb hbox hg
        refine hK.out _ _ (HS0_) (fun hHeld => ?_)
        clear hK K
        refine HW.nz (N := (some 5)) ?_
        exact norm_ (by simp only [putAll, Act.put, List.setIfInBounds_toArray, List.set_cons_zero, List.set_cons_succ, errW_none]) (hCont (v293, v296, gb299) _ ⟨hHeld, (HW.zV (Kd.V_mono HO0.out (fun _ hk => ⟨hk.1.1, ⟨hk.1.2, hk.2⟩⟩))), (HW.zV (Kd.V_mono HO283.out (fun _ hk => ⟨hk.1.1, ⟨hk.1.2, hk.2⟩⟩))), (HW.zV (Kd.V_mono HO289.out (fun _ hk => ⟨hk.1.1, ⟨hk.1.2, hk.2⟩⟩))), (HW.zV (Kd.V_mono HO294.out (fun _ hk => ⟨hk.1.1, ⟨hk.1.2, hk.2⟩⟩))), (HW.zV (Kd.V_mono HO297.out (fun _ hk => ⟨hk.1.1, ⟨hk.1.2, hk.2⟩⟩))), (HW.zB BK278.out), (HW.zB BK299.out), GW299.out, GE299.out, NB278_299.out, NB299_278.out, HW.zb⟩)
      skip
      refine box_step ?hg (N := 5) ?hd (cs := #[.int .u8 0, .slice none 0 0]) (t := 67) ?hr ?_; (case hd => rfl); (case hg => rfl); (case hr => first | (go_simp; done) | (go_simp; rfl))
      intro gb299 hg w16 hbox hb
      have HS0_ := (hb.cell (World.block_lt_of_cell? _ _ (hHeld))).trans (hHeld); have n0_ := Aside0.mk (Kd.V_below (Kd.V_elderB (HW.zV HO0.out) gb299 (Nat.le_of_eq hg.symm)) hb); have n1_ := Aside0.mk (Kd.V_below (Kd.V_elderB (HW.zV HO283.out) gb299 (Nat.le_of_eq hg.symm)) hb); have n2_ := Aside0.mk (Kd.V_below (Kd.V_elderB (HW.zV HO289.out) gb299 (Nat.le_of_eq hg.symm)) hb); have n3_ := Aside0.mk (blk_below (HW.zB BK278.out) hb); have n4_ := Aside0.mk (below_step HW.zb hb); have n5_ := Aside0.mk (hbox)
      have n6_ := Aside0.mk ((by rw [hg]; exact (below_size HW.zb) : w.heap.size ≤ gb299))
      have n7_ := Aside0.mk ((by rw [hg]; exact (below_size HW.zb) : w.heap.size ≤ gb299))
      have n8_ := Aside0.mk ((by rw [hg]; exact Nat.ne_of_lt (blk_lt (g := gb278) (o := .cells #[.int .u8 0, .slice none 0 0] 67 (0, 0)) (HW.zB BK278.out)) : gb278 ≠ gb299))
      have n9_ := Aside0.mk ((by rw [hg]; exact Nat.ne_of_gt (blk_lt (g := gb278) (o := .cells #[.int .u8 0, .slice none 0 0] 67 (0, 0)) (HW.zB BK278.out)) : gb299 ≠ gb278))
      clear HO0; clear HO283; clear HO289; clear BK278; clear HB; have HO0 := n0_; have HO283 := n1_; have HO289 := n2_; have BK278 := n3_; have HB := n4_; have BK299 := n5_; have GW299 := n6_; have GE299 := n7_; have NB278_299 := n8_; have NB299_278 := n9_; clear n0_ n1_ n2_ n3_ n4_ n5_ n6_ n7_ n8_ n9_; clear hb hbox hg
      refine hK.out _ _ (HS0_) (fun hHeld => ?_)
      clear hK K
      refine HW.nz (N := (some 5)) ?_
      refine one_ (i := 7) (N := some 28) #[tt,tt,tt,tt,tt,tt,tt,tt,ff,ff,ff,ff,tt,ff,ff,ff] rfl rfl (one_of HT_.out (by kernel_rfl)) (by decide) (fun K hK => ?_)
      refine goes_ Tryz.func67 (by kernel_rfl) rfl #[.slice A15 y285.length c15, .int .u8 (rd l0 0)] (by rfl) rfl rfl HW.mt ?_
      with_reducible refine (bsoncore_ReadValue.calls k (fun k_ => (((P0_ k_ ∨ w.heap.size ≤ k_) ∧ k_ ≠ gb278) ∧ k_ ≠ gb299)) _ _ y285 (rd l0 0) t291 t292 t295 true _ ?side1 A10.out).mono ?_
      (case side1 => exact HO289.out)
      rintro e w17 ⟨v293, v296, rfl, ho0, ho1, hb⟩
      have HS0_ := (hb.cell (World.block_lt_of_cell? _ _ (hHeld))).trans (hHeld)
      refine ⟨_, rfl, ?_⟩
      have n0_ := Aside0.mk (Kd.V_below (HW.zV HO0.out) hb); have n1_ := Aside0.mk (Kd.V_below (HW.zV HO283.out) hb); have n2_ := Aside0.mk (Kd.V_below (HW.zV HO289.out) hb); have n3_ := Aside0.mk (Kd.V_lower (Kd.V_mono (ok' := fun k_ => (P0_ k_ ∨ w.heap.size ≤ k_) ∧ k_ ≠ gb278 ∧ k_ ≠ gb299) ho0 (fun k_ hk_ => ⟨Or.elim hk_ (fun hs_ => hs_.1.1) (fun hn_ => (.inr (Nat.le_trans (below_size HW.zb) hn_))), Or.elim hk_ (fun hs_ => hs_.1.2) (fun hn_ => (Kd.freshB (g := gb278) (o := .cells #[.int .u8 0, .slice none 0 0] 67 (0, 0)) (HW.zB BK278.out) k_ hn_)), Or.elim hk_ (fun hs_ => hs_.2) (fun hn_ => (Kd.freshB (g := gb299) (o := .cells #[.int .u8 0, .slice none 0 0] 67 (0, 0)) (HW.zB BK299.out) k_ hn_))⟩)) (below_size HW.zb)); have n4_ := Aside0.mk (Kd.V_lower (Kd.V_mono (ok' := fun k_ => (P0_ k_ ∨ w.heap.size ≤ k_) ∧ k_ ≠ gb278 ∧ k_ ≠ gb299) ho1 (fun k_ hk_ => ⟨Or.elim hk_ (fun hs_ => hs_.1.1) (fun hn_ => (.inr (Nat.le_trans (below_size HW.zb) hn_))), Or.elim hk_ (fun hs_ => hs_.1.2) (fun hn_ => (Kd.freshB (g := gb278) (o := .cells #[.int .u8 0, .slice none 0 0] 67 (0, 0)) (HW.zB BK278.out) k_ hn_)), Or.elim hk_ (fun hs_ => hs_.2) (fun hn_ => (Kd.freshB (g := gb299) (o := .cells #[.int .u8 0, .slice none 0 0] 67 (0, 0)) (HW.zB BK299.out) k_ hn_))⟩)) (below_size HW.zb)); have n5_ := Aside0.mk (blk_below (HW.zB BK278.out) hb)
      have n6_ := Aside0.mk (blk_below (HW.zB BK299.out) hb); have n7_ := Aside0.mk (below_step HW.zb hb); clear HO0; clear HO283; clear HO289; clear BK278; clear BK299; clear HB; have HO0 := n0_; have HO283 := n1_; have HO289 := n2_; have HO294 := n3_; have HO297 := n4_; have BK278 := n5_; have BK299 := n6_; have HB := n7_; clear n0_ n1_ n2_ n3_ n4_ n5_ n6_ n7_
      (try clear hb)
      (try clear hk)
      (try clear ho0)
      (try clear ho1)
      refine hK.out _ _ (HS0_) (fun hHeld => ?_)
      clear hK K
      refine HW.nz (N := (some 28)) ?_
      refine HW.pz (i := 8) (N := some 20) #[tt,tt,tt,tt,tt,tt,tt,tt,tt,ff,ff,ff,tt,ff,ff,ff] ?_ (hc := any_of HT_.out (by kernel_rfl))
      refine HW.pz (i := 9) (N := some 29) #[tt,tt,tt,tt,tt,tt,tt,tt,tt,tt,ff,ff,tt,ff,ff,ff] ?_ (hc := any_of HT_.out (by kernel_rfl))
      refine HW.pz (i := 10) (N := some 30) #[tt,tt,tt,tt,tt,tt,tt,tt,tt,tt,tt,ff,tt,ff,ff,ff] ?_ (hc := any_of HT_.out (by kernel_rfl))
      refine HW.pz (i := 11) (N := some 31) #[tt,tt,tt,tt,tt,tt,tt,tt,tt,tt,tt,tt,tt,ff,ff,ff] ?_ (hc := any_of HT_.out (by kernel_rfl))
      exact norm_ (by simp only [putAll, Act.put, List.setIfInBounds_toArray, List.set_cons_zero, List.set_cons_succ, errW_none]) (hCont (v293, v296, gb299) _ ⟨hHeld, (HW.zV (Kd.V_mono HO0.out (fun _ hk => ⟨hk.1.1, ⟨hk.1.2, hk.2⟩⟩))), (HW.zV (Kd.V_mono HO283.out (fun _ hk => ⟨hk.1.1, ⟨hk.1.2, hk.2⟩⟩))), (HW.zV (Kd.V_mono HO289.out (fun _ hk => ⟨hk.1.1, ⟨hk.1.2, hk.2⟩⟩))), (HW.zV HO294.out), (HW.zV HO297.out), (HW.zB BK278.out), (HW.zB BK299.out), GW299.out, GE299.out, NB278_299.out, NB299_278.out, HW.zb⟩)
    rintro ⟨v293, v296, gb299⟩ w18 ⟨hS_, h0_, h1_, h2_, h3_, h4_, h5_, h6_, h7_, h8_, h9_, h10_, h11_⟩
    have n0_ : Aside0 (Kd.V (Kd.int .u8) 5 w18 w.heap.size (fun k_ => (P0_ k_ ∨ w.heap.size ≤ k_) ∧ k_ ≠ gb278 ∧ k_ ≠ gb299) (.slice (some ad290) l0.length c0) l0) := ⟨h0_⟩; have n1_ : Aside0 (Kd.V (Kd.int .u8) 5 w18 w.heap.size (fun k_ => (P0_ k_ ∨ w.heap.size ≤ k_) ∧ k_ ≠ gb278 ∧ k_ ≠ gb299) (.slice A13 y279.length c13) y279) := ⟨h1_⟩; have n2_ : Aside0 (Kd.V (Kd.int .u8) 5 w18 w.heap.size (fun k_ => (P0_ k_ ∨ w.heap.size ≤ k_) ∧ k_ ≠ gb278 ∧ k_ ≠ gb299) (.slice A15 y285.length c15) y285) := ⟨h2_⟩; have n3_ : Aside0 (Kd.V (Kd.int .u8) 5 w18 w.heap.size (fun k_ => (P0_ k_ ∨ w.heap.size ≤ k_) ∧ k_ ≠ gb278 ∧ k_ ≠ gb299) v293 t292) := ⟨h3_⟩; have n4_ : Aside0 (Kd.V (Kd.int .u8) 5 w18 w.heap.size (fun k_ => (P0_ k_ ∨ w.heap.size ≤ k_) ∧ k_ ≠ gb278 ∧ k_ ≠ gb299) v296 t295) := ⟨h4_⟩; have n5_ : Aside0 (w18.heap[gb278]? = some (.cells #[.int .u8 0, .slice none 0 0] 67 (0, 0))) := ⟨h5_⟩; have n6_ : Aside0 (w18.heap[gb299]? = some (.cells #[.int .u8 0, .slice none 0 0] 67 (0, 0))) := ⟨h6_⟩; have n7_ : Aside0 (w.heap.size ≤ gb299) := ⟨h7_⟩; have n8_ : Aside0 (w.heap.size ≤ gb299) := ⟨h8_⟩; have n9_ : Aside0 (gb278 ≠ gb299) := ⟨h9_⟩; have n10_ : Aside0 (gb299 ≠ gb278) := ⟨h10_⟩; have n11_ : Aside0 (Below w.heap.size w w18) := ⟨h11_⟩; clear HO0; clear HO283; clear BK278; clear HB; clear h0_ h1_ h2_ h3_ h4_ h5_ h6_ h7_ h8_ h9_ h10_ h11_; have HO0 := n0_; have HO283 := n1_; have HO289 := n2_; have HO294 := n3_; have HO297 := n4_; have BK278 := n5_; have BK299 := n6_; have GW299 := n7_
    have GE299 := n8_; have NB278_299 := n9_; have NB299_278 := n10_; have HB := n11_; clear n0_ n1_ n2_ n3_ n4_ n5_ n6_ n7_ n8_ n9_ n10_ n11_; have hHeld : w18.cell? ad290 = some (.int .u8 (rd l0 0)) := hS_; obtain ⟨Ao20, co20, eo20⟩ := Kd.V_slice HO294.out
    (first | subst eo20 | (injection eo20 with f1_ f2_ f3_; have f4_ := f1_.symm; have f5_ := f3_.symm; clear f1_ f2_ f3_; subst f4_; subst f5_))
    refine norm_ (a' := ?_) ?_ ?_
    rotate_left
    · simp only [putAll, Act.put, List.setIfInBounds_toArray, List.set_cons_zero, List.set_cons_succ, errW_none]
      rfl
    refine one_ (i := 13) (N := none) #[tt,tt,tt,tt,tt,tt,tt,tt,tt,tt,tt,tt,tt,tt,ff,ff] rfl rfl (one_of HT_.out (by kernel_rfl)) (by decide) (fun K hK => ?_)
    have hs19 : w18.cell? ⟨gb299, 0, none⟩ = some (.int .u8 0) := (blk_cell BK299.out 0).trans rfl; have hfs19 := blk_frozen BK299.out 0; have hns19_0 := NB278_299.out; have hms19_0 := NB299_278.out; have hs21 : w18.cell? ⟨gb299, 1, none⟩ = some (.slice none 0 0) := (blk_cell BK299.out 1).trans rfl; have hfs21 := blk_frozen BK299.out 1; have hns21_0 := NB278_299.out; have hms21_0 := NB299_278.out
    refine skip_ (w1 := ?_) (by rfl) rfl ?_ ?_
    rotate_left
    · go_simp
      rfl
    refine hK.out _ _ (((cell_far (p := ⟨gb299, _, none⟩) (by first | exact Kd.own_blk (Kd.V_away HO0.out (fun _ hk => hk.2.2)) | (rw [add_block]; exact Kd.own_blk (Kd.V_away HO0.out (fun _ hk => hk.2.2))) | (show (Addr.add _ _).block ≠ _; rw [add_block]; exact Kd.own_blk (Kd.V_away HO0.out (fun _ hk => hk.2.2))) | (dsimp only; exact Kd.own_blk (Kd.V_away HO0.out (fun _ hk => hk.2.2)))) _).trans (((cell_far (p := ⟨gb299, _, none⟩) (by first | exact Kd.own_blk (Kd.V_away HO0.out (fun _ hk => hk.2.2)) | (rw [add_block]; exact Kd.own_blk (Kd.V_away HO0.out (fun _ hk => hk.2.2))) | (show (Addr.add _ _).block ≠ _; rw [add_block]; exact Kd.own_blk (Kd.V_away HO0.out (fun _ hk => hk.2.2))) | (dsimp only; exact Kd.own_blk (Kd.V_away HO0.out (fun _ hk => hk.2.2)))) _).trans (hHeld))))) (fun hHeld => ?_)
    clear hK K
    refine HW.pz (i := 14) (N := some 6) #[tt,tt,tt,tt,tt,tt,tt,tt,tt,tt,tt,tt,tt,tt,tt,ff] ?_ (hc := any_of HT_.out (by kernel_rfl))
    refine HW.pz (i := 15) (N := some 7) #[tt,tt,tt,tt,tt,tt,tt,tt,tt,tt,tt,tt,tt,tt,tt,tt] ?_ (hc := any_of HT_.out (by kernel_rfl))
    refine done_ (done_of HT_.out (by kernel_rfl)) ?_
    have hnb22 := NB299_278.out; have hnc22 := NB278_299.out; obtain ⟨hcz23_0, hcz23_1, hfz24_0, hfz24_1⟩ := HW.k2f BK299.out; obtain ⟨hcz25_0, hcz25_1, hfz26_0, hfz26_1⟩ := HW.k2f BK278.out
    try go_wp2
    refine bodyPost_ret (results_ct rfl _ _ gb278 67 #[.int .u8 t291, .slice Ao20 t292.length co20] (0, 0) _ rfl (by (with_reducible repeat (first | refine blk_drewN ?_ _ | refine blk_drew ?_ | refine blk_alloc ?_ _)); refine blk_put (cs := #[.int .u8 t291, .slice none 0 0]) ?_ 1 _ rfl; (with_reducible repeat (first | refine blk_drewN ?_ _ | refine blk_drew ?_ | refine blk_alloc ?_ _)); refine blk_put (cs := #[.int .u8 0, .slice none 0 0]) ?_ 0 _ rfl; (with_reducible repeat (first | refine blk_drewN ?_ _ | refine blk_drew ?_ | refine blk_alloc ?_ _)); refine blk_far ?_ NB278_299.out _; (with_reducible repeat (first | refine blk_drewN ?_ _ | refine blk_drew ?_ | refine blk_alloc ?_ _)); refine blk_far ?_ NB278_299.out _; exact HW.zB BK278.out) Tryz.underlying67 rfl (by kernel_rfl)) rfl ?_
    exact ⟨_, by first | rfl | (simp [errW_none, errW_some] <;> rfl) | (simp only [← hji6]; first | rfl | (simp [errW_none, errW_some] <;> rfl)) | (simp [*, errW_none, errW_some] <;> rfl), by (with_reducible repeat (first | apply Kd.V_alloc | apply Kd.V_drewN | apply Kd.V_drew)); exact Kd.V_mono (Kd.V_far (p := ⟨gb278, 1, none⟩) (Kd.V_far (p := ⟨gb278, 0, none⟩) (Kd.V_far (p := ⟨gb299, 1, none⟩) (Kd.V_far (p := ⟨gb299, 0, none⟩) (Kd.V_mono (Kd.V_mono HO294.out (fun k_ hk => (⟨hk, hk.2.2⟩ : _ ∧ k_ ≠ gb299))) (fun k_ hk => (⟨hk, hk.1.2.1⟩ : _ ∧ k_ ≠ gb278))) (fun _ hk => hk.1.2) (.int .u8 t291)) (fun _ hk => hk.1.2) (.slice Ao20 t292.length co20)) (fun _ hk => hk.2) (.int .u8 t291)) (fun _ hk => hk.2) (.slice Ao20 t292.length co20)) (fun _ hk => hk.1.1.1), HW.zb⟩
def bsoncore_Element_KeyBytesErr.f (l0 : List Int) : Option (List Int × Option Int) := if (l0.length : Int) = 0 then (none) else (if 1 ≤ (l0.length : Int) then ((bytes_IndexByte.f (l0.drop 1) 0).bind fun t318 => (if t318 = (-1) then (none) else (if 1 ≤ (wrap64 (t318 + 1)) then (if (wrap64 (t318 + 1)) ≤ (l0.length : Int) then (some (((l0.take ((wrap64 (t318 + 1)) : Int).toNat).drop 1), none)) else (none)) else (none)))) else (none))
theorem bsoncore_Element_KeyBytesErr.calls (P0_ : Nat → Prop) (A0 : Option Addr) (c0 : Nat) (l0 : List Int) (r1 : List Int) (r2 : Option Int) (w : World) (hs0 : Kd.V (Kd.int .u8) 5 w w.heap.size (fun k_ => P0_ k_) (.slice A0 l0.length c0) l0) (h : bsoncore_Element_KeyBytesErr.f l0 = some (r1, r2)) :
    Calls Tryz.prog 125 #[.slice A0 l0.length c0] w fun e w' => ∃ v0_ : Value, e = .returned (.tuple #[v0_, errW r2]) ∧ Kd.V (Kd.int .u8) 5 w' w.heap.size (fun k_ => (P0_ k_ ∨ w.heap.size ≤ k_)) v0_ r1 ∧ Below w.heap.size w w' := by
  have hu59 := Tryz.underlying59; have HO0 := Aside0.mk (show Kd.V (Kd.int .u8) 5 w w.heap.size (fun k_ => (P0_ k_ ∨ w.heap.size ≤ k_)) (.slice A0 l0.length c0) l0 from Kd.V_mono hs0 (fun k_ hk => .inl hk)); have HB := Aside0.mk (Below.refl w.heap.size w); have H : (if (l0.length : Int) = 0 then (none) else (if 1 ≤ (l0.length : Int) then ((bytes_IndexByte.f (l0.drop 1) 0).bind fun t318 => (if t318 = (-1) then (none) else (if 1 ≤ (wrap64 (t318 + 1)) then (if (wrap64 (t318 + 1)) ≤ (l0.length : Int) then (some (((l0.take ((wrap64 (t318 + 1)) : Int).toNat).drop 1), none)) else (none)) else (none)))) else (none))) = some (r1, r2) := h; clear h
  by_cases c2 : (l0.length : Int) = 0
  · rw [if_pos c2] at H
    exact absurd H (by simp)
  rw [if_neg c2] at H; have c2b0 : ((l0.length : Int) == 0) = false := beq_eq_false_iff_ne.mpr c2; have c2b1 : ((l0.length : Int) != 0) = true := bne_iff_ne.mpr c2
  have c2b2 : ¬ (l0 = []) := fun h_ => c2 (by rw [h_]; rfl)
  by_cases c3 : 1 ≤ (l0.length : Int)
  rotate_left
  · rw [if_neg c3] at H
    exact absurd H (by simp)
  rw [if_pos c3] at H; have c3b0 := eq_true c3; have c3b1 : decide (1 ≤ (l0.length : Int)) = true := decide_eq_true c3; clear c3; obtain ⟨y313, hy313⟩ : ∃ y_ : List Int, y_ = (l0.drop 1) := ⟨_, rfl⟩
  replace H : ((bytes_IndexByte.f y313 0).bind fun t318 => (if t318 = (-1) then (none) else (if 1 ≤ (wrap64 (t318 + 1)) then (if (wrap64 (t318 + 1)) ≤ (l0.length : Int) then (some (((l0.take ((wrap64 (t318 + 1)) : Int).toNat).drop 1), none)) else (none)) else (none)))) = some (r1, r2) := by (try rw [hy313]); exact HW.rp
  have Ny313 := Aside0.mk hy313; clear hy313; replace H := Option.bind_eq_some_iff.mp H; obtain ⟨t318, A40, H⟩ := H; replace H : (if t318 = (-1) then (none) else (if 1 ≤ (wrap64 (t318 + 1)) then (if (wrap64 (t318 + 1)) ≤ (l0.length : Int) then (some (((l0.take ((wrap64 (t318 + 1)) : Int).toNat).drop 1), none)) else (none)) else (none))) = some (r1, r2) := H; have A4 := Aside0.mk A40; clear A40
  by_cases c5 : t318 = (-1)
  · rw [if_pos c5] at H
    exact absurd H (by simp)
  rw [if_neg c5] at H; have c5b0 : (t318 == (-1)) = false := beq_eq_false_iff_ne.mpr c5; have c5b1 : (t318 != (-1)) = true := bne_iff_ne.mpr c5
  by_cases c6 : 1 ≤ (wrap64 (t318 + 1))
  rotate_left
  · rw [if_neg c6] at H
    exact absurd H (by simp)
  rw [if_pos c6] at H; have c6b0 := eq_true c6; have c6b1 : decide (1 ≤ (wrap64 (t318 + 1))) = true := decide_eq_true c6
  by_cases c7 : (wrap64 (t318 + 1)) ≤ (l0.length : Int)
  rotate_left
  · rw [if_neg c7] at H
    exact absurd H (by simp)
  rw [if_pos c7] at H; have c7b0 := eq_true c7; have c7b1 : decide ((wrap64 (t318 + 1)) ≤ (l0.length : Int)) = true := decide_eq_true c7; obtain ⟨y319, hy319⟩ : ∃ y_ : List Int, y_ = ((l0.take ((wrap64 (t318 + 1)) : Int).toNat).drop 1) := ⟨_, rfl⟩
  replace H : (some (y319, none)) = some (r1, r2) := by (try rw [hy319]); exact HW.rp
  have Ny319 := Aside0.mk hy319; clear hy319
  as_aux_lemma =>
    simp only [Option.some.injEq, Prod.mk.injEq] at H
    obtain ⟨rfl, rfl⟩ := H
    have q8 : (1 : Int) ≤ ((l0.length : Int) : Int) := HW.od
    obtain ⟨i08, hi08, _, hsz8, _⟩ := info_parts info5; have hroom8 : l0.length ≤ c0 := (Kd.V_reads' HO0.out).2.1; have hC8 : Kd.F (Kd.int .u8) _ _ A0 l0.length l0 := (Kd.V_at (base := w.heap.size) HO0.out).2.2
    have hcut8 := cut_from (P := Tryz.prog) 57 5 .i64 Tryz.underlying57 hi08 1 hsz8 A0 l0.length c0 1 (by omega) q8
    have hr8 := Kd.F_cut (m := (1 : Int).toNat) (c := c0) hC8 (by omega) hroom8
    obtain ⟨A8, hA8⟩ : ∃ A1, A1 = (if c0 = (1 : Int).toNat then A0 else (A0 : Option Addr).map (·.add ((1 : Int).toNat * 1))) := ⟨_, rfl⟩; obtain ⟨c8, hc8⟩ : ∃ c1, c1 = c0 - (1 : Int).toNat := ⟨_, rfl⟩
    have hy8 : y313.length = l0.length - (1 : Int).toNat := (by rw [Ny313.out, List.length_drop] <;> omega)
    rw [show (l0).drop (1 : Int).toNat = y313 from Ny313.out.symm] at hr8
    replace hr8 : Kd.F (Kd.int .u8) _ _ A8 y313.length y313 := (by rw [hA8]; exact hr8)
    rw [← hy8, ← hA8, ← hc8] at hcut8
    have HO317 := Aside0.mk (show Kd.V (Kd.int .u8) 5 _ w.heap.size _ (.slice A8 y313.length c8) y313 from Kd.V_mk (by rw [hy8, hc8]; exact Nat.sub_le_sub_right hroom8 _) hr8)
    have HC317 := Aside0.mk (show y313.length ≤ c8 from by rw [hy8, hc8]; exact Nat.sub_le_sub_right hroom8 _)
    clear hr8 hC8 hroom8 hi08 hsz8 hc8; have KY8 := Aside0.mk hy8; have KA8 := Aside0.mk hA8; clear hy8 hA8; replace q8 := eq_true q8
    go_enter Tryz.func125, Tryz.ntmps125
    go_wp2_with (first | ((with_reducible refine gate_callee (f := 127) rfl ?_); refine HW.gz (some 11) rfl rfl Tryz.func127 (by kernel_rfl) rfl #[.slice A8 y313.length c8, .int .u8 0] rfl ?_; (with_reducible refine (bytes_IndexByte.calls _ _ y313 0 t318 _ ?side1 ?side2 A4.out).mono ?_); (case side1 => repeat (first | exact (Kd.V_reads' HO317.out).2.2 | (with_reducible refine Kd.C_alloc ?_ _) | (with_reducible refine Kd.C_drewN ?_ _) | (with_reducible refine Kd.C_drew ?_))); (case side2 => exact (Kd.V_reads' HO317.out).2.1); rintro e w' ⟨rfl, ⟨nd, rfl⟩⟩; refine ⟨_, rfl, ?_⟩; have q9 : ((wrap64 (t318 + 1)) : Int) ≤ ((l0.length : Int) : Int) := HW.od; obtain ⟨i09, hi09, _, hsz9, _⟩ := info_parts info5; have hroom9 : l0.length ≤ c0 := (Kd.V_reads' HO0.out).2.1; have hC9 : Kd.F (Kd.int .u8) _ _ A0 l0.length l0 := (Kd.V_at (base := w.heap.size) HO0.out).2.2; have ql9 : (1 : Int) ≤ ((wrap64 (t318 + 1)) : Int) := HW.od; have hcut9 := cut_mid (P := Tryz.prog) 57 5 .i64 .i64 Tryz.underlying57 hi09 1 hsz9 A0 l0.length c0 1 (wrap64 (t318 + 1)) (by omega) ql9 q9 hroom9; have hr9 := Kd.F_mid (lo := (1 : Int).toNat) (hi := ((wrap64 (t318 + 1)) : Int).toNat) (c := c0) hC9 (by omega) (by omega) hroom9; obtain ⟨A9, hA9⟩ : ∃ A1, A1 = (if c0 = (1 : Int).toNat then A0 else (A0 : Option Addr).map (·.add ((1 : Int).toNat * 1))) := ⟨_, rfl⟩; obtain ⟨c9, hc9⟩ : ∃ c1, c1 = c0 - (1 : Int).toNat := ⟨_, rfl⟩; have hy9 : y319.length = ((wrap64 (t318 + 1)) : Int).toNat - (1 : Int).toNat := (by rw [Ny319.out, List.length_drop, List.length_take] <;> omega); rw [show ((l0).take ((wrap64 (t318 + 1)) : Int).toNat).drop (1 : Int).toNat = y319 from Ny319.out.symm] at hr9; replace hr9 : Kd.F (Kd.int .u8) _ _ A9 y319.length y319 := (by rw [hA9]; exact hr9); rw [← hy9, ← hA9, ← hc9] at hcut9; have HO323 := Aside0.mk (show Kd.V (Kd.int .u8) 5 _ w.heap.size _ (.slice A9 y319.length c9) y319 from Kd.V_mk (by rw [hy9, hc9]; exact Nat.sub_le_sub_right (Nat.le_trans (by omega) hroom9) _) hr9); have HC323 := Aside0.mk (show y319.length ≤ c9 from by rw [hy9, hc9]; exact Nat.sub_le_sub_right (Nat.le_trans (by omega) hroom9) _); clear hr9 hC9 hroom9 hi09 hsz9 hc9; have KY9 := Aside0.mk hy9; have KA9 := Aside0.mk hA9; clear hy9 hA9; replace q9 := eq_true q9))
    go_ret2
    exact ⟨_, rfl, HW.zV HO323.out, HW.zb⟩
def bsoncore_Element_KeyBytes.f (l0 : List Int) : Option (List Int) := (bsoncore_Element_KeyBytesErr.f l0).bind fun bt324 => (some bt324.1)
theorem bsoncore_Element_KeyBytes.calls (P0_ : Nat → Prop) (A0 : Option Addr) (c0 : Nat) (l0 : List Int) (r : List Int) (w : World) (hs0 : Kd.V (Kd.int .u8) 5 w w.heap.size (fun k_ => P0_ k_) (.slice A0 l0.length c0) l0) (h : bsoncore_Element_KeyBytes.f l0 = some r) :
    Calls Tryz.prog 77 #[.slice A0 l0.length c0] w fun e w' => ∃ v0_ : Value, e = .returned (v0_) ∧ Kd.V (Kd.int .u8) 5 w' w.heap.size (fun k_ => (P0_ k_ ∨ w.heap.size ≤ k_)) v0_ r ∧ Below w.heap.size w w' := by
  have HO0 := Aside0.mk (show Kd.V (Kd.int .u8) 5 w w.heap.size (fun k_ => (P0_ k_ ∨ w.heap.size ≤ k_)) (.slice A0 l0.length c0) l0 from Kd.V_mono hs0 (fun k_ hk => .inl hk)); have HB := Aside0.mk (Below.refl w.heap.size w); have H : ((bsoncore_Element_KeyBytesErr.f l0).bind fun bt324 => (some bt324.1)) = some r := h; clear h; replace H := Option.bind_eq_some_iff.mp H; obtain ⟨⟨t324, t327⟩, A20, H⟩ := H; replace H : (some t324) = some r := H; have A2 := Aside0.mk A20; clear A20
  as_aux_lemma =>
    obtain rfl := Option.some.inj H
    go_enter Tryz.func77, Tryz.ntmps77
    go_wp2_with (first | ((with_reducible refine gate_callee (f := 125) rfl ?_); refine HW.gz (some 7) rfl rfl Tryz.func125 (by kernel_rfl) rfl #[.slice A0 l0.length c0] rfl ?_; (with_reducible refine (bsoncore_Element_KeyBytesErr.calls (fun k_ => (P0_ k_ ∨ w.heap.size ≤ k_)) _ _ l0 t324 t327 _ ?side1 A2.out).mono ?_); (case side1 => exact HO0.out); rintro e w3 ⟨v325, rfl, ho0, hb⟩; refine ⟨_, rfl, ?_⟩; have HO326 := Aside0.mk (Kd.V_lower (Kd.V_mono (ok' := fun k_ => (P0_ k_ ∨ w.heap.size ≤ k_)) ho0 (fun k_ hk_ => Or.elim hk_ (fun hs_ => hs_) (fun hn_ => (.inr (Nat.le_trans (below_size HW.zb) hn_))))) (below_size HW.zb)); replace HB := Aside0.mk (below_step HW.zb hb); (try clear hb); (try clear ho0); (try simp only [errW_none, errW_some])))
    go_ret
    exact ⟨_, rfl, HW.zV HO326.out, HW.zb⟩
end Go.Proofs.YtbfhpjkahobgnaaGreatDoor.PIx
