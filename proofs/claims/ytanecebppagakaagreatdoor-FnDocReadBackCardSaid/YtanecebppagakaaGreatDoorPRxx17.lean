import Derived.Test.YtanecebppagakaaGreatDoorPRxx0
import Derived.Test.YtanecebppagakaaGreatDoorPRxx6
import Derived.Test.YtanecebppagakaaGreatDoorPRxx10
import Derived.Test.YtanecebppagakaaGreatDoorPRxx13
import Derived.Test.YtanecebppagakaaGreatDoorPRxx14
import Derived.Test.YtanecebppagakaaGreatDoorPRxx16
namespace Go.Proofs.YtanecebppagakaaGreatDoor.PRx
open Go.Proofs.YtanecebppagakaaGreatDoor.HW (tt ff)
open Go.RowKit Go.Proofs.YtanecebppagakaaGreatDoorW.PrintWords Go.Proofs.YtanecebppagakaaGreatDoorW.PrintLast Go.Proofs.YtanecebppagakaaGreatDoorW.PrintMore
attribute [local go_sem] max2_int min2_int max_two min_two max_three min_three max_four min_four
set_option linter.unusedVariables false
set_option maxHeartbeats 8000000
set_option maxRecDepth 100000
set_option linter.unusedSimpArgs false
mutual
def laws_FnDocReadBack.j0 : Nat → List Int → Bool → Int → ByteArray → ByteArray → Int → Int → Int → List Int → List (S95) → Option (Bool)
  | 0, _, _, _, _, _, _, _, _, _, _ => none
  | k + 1, x1, x15, x878000, x878001, x878002, x878003, x878004, x878005, x878006, x878007 => if x15 = true then (some true) else (if (x1.length : Int) > 1000 then (laws_FnDocReadBack.j1 k x1 true x878000 x878001 x878002 x878003 x878004 x878005 x878006 x878007) else ((laws_docFine.f k x878000 x878001 x878002 x878003 x878004 x878005 x878006 x878007).bind fun t879 => (laws_FnDocReadBack.j1 k x1 (!t879) x878000 x878001 x878002 x878003 x878004 x878005 x878006 x878007)))
def laws_FnDocReadBack.j1 : Nat → List Int → Bool → Int → ByteArray → ByteArray → Int → Int → Int → List Int → List (S95) → Option (Bool)
  | 0, _, _, _, _, _, _, _, _, _, _ => none
  | k + 1, x1, x23, x878000, x878001, x878002, x878003, x878004, x878005, x878006, x878007 => if x23 = true then (some true) else ((spec_DocValue.f k x878000 x878001 x878002 x878003 x878004 x878005 x878006 x878007).bind fun t880 => (if t880.length + x1.length < 140737488355328 then ((impl_Read.f k x878000 (t880 ++ x1)).bind fun bt886 => ((laws_docAwake.f k).bind fun t903 => (if t903 = true then (if bt886.2.2.2.2.2.2.2.2.2 = true then ((laws_docFlat.f k x878000 x878001 x878002 x878003 x878004 x878005 x878006 x878007).bind fun bt904 => ((spec_DocSame.f k bt886.1 bt886.2.1 bt886.2.2.1 bt886.2.2.2.1 bt886.2.2.2.2.1 bt886.2.2.2.2.2.1 bt886.2.2.2.2.2.2.1 bt886.2.2.2.2.2.2.2.1 bt904.1 bt904.2.1 bt904.2.2.1 bt904.2.2.2.1 bt904.2.2.2.2.1 bt904.2.2.2.2.2.1 bt904.2.2.2.2.2.2.1 bt904.2.2.2.2.2.2.2).bind fun t916 => (if t916 = true then (some ((strOfNums bt886.2.2.2.2.2.2.2.2.1).toList == (strOfNums x1).toList)) else (none)))) else (none)) else (none)))) else (none)))
end
def laws_FnDocReadBack.f (k : Nat) (a0_0 : Int) (a0_1 : ByteArray) (a0_2 : ByteArray) (a0_3 : Int) (a0_4 : Int) (a0_5 : Int) (l0_6 : List Int) (l0_7 : List (S95)) (l1 : List Int) : Option (Bool) := (laws_zzFits1.f a0_0 a0_1 a0_2 a0_3 a0_4 a0_5 l0_6 l0_7).bind fun t878 => (if t878 = true then (laws_FnDocReadBack.j0 k l1 (decide ((l1.length : Int) > 2147483647)) a0_0 a0_1 a0_2 a0_3 a0_4 a0_5 l0_6 l0_7) else (laws_FnDocReadBack.j0 k l1 true a0_0 a0_1 a0_2 a0_3 a0_4 a0_5 l0_6 l0_7))
theorem laws_FnDocReadBack.mono_l : ∀ k, (∀ y0 y1 y2 y3 y4 y5 y6 y7 y8 y9, LeO (laws_FnDocReadBack.j0 k y0 y1 y2 y3 y4 y5 y6 y7 y8 y9) (laws_FnDocReadBack.j0 (k + 1) y0 y1 y2 y3 y4 y5 y6 y7 y8 y9)) ∧ (∀ y0 y1 y2 y3 y4 y5 y6 y7 y8 y9, LeO (laws_FnDocReadBack.j1 k y0 y1 y2 y3 y4 y5 y6 y7 y8 y9) (laws_FnDocReadBack.j1 (k + 1) y0 y1 y2 y3 y4 y5 y6 y7 y8 y9))
  | 0 => ⟨fun _ _ _ _ _ _ _ _ _ _ r h => by simp [laws_FnDocReadBack.j0] at h, fun _ _ _ _ _ _ _ _ _ _ r h => by simp [laws_FnDocReadBack.j1] at h⟩
  | k + 1 => by
    obtain ⟨ih0, ih1⟩ := laws_FnDocReadBack.mono_l k
    refine ⟨?_, ?_⟩
    · intro y0 y1 y2 y3 y4 y5 y6 y7 y8 y9
      unfold laws_FnDocReadBack.j0
      repeat' first
      | (with_reducible exact LeO.refl _)
      | (with_reducible exact LeO.none _)
      | (with_reducible refine LeO.ite ?_ ?_)
      | (with_reducible refine LeO.bind ?_ (fun _ => ?_))
      | exact ih0 _ _ _ _ _ _ _ _ _ _
      | exact ih1 _ _ _ _ _ _ _ _ _ _
      | exact impl_Read.mono _ _ _
      | exact laws_docAwake.mono _
      | exact laws_docFine.mono _ _ _ _ _ _ _ _ _
      | exact laws_docFlat.mono _ _ _ _ _ _ _ _ _
      | exact spec_DocSame.mono _ _ _ _ _ _ _ _ _ _ _ _ _ _ _ _ _
      | exact spec_DocValue.mono _ _ _ _ _ _ _ _ _
      | exact LeO.none _
      | refine LeO.ite ?_ ?_
      | refine LeO.bind ?_ (fun _ => ?_)
    · intro y0 y1 y2 y3 y4 y5 y6 y7 y8 y9
      unfold laws_FnDocReadBack.j1
      repeat' first
      | (with_reducible exact LeO.refl _)
      | (with_reducible exact LeO.none _)
      | (with_reducible refine LeO.ite ?_ ?_)
      | (with_reducible refine LeO.bind ?_ (fun _ => ?_))
      | exact ih0 _ _ _ _ _ _ _ _ _ _
      | exact ih1 _ _ _ _ _ _ _ _ _ _
      | exact impl_Read.mono _ _ _
      | exact laws_docAwake.mono _
      | exact laws_docFine.mono _ _ _ _ _ _ _ _ _
      | exact laws_docFlat.mono _ _ _ _ _ _ _ _ _
      | exact spec_DocSame.mono _ _ _ _ _ _ _ _ _ _ _ _ _ _ _ _ _
      | exact spec_DocValue.mono _ _ _ _ _ _ _ _ _
      | exact LeO.none _
      | refine LeO.ite ?_ ?_
      | refine LeO.bind ?_ (fun _ => ?_)
theorem laws_FnDocReadBack.mono : ∀ a0 a1 a2 a3 a4 a5 a6 a7 a8 k, LeO (laws_FnDocReadBack.f k a0 a1 a2 a3 a4 a5 a6 a7 a8) (laws_FnDocReadBack.f (k + 1) a0 a1 a2 a3 a4 a5 a6 a7 a8) := by
  intro a0 a1 a2 a3 a4 a5 a6 a7 a8 k
  obtain ⟨ih0, ih1⟩ := laws_FnDocReadBack.mono_l k
  unfold laws_FnDocReadBack.f
  repeat' first
      | (with_reducible exact LeO.refl _)
      | (with_reducible exact LeO.none _)
      | (with_reducible refine LeO.ite ?_ ?_)
      | (with_reducible refine LeO.bind ?_ (fun _ => ?_))
      | exact ih0 _ _ _ _ _ _ _ _ _ _
      | exact ih1 _ _ _ _ _ _ _ _ _ _
      | exact impl_Read.mono _ _ _
      | exact laws_docAwake.mono _
      | exact laws_docFine.mono _ _ _ _ _ _ _ _ _
      | exact laws_docFlat.mono _ _ _ _ _ _ _ _ _
      | exact spec_DocSame.mono _ _ _ _ _ _ _ _ _ _ _ _ _ _ _ _ _
      | exact spec_DocValue.mono _ _ _ _ _ _ _ _ _
      | exact LeO.none _
      | refine LeO.ite ?_ ?_
      | refine LeO.bind ?_ (fun _ => ?_)
def laws_FnDocReadBack.T5 : Bool × List (List Nat × List Nat) := (true, [([], []), ([0], [0]), ([], []), ([2], [2]), ([], []), ([3, 4, 3], [3, 4]), ([1, 5, 5], [1, 5]), ([6], [6]), ([7], [7]), ([7], [7]), ([7], [7]), ([], []), ([11, 8, 6, 0, 1, 2, 3, 4, 5, 6, 7, 8, 11], [8, 11]), ([9, 12, 0, 1, 2, 3, 4, 5, 6, 7, 8, 9, 11, 12], [9]), ([10, 13, 0, 1, 2, 3, 4, 5, 6, 7, 8, 9, 10, 11, 12, 13], [10])])
def laws_FnDocReadBack.B5 : List Nat := [0, 1, 0, 4, 0, 28, 63, 127, 255, 255, 255, 0, 2559, 7167, 16383]
theorem laws_FnDocReadBack.tab5 : rtab .any (opsOf Tryz.f7 5) = laws_FnDocReadBack.T5 := by kernel_rfl
theorem laws_FnDocReadBack.bits5 : waitsOk laws_FnDocReadBack.T5.2 laws_FnDocReadBack.B5 = true := by kernel_rfl
def laws_FnDocReadBack.T6 : Bool × List (List Nat × List Nat) := (true, [([], []), ([0, 0], [0]), ([1], [1]), ([1, 2], [1, 2]), ([3, 1], [3]), ([4], [4]), ([4], [4]), ([6, 4, 4], [4, 6]), ([5, 7, 7, 4], [4, 5, 7]), ([4, 8], [4, 8]), ([9, 8], [9]), ([10], [10]), ([11, 10], [10, 11]), ([10], [10]), ([13, 10], [10, 13]), ([12, 14, 10], [10, 12, 14]), ([10, 15], [10, 15]), ([16, 10, 0, 1, 2, 3, 4, 5, 6, 7, 8, 9, 10, 11, 12, 13, 14, 15, 16], [16])])
def laws_FnDocReadBack.B6 : List Nat := [0, 1, 3, 7, 15, 31, 31, 95, 255, 511, 1023, 2047, 4095, 2047, 10239, 32767, 65535, 131071]
theorem laws_FnDocReadBack.tab6 : rtab .any (opsOf Tryz.f7 6) = laws_FnDocReadBack.T6 := by kernel_rfl
theorem laws_FnDocReadBack.bits6 : waitsOk laws_FnDocReadBack.T6.2 laws_FnDocReadBack.B6 = true := by kernel_rfl
theorem laws_FnDocReadBack.calls (k : Nat) (a0_0 : Int) (a0_1 : ByteArray) (a0_2 : ByteArray) (a0_3 : Int) (a0_4 : Int) (a0_5 : Int) (A0_6 : Option Addr) (c0_6 : Nat) (l0_6 : List Int) (A0_7 : Option Addr) (c0_7 : Nat) (l0_7 : List (S95)) (A1 : Option Addr) (c1 : Nat) (l1 : List Int) (r : Bool) (w : World) (hr0_6 : Kd.C (Kd.int .u8) w A0_6 l0_6.length l0_6) (hc0_6 : l0_6.length ≤ c0_6) (hr0_7 : Kd.C k95 w A0_7 l0_7.length l0_7) (hc0_7 : l0_7.length ≤ c0_7) (hr1 : Kd.C (Kd.int .u8) w A1 l1.length l1) (hc1 : l1.length ≤ c1) (h : laws_FnDocReadBack.f k a0_0 a0_1 a0_2 a0_3 a0_4 a0_5 l0_6 l0_7 l1 = some r) :
    Calls Tryz.prog 7 #[.agg #[.int .i64 a0_0, .string a0_1, .string a0_2, .int .i64 a0_3, .int .u64 a0_4, .int .u64 a0_5, .slice A0_6 l0_6.length c0_6, .slice A0_7 l0_7.length c0_7], .slice A1 l1.length c1] w fun e w' => e = .returned (.bool r) ∧ Below w.heap.size w w' := by
  have hu44 := Tryz.underlying44; have HR0_6 := Aside0.mk hr0_6; have HC0_6 := Aside0.mk hc0_6; clear hr0_6 hc0_6; have HR0_7 := Aside0.mk hr0_7; have HC0_7 := Aside0.mk hc0_7; clear hr0_7 hc0_7; have HR1 := Aside0.mk hr1; have HC1 := Aside0.mk hc1; clear hr1 hc1; have HB := Aside0.mk (Below.refl w.heap.size w); have H : ((laws_zzFits1.f a0_0 a0_1 a0_2 a0_3 a0_4 a0_5 l0_6 l0_7).bind fun t878 => (if t878 = true then (laws_FnDocReadBack.j0 k l1 (decide ((l1.length : Int) > 2147483647)) a0_0 a0_1 a0_2 a0_3 a0_4 a0_5 l0_6 l0_7) else (laws_FnDocReadBack.j0 k l1 true a0_0 a0_1 a0_2 a0_3 a0_4 a0_5 l0_6 l0_7))) = some r := h; clear h; have HC3 := Aside0.mk H; clear H
  go_enter Tryz.func7, Tryz.ntmps7
  go_upto_region 1 with (first | ((with_reducible refine gate_dst (N := 2) rfl ?_); (try (refine gate_guard (by rfl) ?_; dsimp only)); refine box_event ?hg (N := 2) ?hd (cs := #[.int .i64 a0_0, .string a0_1, .string a0_2, .int .i64 a0_3, .int .u64 a0_4, .int .u64 a0_5, .slice A0_6 l0_6.length c0_6, .slice A0_7 l0_7.length c0_7]) (t := 44) ?hr ?_; (case hd => rfl); (case hg => rfl); (case hr => first | (go_simp; done) | (go_simp; rfl)); intro gb877 hg w4 hbox hb; have n0_ := Aside0.mk (below_step HW.zb hb); have n1_ := Aside0.mk (hbox); have n2_ := Aside0.mk ((by rw [hg]; exact (below_size HW.zb) : w.heap.size ≤ gb877)); have n3_ := Aside0.mk ((by rw [hg]; exact (below_size HW.zb) : w.heap.size ≤ gb877)); clear HB; have HB := n0_; have BK877 := n1_; have GW877 := n2_; have GE877 := n3_; clear n0_ n1_ n2_ n3_; clear hb hbox hg))
  (try simp only [Act.put, List.setIfInBounds_toArray, List.set_cons_zero, List.set_cons_succ])
  go_cut [15] (fun v15 wc => ∃ (kq : Nat) (x15_2 : Bool), v15 = .bool x15_2 ∧ Aside0 (laws_FnDocReadBack.j0 kq l1 x15_2 a0_0 a0_1 a0_2 a0_3 a0_4 a0_5 l0_6 l0_7 = some r) ∧ Aside0 (kq ≤ k) ∧ Aside0 (wc.heap[gb877]? = some (.cells #[.int .i64 a0_0, .string a0_1, .string a0_2, .int .i64 a0_3, .int .u64 a0_4, .int .u64 a0_5, (.slice A0_6 l0_6.length c0_6), (.slice A0_7 l0_7.length c0_7)] 44 (0, 0))) ∧ Aside0 (Below w.heap.size w wc))
  case first =>
    have H := HC3.out; clear HC3; replace H := Option.bind_eq_some_iff.mp H; obtain ⟨t878, A50, H⟩ := H; replace H : (if t878 = true then (laws_FnDocReadBack.j0 k l1 (decide ((l1.length : Int) > 2147483647)) a0_0 a0_1 a0_2 a0_3 a0_4 a0_5 l0_6 l0_7) else (laws_FnDocReadBack.j0 k l1 true a0_0 a0_1 a0_2 a0_3 a0_4 a0_5 l0_6 l0_7)) = some r := H; have A5 := Aside0.mk A50; clear A50
    by_cases c6 : t878 = true
    · subst c6
      have H1 : (laws_FnDocReadBack.j0 k l1 (decide ((l1.length : Int) > 2147483647)) a0_0 a0_1 a0_2 a0_3 a0_4 a0_5 l0_6 l0_7) = some r := by rw [if_pos rfl] at H; exact H
      clear H; have H := H1; clear H1
      focus
        have H' := Aside0.mk H; clear H; obtain ⟨hcz7_0, hcz7_1, hcz7_2, hcz7_3, hcz7_4, hcz7_5, hcz7_6, hcz7_7⟩ := HW.k8 BK877.out
        go_wp2_with (first | ((with_reducible refine gate_callee (f := 30) rfl ?_); refine HW.gz (some 9) rfl rfl Tryz.func30 (by kernel_rfl) rfl #[.agg #[.int .i64 a0_0, .string a0_1, .string a0_2, .int .i64 a0_3, .int .u64 a0_4, .int .u64 a0_5, .slice A0_6 l0_6.length c0_6, .slice A0_7 l0_7.length c0_7]] rfl ?_; (with_reducible refine (laws_zzFits1.calls a0_0 a0_1 a0_2 a0_3 a0_4 a0_5 _ _ l0_6 _ _ l0_7 true _ ?side1 ?side2 ?side3 ?side4 A5.out).mono ?_); (case side1 => repeat (first | exact (Kd.C_below HR0_6.out HB.out) | (with_reducible refine Kd.C_alloc ?_ _) | (with_reducible refine Kd.C_drewN ?_ _) | (with_reducible refine Kd.C_drew ?_))); (case side2 => exact HC0_6.out); (case side3 => repeat (first | exact (Kd.C_below HR0_7.out HB.out) | (with_reducible refine Kd.C_alloc ?_ _) | (with_reducible refine Kd.C_drewN ?_ _) | (with_reducible refine Kd.C_drew ?_))); (case side4 => exact HC0_7.out); rintro e w8 ⟨rfl, hb⟩; refine ⟨_, rfl, ?_⟩; replace BK877 := Aside0.mk (blk_below (HW.zB BK877.out) hb); replace HB := Aside0.mk (below_step HW.zb hb); (try clear hb)))
        go_meet
        case rel => exact ⟨_, (decide ((l1.length : Int) > 2147483647)), HW.rs, H', ⟨by first | omega | exact Nat.le_refl _⟩, ⟨by (with_reducible repeat (first | refine blk_drewN ?_ _ | refine blk_drew ?_ | refine blk_alloc ?_ _)); exact BK877.out⟩, ⟨HW.zb⟩⟩
    replace c6 := Bool.eq_false_iff.mpr c6; subst c6
    have H1 : (laws_FnDocReadBack.j0 k l1 true a0_0 a0_1 a0_2 a0_3 a0_4 a0_5 l0_6 l0_7) = some r := by rw [if_neg (show ¬ (false = true) by decide)] at H; exact H
    clear H; have H := H1; clear H1
    focus
      have H' := Aside0.mk H; clear H; obtain ⟨hcz9_0, hcz9_1, hcz9_2, hcz9_3, hcz9_4, hcz9_5, hcz9_6, hcz9_7⟩ := HW.k8 BK877.out
      go_wp2_with (first | ((with_reducible refine gate_callee (f := 30) rfl ?_); refine HW.gz (some 9) rfl rfl Tryz.func30 (by kernel_rfl) rfl #[.agg #[.int .i64 a0_0, .string a0_1, .string a0_2, .int .i64 a0_3, .int .u64 a0_4, .int .u64 a0_5, .slice A0_6 l0_6.length c0_6, .slice A0_7 l0_7.length c0_7]] rfl ?_; (with_reducible refine (laws_zzFits1.calls a0_0 a0_1 a0_2 a0_3 a0_4 a0_5 _ _ l0_6 _ _ l0_7 false _ ?side1 ?side2 ?side3 ?side4 A5.out).mono ?_); (case side1 => repeat (first | exact (Kd.C_below HR0_6.out HB.out) | (with_reducible refine Kd.C_alloc ?_ _) | (with_reducible refine Kd.C_drewN ?_ _) | (with_reducible refine Kd.C_drew ?_))); (case side2 => exact HC0_6.out); (case side3 => repeat (first | exact (Kd.C_below HR0_7.out HB.out) | (with_reducible refine Kd.C_alloc ?_ _) | (with_reducible refine Kd.C_drewN ?_ _) | (with_reducible refine Kd.C_drew ?_))); (case side4 => exact HC0_7.out); rintro e w10 ⟨rfl, hb⟩; refine ⟨_, rfl, ?_⟩; replace BK877 := Aside0.mk (blk_below (HW.zB BK877.out) hb); replace HB := Aside0.mk (below_step HW.zb hb); (try clear hb)))
      go_meet
      case rel => exact ⟨_, (true), HW.rs, H', ⟨by first | omega | exact Nat.le_refl _⟩, ⟨by (with_reducible repeat (first | refine blk_drewN ?_ _ | refine blk_drew ?_ | refine blk_alloc ?_ _)); exact BK877.out⟩, ⟨HW.zb⟩⟩
  case rest =>
    clear HC3
    (try clear c1); (try clear p2); (try clear c3); (try clear c6); (try clear c7); (try clear hcz7_0 hcz7_1 hcz7_2 hcz7_3 hcz7_4 hcz7_5 hcz7_6 hcz7_7); (try clear hcz9_0 hcz9_1 hcz9_2 hcz9_3 hcz9_4 hcz9_5 hcz9_6 hcz9_7)
    obtain ⟨kq, x15_2, rfl, HA, HJ2, BK877, HB⟩ := hcut
    cases kq with
    | zero => exact absurd HA.out (by simp [laws_FnDocReadBack.j0])
    | succ kj2 =>
      have H := HA.out; clear HA
      simp only [laws_FnDocReadBack.j0] at H
      by_cases c11 : x15_2 = true
      · subst c11
        have H1 : (some true) = some r := by rw [if_pos rfl] at H; exact H
        clear H; have H := H1; clear H1
        focus
          obtain rfl := Option.some.inj H
          go_wp2
          go_ret
          exact ⟨rfl, HW.zb⟩
      replace c11 := Bool.eq_false_iff.mpr c11; subst c11
      have H1 : (if (l1.length : Int) > 1000 then (laws_FnDocReadBack.j1 kj2 l1 true a0_0 a0_1 a0_2 a0_3 a0_4 a0_5 l0_6 l0_7) else ((laws_docFine.f kj2 a0_0 a0_1 a0_2 a0_3 a0_4 a0_5 l0_6 l0_7).bind fun t879 => (laws_FnDocReadBack.j1 kj2 l1 (!t879) a0_0 a0_1 a0_2 a0_3 a0_4 a0_5 l0_6 l0_7))) = some r := by rw [if_neg (show ¬ (false = true) by decide)] at H; exact H
      clear H; have H := H1; clear H1; have HC12 := Aside0.mk H; clear H
      go_upto_region 3 with (fail)
      go_cut [23] (fun v23 wc => ∃ (kq : Nat) (x23_11 : Bool), v23 = .bool x23_11 ∧ Aside0 (laws_FnDocReadBack.j1 kq l1 x23_11 a0_0 a0_1 a0_2 a0_3 a0_4 a0_5 l0_6 l0_7 = some r) ∧ Aside0 (kq ≤ kj2) ∧ Aside0 (wc.heap[gb877]? = some (.cells #[.int .i64 a0_0, .string a0_1, .string a0_2, .int .i64 a0_3, .int .u64 a0_4, .int .u64 a0_5, (.slice A0_6 l0_6.length c0_6), (.slice A0_7 l0_7.length c0_7)] 44 (0, 0))) ∧ Aside0 (Below w.heap.size w wc))
      case first =>
        have H := HC12.out; clear HC12
        by_cases c13 : (l1.length : Int) > 1000
        · rw [if_pos c13] at H
          have c13b0 : decide (1000 < (l1.length : Int)) = true := decide_eq_true c13
          have c13b1 : decide (1000 < l1.length) = true := decide_eq_true (by omega)
          clear c13
          (first | rw [c13b0] | (simp only [i64_w, i32_w]; rw [c13b0]) | skip)
          focus
            have H' := Aside0.mk H; clear H
            go_wp2
            go_meet
            case rel => exact ⟨_, (true), HW.rs, H', ⟨by have := HJ2.out; first | omega | exact Nat.le_refl _⟩, ⟨by (with_reducible repeat (first | refine blk_drewN ?_ _ | refine blk_drew ?_ | refine blk_alloc ?_ _)); exact BK877.out⟩, ⟨HW.zb⟩⟩
        rw [if_neg c13] at H; have c13b0 : decide (1000 < (l1.length : Int)) = false := decide_eq_false c13
        have c13b1 : decide (1000 < l1.length) = false := decide_eq_false (by omega)
        clear c13
        (first | rw [c13b0] | (simp only [i64_w, i32_w]; rw [c13b0]) | skip)
        replace H := Option.bind_eq_some_iff.mp H; obtain ⟨t879, A140, H⟩ := H; replace H : (laws_FnDocReadBack.j1 kj2 l1 (!t879) a0_0 a0_1 a0_2 a0_3 a0_4 a0_5 l0_6 l0_7) = some r := H; have A14 := Aside0.mk A140; clear A140
        focus
          have H' := Aside0.mk H; clear H; obtain ⟨hcz15_0, hcz15_1, hcz15_2, hcz15_3, hcz15_4, hcz15_5, hcz15_6, hcz15_7⟩ := HW.k8 BK877.out
          go_wp2_with (first | (go_at_call 32; (with_reducible refine (laws_docFine.calls kj2 a0_0 a0_1 a0_2 a0_3 a0_4 a0_5 _ _ l0_6 _ _ l0_7 t879 _ ?side1 ?side2 ?side3 ?side4 A14.out).mono ?_); (case side1 => repeat (first | exact (Kd.C_below HR0_6.out HB.out) | (with_reducible refine Kd.C_alloc ?_ _) | (with_reducible refine Kd.C_drewN ?_ _) | (with_reducible refine Kd.C_drew ?_))); (case side2 => exact HC0_6.out); (case side3 => repeat (first | exact (Kd.C_below HR0_7.out HB.out) | (with_reducible refine Kd.C_alloc ?_ _) | (with_reducible refine Kd.C_drewN ?_ _) | (with_reducible refine Kd.C_drew ?_))); (case side4 => exact HC0_7.out); rintro e w16 ⟨rfl, hb⟩; replace BK877 := Aside0.mk (blk_below (HW.zB BK877.out) hb); replace HB := Aside0.mk (below_step HW.zb hb); (try clear hb)))
          go_meet
          case rel => exact ⟨_, (!t879), HW.rs, H', ⟨by have := HJ2.out; first | omega | exact Nat.le_refl _⟩, ⟨by (with_reducible repeat (first | refine blk_drewN ?_ _ | refine blk_drew ?_ | refine blk_alloc ?_ _)); exact BK877.out⟩, ⟨HW.zb⟩⟩
      case rest =>
        clear HC12
        (try clear c1); (try clear p2); (try clear c3); (try clear c6); (try clear c7); (try clear c11); (try clear c13); (try clear c13b0); (try clear c13b1); (try clear hcz15_0 hcz15_1 hcz15_2 hcz15_3 hcz15_4 hcz15_5 hcz15_6 hcz15_7); (try clear hcz7_0 hcz7_1 hcz7_2 hcz7_3 hcz7_4 hcz7_5 hcz7_6 hcz7_7); (try clear hcz9_0 hcz9_1 hcz9_2 hcz9_3 hcz9_4 hcz9_5 hcz9_6 hcz9_7); (try clear p2)
        obtain ⟨kq, x23_11, rfl, HA, HJ11, BK877, HB⟩ := hcut
        cases kq with
        | zero => exact absurd HA.out (by simp [laws_FnDocReadBack.j1])
        | succ kj11 =>
          have H := HA.out; clear HA
          simp only [laws_FnDocReadBack.j1] at H
          by_cases c17 : x23_11 = true
          · subst c17
            have H1 : (some true) = some r := by rw [if_pos rfl] at H; exact H
            clear H; have H := H1; clear H1
            focus
              obtain rfl := Option.some.inj H
              go_wp2
              go_ret
              exact ⟨rfl, HW.zb⟩
          replace c17 := Bool.eq_false_iff.mpr c17; subst c17
          have H1 : ((spec_DocValue.f kj11 a0_0 a0_1 a0_2 a0_3 a0_4 a0_5 l0_6 l0_7).bind fun t880 => (if t880.length + l1.length < 140737488355328 then ((impl_Read.f kj11 a0_0 (t880 ++ l1)).bind fun bt886 => ((laws_docAwake.f kj11).bind fun t903 => (if t903 = true then (if bt886.2.2.2.2.2.2.2.2.2 = true then ((laws_docFlat.f kj11 a0_0 a0_1 a0_2 a0_3 a0_4 a0_5 l0_6 l0_7).bind fun bt904 => ((spec_DocSame.f kj11 bt886.1 bt886.2.1 bt886.2.2.1 bt886.2.2.2.1 bt886.2.2.2.2.1 bt886.2.2.2.2.2.1 bt886.2.2.2.2.2.2.1 bt886.2.2.2.2.2.2.2.1 bt904.1 bt904.2.1 bt904.2.2.1 bt904.2.2.2.1 bt904.2.2.2.2.1 bt904.2.2.2.2.2.1 bt904.2.2.2.2.2.2.1 bt904.2.2.2.2.2.2.2).bind fun t916 => (if t916 = true then (some ((strOfNums bt886.2.2.2.2.2.2.2.2.1).toList == (strOfNums l1).toList)) else (none)))) else (none)) else (none)))) else (none))) = some r := by rw [if_neg (show ¬ (false = true) by decide)] at H; exact H
          clear H; have H := H1; clear H1; replace H := Option.bind_eq_some_iff.mp H; obtain ⟨t880, A180, H⟩ := H
          replace H : (if t880.length + l1.length < 140737488355328 then ((impl_Read.f kj11 a0_0 (t880 ++ l1)).bind fun bt886 => ((laws_docAwake.f kj11).bind fun t903 => (if t903 = true then (if bt886.2.2.2.2.2.2.2.2.2 = true then ((laws_docFlat.f kj11 a0_0 a0_1 a0_2 a0_3 a0_4 a0_5 l0_6 l0_7).bind fun bt904 => ((spec_DocSame.f kj11 bt886.1 bt886.2.1 bt886.2.2.1 bt886.2.2.2.1 bt886.2.2.2.2.1 bt886.2.2.2.2.2.1 bt886.2.2.2.2.2.2.1 bt886.2.2.2.2.2.2.2.1 bt904.1 bt904.2.1 bt904.2.2.1 bt904.2.2.2.1 bt904.2.2.2.2.1 bt904.2.2.2.2.2.1 bt904.2.2.2.2.2.2.1 bt904.2.2.2.2.2.2.2).bind fun t916 => (if t916 = true then (some ((strOfNums bt886.2.2.2.2.2.2.2.2.1).toList == (strOfNums l1).toList)) else (none)))) else (none)) else (none)))) else (none)) = some r := H
          have A18 := Aside0.mk A180; clear A180
          by_cases c19 : t880.length + l1.length < 140737488355328
          rotate_left
          · rw [if_neg c19] at H
            exact absurd H (by simp)
          rw [if_pos c19] at H; have LMc19 := Aside0.mk c19; clear c19; obtain ⟨y883, hy883⟩ : ∃ y_ : List Int, y_ = (t880 ++ l1) := ⟨_, rfl⟩
          replace H : ((impl_Read.f kj11 a0_0 y883).bind fun bt886 => ((laws_docAwake.f kj11).bind fun t903 => (if t903 = true then (if bt886.2.2.2.2.2.2.2.2.2 = true then ((laws_docFlat.f kj11 a0_0 a0_1 a0_2 a0_3 a0_4 a0_5 l0_6 l0_7).bind fun bt904 => ((spec_DocSame.f kj11 bt886.1 bt886.2.1 bt886.2.2.1 bt886.2.2.2.1 bt886.2.2.2.2.1 bt886.2.2.2.2.2.1 bt886.2.2.2.2.2.2.1 bt886.2.2.2.2.2.2.2.1 bt904.1 bt904.2.1 bt904.2.2.1 bt904.2.2.2.1 bt904.2.2.2.2.1 bt904.2.2.2.2.2.1 bt904.2.2.2.2.2.2.1 bt904.2.2.2.2.2.2.2).bind fun t916 => (if t916 = true then (some ((strOfNums bt886.2.2.2.2.2.2.2.2.1).toList == (strOfNums l1).toList)) else (none)))) else (none)) else (none)))) = some r := by (try rw [hy883]); exact HW.rp
          have Ny883 := Aside0.mk hy883; clear hy883; replace H := Option.bind_eq_some_iff.mp H; obtain ⟨⟨t886, t887, t888, t889, t890, t891, t892, t895, t898, t901⟩, A200, H⟩ := H; replace H : ((laws_docAwake.f kj11).bind fun t903 => (if t903 = true then (if t901 = true then ((laws_docFlat.f kj11 a0_0 a0_1 a0_2 a0_3 a0_4 a0_5 l0_6 l0_7).bind fun bt904 => ((spec_DocSame.f kj11 t886 t887 t888 t889 t890 t891 t892 t895 bt904.1 bt904.2.1 bt904.2.2.1 bt904.2.2.2.1 bt904.2.2.2.2.1 bt904.2.2.2.2.2.1 bt904.2.2.2.2.2.2.1 bt904.2.2.2.2.2.2.2).bind fun t916 => (if t916 = true then (some ((strOfNums t898).toList == (strOfNums l1).toList)) else (none)))) else (none)) else (none))) = some r := H; have A20 := Aside0.mk A200; clear A200; replace H := Option.bind_eq_some_iff.mp H; obtain ⟨t903, A210, H⟩ := H; replace H : (if t903 = true then (if t901 = true then ((laws_docFlat.f kj11 a0_0 a0_1 a0_2 a0_3 a0_4 a0_5 l0_6 l0_7).bind fun bt904 => ((spec_DocSame.f kj11 t886 t887 t888 t889 t890 t891 t892 t895 bt904.1 bt904.2.1 bt904.2.2.1 bt904.2.2.2.1 bt904.2.2.2.2.1 bt904.2.2.2.2.2.1 bt904.2.2.2.2.2.2.1 bt904.2.2.2.2.2.2.2).bind fun t916 => (if t916 = true then (some ((strOfNums t898).toList == (strOfNums l1).toList)) else (none)))) else (none)) else (none)) = some r := H; have A21 := Aside0.mk A210; clear A210
          by_cases c22 : t903 = true
          rotate_left
          · replace c22 := Bool.eq_false_iff.mpr c22
            subst c22
            have H1 : (none) = some r := by rw [if_neg (show ¬ (false = true) by decide)] at H; exact H
            clear H; have H := H1; clear H1
            exact absurd H (by simp)
          subst c22
          have H1 : (if t901 = true then ((laws_docFlat.f kj11 a0_0 a0_1 a0_2 a0_3 a0_4 a0_5 l0_6 l0_7).bind fun bt904 => ((spec_DocSame.f kj11 t886 t887 t888 t889 t890 t891 t892 t895 bt904.1 bt904.2.1 bt904.2.2.1 bt904.2.2.2.1 bt904.2.2.2.2.1 bt904.2.2.2.2.2.1 bt904.2.2.2.2.2.2.1 bt904.2.2.2.2.2.2.2).bind fun t916 => (if t916 = true then (some ((strOfNums t898).toList == (strOfNums l1).toList)) else (none)))) else (none)) = some r := by rw [if_pos rfl] at H; exact H
          clear H; have H := H1; clear H1
          by_cases c23 : t901 = true
          rotate_left
          · replace c23 := Bool.eq_false_iff.mpr c23
            subst c23
            have H1 : (none) = some r := by rw [if_neg (show ¬ (false = true) by decide)] at H; exact H
            clear H; have H := H1; clear H1
            exact absurd H (by simp)
          subst c23
          have H1 : ((laws_docFlat.f kj11 a0_0 a0_1 a0_2 a0_3 a0_4 a0_5 l0_6 l0_7).bind fun bt904 => ((spec_DocSame.f kj11 t886 t887 t888 t889 t890 t891 t892 t895 bt904.1 bt904.2.1 bt904.2.2.1 bt904.2.2.2.1 bt904.2.2.2.2.1 bt904.2.2.2.2.2.1 bt904.2.2.2.2.2.2.1 bt904.2.2.2.2.2.2.2).bind fun t916 => (if t916 = true then (some ((strOfNums t898).toList == (strOfNums l1).toList)) else (none)))) = some r := by rw [if_pos rfl] at H; exact H
          clear H; have H := H1; clear H1; replace H := Option.bind_eq_some_iff.mp H; obtain ⟨⟨t904, t905, t906, t907, t908, t909, t910, t913⟩, A240, H⟩ := H; replace H : ((spec_DocSame.f kj11 t886 t887 t888 t889 t890 t891 t892 t895 t904 t905 t906 t907 t908 t909 t910 t913).bind fun t916 => (if t916 = true then (some ((strOfNums t898).toList == (strOfNums l1).toList)) else (none))) = some r := H; have A24 := Aside0.mk A240; clear A240; replace H := Option.bind_eq_some_iff.mp H; obtain ⟨t916, A250, H⟩ := H; replace H : (if t916 = true then (some ((strOfNums t898).toList == (strOfNums l1).toList)) else (none)) = some r := H; have A25 := Aside0.mk A250; clear A250
          by_cases c26 : t916 = true
          rotate_left
          · replace c26 := Bool.eq_false_iff.mpr c26
            subst c26
            have H1 : (none) = some r := by rw [if_neg (show ¬ (false = true) by decide)] at H; exact H
            clear H; have H := H1; clear H1
            exact absurd H (by simp)
          subst c26
          have H1 : (some ((strOfNums t898).toList == (strOfNums l1).toList)) = some r := by rw [if_pos rfl] at H; exact H
          clear H; have H := H1; clear H1
          focus
            obtain rfl := Option.some.inj H
            try go_wp2
            replace BK877 := Aside0.mk (blk_drew BK877.out); replace HB := Aside0.mk (below_drew1 HB.out)
            refine start_ (n := 15) (S := fun w' => w'.cell? ⟨gb877, 0, none⟩ = some (.int .i64 a0_0) ∧ w'.cell? ⟨gb877, 1, none⟩ = some (.string a0_1) ∧ w'.cell? ⟨gb877, 2, none⟩ = some (.string a0_2) ∧ w'.cell? ⟨gb877, 3, none⟩ = some (.int .i64 a0_3) ∧ w'.cell? ⟨gb877, 4, none⟩ = some (.int .u64 a0_4) ∧ w'.cell? ⟨gb877, 5, none⟩ = some (.int .u64 a0_5) ∧ w'.cell? ⟨gb877, 6, none⟩ = some (.slice A0_6 l0_6.length c0_6) ∧ w'.cell? ⟨gb877, 7, none⟩ = some (.slice A0_7 l0_7.length c0_7)) (ds := []) #[ff,ff,ff,ff,ff,ff,ff,ff,ff,ff,ff,ff,ff,ff,ff] (by kernel_rfl) rfl rfl (HW.k8 BK877.out) (fun hHeld => ?_); refine with_tabW laws_FnDocReadBack.tab5 laws_FnDocReadBack.bits5 (fun HT_ HW_ => ?_)
            generalize wc.drew = w27 at BK877 HB hHeld ⊢
            refine HW.pz (i := 0) (N := some 25) #[tt,ff,ff,ff,ff,ff,ff,ff,ff,ff,ff,ff,ff,ff,ff] ?_ (hc := any_of HT_.out (by kernel_rfl))
            refine HW.pz (i := 4) (N := some 29) #[tt,ff,ff,ff,tt,ff,ff,ff,ff,ff,ff,ff,ff,ff,ff] ?_ (hc := any_of HT_.out (by kernel_rfl))
            refine take_ (i := 1) (N := some 26) (v := ?_) (a' := ?_) #[tt,tt,ff,ff,tt,ff,ff,ff,ff,ff,ff,ff,ff,ff,ff] rfl rfl (take_ofW HT_.out HW_.out (by kernel_rfl)) (fun _ _ _ h => h) (Or.inl ⟨by rfl, ?_⟩) hHeld ?_ ?_
            rotate_left
            · rintro w' ⟨s0, s1, s2, s3, s4, s5, s6, s7⟩
              go_simp
              with_reducible rfl
            rotate_left
            · exact HW.pt
            refine take_ (i := 2) (N := some 27) (v := ?_) (a' := ?_) #[tt,tt,tt,ff,tt,ff,ff,ff,ff,ff,ff,ff,ff,ff,ff] rfl rfl (take_ofW HT_.out HW_.out (by kernel_rfl)) (fun _ _ _ h => h) (Or.inl ⟨by rfl, ?_⟩) hHeld ?_ ?_
            rotate_left
            · rintro w' ⟨s0, s1, s2, s3, s4, s5, s6, s7⟩
              go_simp
              with_reducible rfl
            rotate_left
            · exact HW.pt
            refine join_ (σ := Value × Value × Value × Value × Value × Nat) 3 #[tt,tt,tt,tt,tt,tt,tt,tt,tt,tt,tt,tt,ff,ff,ff] (fun s_ => [(28, s_.1), (30, s_.2.1), (31, .tuple #[.agg #[.int .i64 t886, .string t887, .string t888, .int .i64 t889, .int .u64 t890, .int .u64 t891, s_.2.2.1, s_.2.2.2.1], s_.2.2.2.2.1, .bool true]), (5, .pointer (some ⟨s_.2.2.2.2.2, 0, none⟩)), (24, .tuple #[.agg #[.int .i64 t886, .string t887, .string t888, .int .i64 t889, .int .u64 t890, .int .u64 t891, s_.2.2.1, s_.2.2.2.1], s_.2.2.2.2.1, .bool true]), (32, .agg #[.int .i64 t886, .string t887, .string t888, .int .i64 t889, .int .u64 t890, .int .u64 t891, s_.2.2.1, s_.2.2.2.1]), (33, s_.2.2.2.2.1), (34, .bool true)]) (fun s_ w' => (w'.cell? ⟨gb877, 0, none⟩ = some (.int .i64 a0_0) ∧ w'.cell? ⟨gb877, 1, none⟩ = some (.string a0_1) ∧ w'.cell? ⟨gb877, 2, none⟩ = some (.string a0_2) ∧ w'.cell? ⟨gb877, 3, none⟩ = some (.int .i64 a0_3) ∧ w'.cell? ⟨gb877, 4, none⟩ = some (.int .u64 a0_4) ∧ w'.cell? ⟨gb877, 5, none⟩ = some (.int .u64 a0_5) ∧ w'.cell? ⟨gb877, 6, none⟩ = some (.slice A0_6 l0_6.length c0_6) ∧ w'.cell? ⟨gb877, 7, none⟩ = some (.slice A0_7 l0_7.length c0_7)) ∧ (Kd.R (Kd.int .u8) 5 w' w.heap.size (fun _ => True) s_.2.1 y883) ∧ (Kd.R (Kd.int .u8) 5 w' w.heap.size (fun _ => True) s_.2.2.1 t892) ∧ (Kd.R k95 95 w' w.heap.size (fun _ => True) s_.2.2.2.1 t895) ∧ (Kd.R (Kd.int .u8) 5 w' w.heap.size (fun _ => True) s_.2.2.2.2.1 t898) ∧ (w'.heap[gb877]? = some (.cells #[.int .i64 a0_0, .string a0_1, .string a0_2, .int .i64 a0_3, .int .u64 a0_4, .int .u64 a0_5, .slice A0_6 l0_6.length c0_6, .slice A0_7 l0_7.length c0_7] 44 (0, 0))) ∧ (w'.heap[s_.2.2.2.2.2]? = some (.cells #[.int .i64 0, .string (⟨#[]⟩ : ByteArray), .string (⟨#[]⟩ : ByteArray), .int .i64 0, .int .u64 0, .int .u64 0, .slice none 0 0, .slice none 0 0] 44 (0, 0))) ∧ (w.heap.size ≤ s_.2.2.2.2.2) ∧ (w.heap.size ≤ s_.2.2.2.2.2) ∧ (gb877 ≠ s_.2.2.2.2.2) ∧ (s_.2.2.2.2.2 ≠ gb877) ∧ (Below w.heap.size w w')) ?_ ?_
            rotate_left
            · intro hCont
              refine two_ (i := 3) (j := 11) (Ni := some 28) (Nj := some 5) #[tt,tt,tt,tt,tt,ff,ff,ff,ff,ff,ff,ff,ff,ff,ff] #[tt,tt,tt,ff,tt,ff,ff,ff,ff,ff,ff,tt,ff,ff,ff] rfl rfl rfl rfl (two_of HT_.out (by kernel_rfl)) (by decide) (by decide) (fun K hK => ?_) (fun K hK => ?_)
              · skip
                refine goes_ Tryz.func33 (by kernel_rfl) rfl #[.agg #[.int .i64 a0_0, .string a0_1, .string a0_2, .int .i64 a0_3, .int .u64 a0_4, .int .u64 a0_5, .slice A0_6 l0_6.length c0_6, .slice A0_7 l0_7.length c0_7]] (by rfl) rfl rfl HW.mt ?_
                with_reducible refine (spec_DocValue.calls kj11 a0_0 a0_1 a0_2 a0_3 a0_4 a0_5 _ _ l0_6 _ _ l0_7 t880 _ ?side1 ?side2 ?side3 ?side4 A18.out).mono ?_
                (case side1 => repeat (first | exact (Kd.C_below HR0_6.out HB.out) | (with_reducible refine Kd.C_alloc ?_ _) | (with_reducible refine Kd.C_drewN ?_ _) | (with_reducible refine Kd.C_drew ?_)))
                (case side2 => exact HC0_6.out)
                (case side3 => repeat (first | exact (Kd.C_below HR0_7.out HB.out) | (with_reducible refine Kd.C_alloc ?_ _) | (with_reducible refine Kd.C_drewN ?_ _) | (with_reducible refine Kd.C_drew ?_)))
                (case side4 => exact HC0_7.out)
                rintro e w28 ⟨v881, rfl, ho0, hb⟩
                refine ⟨_, rfl, ?_⟩
                have HO882 := Aside0.mk (Kd.R_lower ho0 (below_size HW.zb)); replace BK877 := Aside0.mk (blk_below (HW.zB BK877.out) hb); replace HB := Aside0.mk (below_step HW.zb hb)
                (try clear hb)
                (try clear ho0)
                refine hK.out _ _ (HW.k8 BK877.out) (fun hHeld => ?_)
                clear hK K
                refine HW.nz (N := (some 28)) ?_
                refine two_ (i := 5) (j := 11) (Ni := some 30) (Nj := some 5) #[tt,tt,tt,tt,tt,tt,ff,ff,ff,ff,ff,ff,ff,ff,ff] #[tt,tt,tt,tt,tt,ff,ff,ff,ff,ff,ff,tt,ff,ff,ff] rfl rfl rfl rfl (two_of HT_.out (by kernel_rfl)) (by decide) (by decide) (fun K hK => ?_) (fun K hK => ?_)
                · skip
                  refine Kd.R_append_rows_step (Kd.int .u8) (w0 := w) w.heap.size (by rfl) (.tmp 28) (.tmp 29) 22 5 (.int .u8 0) 1 rfl Tryz.underlying22 info5 rfl (by decide) (by omega) v881 t880 l1 _ _ _ (fun _ => True) (fun _ => False) rfl rfl ?aO ?aR (fun _ _ h => h) (fun _ h => h.elim) ?aF ?aB ?aS ?aL ?_
                  (case aR => repeat (first | exact (Kd.C_below HR1.out HB.out) | (with_reducible refine Kd.C_alloc ?_ _) | (with_reducible refine Kd.C_drewN ?_ _) | (with_reducible refine Kd.C_drew ?_)))
                  (case aB => exact HW.zb)
                  (case aF => exact (fun _ _ => trivial))
                  (case aO => exact (HW.zR HO882.out))
                  (case aS => exact (below_size HW.zb))
                  (case aL => have := LMc19.out; omega)
                  intro v884 w29 ho hb hg hat
                  rw [← Ny883.out] at ho
                  have n0_ := Aside0.mk (blk_grown (g := gb877) (o := .cells #[.int .i64 a0_0, .string a0_1, .string a0_2, .int .i64 a0_3, .int .u64 a0_4, .int .u64 a0_5, .slice A0_6 l0_6.length c0_6, .slice A0_7 l0_7.length c0_7] 44 (0, 0)) (HW.zB BK877.out) hg (Kd.R_ne HO882.out BK877.out (by decide)))
                  have n1_ := Aside0.mk (hb); have n2_ := Aside0.mk (ho); clear BK877; clear HB; clear HO882; have BK877 := n0_; have HB := n1_; have HO885 := n2_; clear n0_ n1_ n2_; clear ho hb hg hat; obtain ⟨Ao30, co30, eo30⟩ := Kd.R_slice HO885.out
                  (first | subst eo30 | (injection eo30 with f1_ f2_ f3_; have f4_ := f1_.symm; have f5_ := f3_.symm; clear f1_ f2_ f3_; subst f4_; subst f5_))
                  refine hK.out _ _ (HW.k8 BK877.out) (fun hHeld => ?_)
                  clear hK K
                  refine HW.nz (N := (some 30)) ?_
                  refine two_ (i := 6) (j := 11) (Ni := some 31) (Nj := some 5) #[tt,tt,tt,tt,tt,tt,tt,ff,ff,ff,ff,ff,ff,ff,ff] #[tt,tt,tt,tt,tt,tt,ff,ff,ff,ff,ff,tt,ff,ff,ff] rfl rfl rfl rfl (two_of HT_.out (by kernel_rfl)) (by decide) (by decide) (fun K hK => ?_) (fun K hK => ?_)
                  · skip
                    refine goes_ Tryz.func34 (by kernel_rfl) rfl #[.int .i64 a0_0, .slice Ao30 y883.length co30] (by rfl) rfl rfl HW.mt ?_
                    with_reducible refine (impl_Read.calls kj11 a0_0 _ _ y883 t886 t887 t888 t889 t890 t891 t892 t895 t898 true _ ?side1 ?side2 A20.out).mono ?_
                    (case side1 => repeat (first | exact (Kd.R_reads' HO885.out).2.2 | (with_reducible refine Kd.C_alloc ?_ _) | (with_reducible refine Kd.C_drewN ?_ _) | (with_reducible refine Kd.C_drew ?_)))
                    (case side2 => exact (Kd.R_reads' HO885.out).2.1)
                    rintro e w31 ⟨v893, v896, v899, rfl, ho0, ho1, ho2, hb⟩
                    refine ⟨_, rfl, ?_⟩
                    replace HO885 := Aside0.mk (Kd.R_below (HW.zR HO885.out) hb); have HO894 := Aside0.mk (Kd.R_lower ho0 (below_size HW.zb)); have HO897 := Aside0.mk (Kd.R_lower ho1 (below_size HW.zb)); have HO900 := Aside0.mk (Kd.R_lower ho2 (below_size HW.zb)); replace BK877 := Aside0.mk (blk_below (HW.zB BK877.out) hb); replace HB := Aside0.mk (below_step HW.zb hb)
                    (try clear hb)
                    (try clear ho0)
                    (try clear ho1)
                    (try clear ho2)
                    refine hK.out _ _ (HW.k8 BK877.out) (fun hHeld => ?_)
                    clear hK K
                    refine HW.nz (N := (some 31)) ?_
                    refine HW.pz (i := 7) (N := some 24) #[tt,tt,tt,tt,tt,tt,tt,tt,ff,ff,ff,ff,ff,ff,ff] ?_ (hc := any_of HT_.out (by kernel_rfl))
                    refine HW.pz (i := 8) (N := some 32) #[tt,tt,tt,tt,tt,tt,tt,tt,tt,ff,ff,ff,ff,ff,ff] ?_ (hc := any_of HT_.out (by kernel_rfl))
                    refine HW.pz (i := 9) (N := some 33) #[tt,tt,tt,tt,tt,tt,tt,tt,tt,tt,ff,ff,ff,ff,ff] ?_ (hc := any_of HT_.out (by kernel_rfl))
                    refine HW.pz (i := 10) (N := some 34) #[tt,tt,tt,tt,tt,tt,tt,tt,tt,tt,tt,ff,ff,ff,ff] ?_ (hc := any_of HT_.out (by kernel_rfl))
                    refine one_ (i := 11) (N := some 5) #[tt,tt,tt,tt,tt,tt,tt,tt,tt,tt,tt,tt,ff,ff,ff] rfl rfl (one_of HT_.out (by kernel_rfl)) (by decide) (fun K hK => ?_)
                    refine box_step ?hg (N := 5) ?hd (cs := #[.int .i64 0, .string (⟨#[]⟩ : ByteArray), .string (⟨#[]⟩ : ByteArray), .int .i64 0, .int .u64 0, .int .u64 0, .slice none 0 0, .slice none 0 0]) (t := 44) ?hr ?_; (case hd => rfl); (case hg => rfl); (case hr => first | (go_simp; done) | (go_simp; rfl))
                    intro gb902 hg w32 hbox hb
                    have n0_ := Aside0.mk (Kd.R_below (HW.zR HO885.out) hb); have n1_ := Aside0.mk (Kd.R_below (HW.zR HO894.out) hb); have n2_ := Aside0.mk (Kd.R_below (HW.zR HO897.out) hb); have n3_ := Aside0.mk (Kd.R_below (HW.zR HO900.out) hb); have n4_ := Aside0.mk (blk_below (HW.zB BK877.out) hb); have n5_ := Aside0.mk (below_step HW.zb hb); have n6_ := Aside0.mk (hbox)
                    have n7_ := Aside0.mk ((by rw [hg]; exact (below_size HW.zb) : w.heap.size ≤ gb902))
                    have n8_ := Aside0.mk ((by rw [hg]; exact (below_size HW.zb) : w.heap.size ≤ gb902))
                    have n9_ := Aside0.mk ((by rw [hg]; exact Nat.ne_of_lt (blk_lt (g := gb877) (o := .cells #[.int .i64 a0_0, .string a0_1, .string a0_2, .int .i64 a0_3, .int .u64 a0_4, .int .u64 a0_5, .slice A0_6 l0_6.length c0_6, .slice A0_7 l0_7.length c0_7] 44 (0, 0)) (HW.zB BK877.out)) : gb877 ≠ gb902))
                    have n10_ := Aside0.mk ((by rw [hg]; exact Nat.ne_of_gt (blk_lt (g := gb877) (o := .cells #[.int .i64 a0_0, .string a0_1, .string a0_2, .int .i64 a0_3, .int .u64 a0_4, .int .u64 a0_5, .slice A0_6 l0_6.length c0_6, .slice A0_7 l0_7.length c0_7] 44 (0, 0)) (HW.zB BK877.out)) : gb902 ≠ gb877))
                    clear HO885; clear HO894; clear HO897; clear HO900; clear BK877; clear HB; have HO885 := n0_; have HO894 := n1_; have HO897 := n2_; have HO900 := n3_; have BK877 := n4_; have HB := n5_; have BK902 := n6_; have GW902 := n7_; have GE902 := n8_; have NB877_902 := n9_; have NB902_877 := n10_; clear n0_ n1_ n2_ n3_ n4_ n5_ n6_ n7_ n8_ n9_ n10_; clear hb hbox hg
                    refine hK.out _ _ (HW.k8 BK877.out) (fun hHeld => ?_)
                    clear hK K
                    refine HW.nz (N := (some 5)) ?_
                    exact norm_ (by simp only [putAll, Act.put, List.setIfInBounds_toArray, List.set_cons_zero, List.set_cons_succ, errW_none]) (hCont (v881, .slice Ao30 y883.length co30, v893, v896, v899, gb902) _ ⟨hHeld, (Kd.R_mono (HW.zR HO885.out) (fun _ _ => trivial)), (Kd.R_mono (HW.zR HO894.out) (fun _ _ => trivial)), (Kd.R_mono (HW.zR HO897.out) (fun _ _ => trivial)), (Kd.R_mono (HW.zR HO900.out) (fun _ _ => trivial)), (HW.zB BK877.out), (HW.zB BK902.out), GW902.out, GE902.out, NB877_902.out, NB902_877.out, HW.zb⟩)
                  skip
                  refine box_step ?hg (N := 5) ?hd (cs := #[.int .i64 0, .string (⟨#[]⟩ : ByteArray), .string (⟨#[]⟩ : ByteArray), .int .i64 0, .int .u64 0, .int .u64 0, .slice none 0 0, .slice none 0 0]) (t := 44) ?hr ?_; (case hd => rfl); (case hg => rfl); (case hr => first | (go_simp; done) | (go_simp; rfl))
                  intro gb902 hg w30 hbox hb
                  have n0_ := Aside0.mk (Kd.R_below (HW.zR HO885.out) hb); have n1_ := Aside0.mk (blk_below (HW.zB BK877.out) hb); have n2_ := Aside0.mk (below_step HW.zb hb); have n3_ := Aside0.mk (hbox)
                  have n4_ := Aside0.mk ((by rw [hg]; exact (below_size HW.zb) : w.heap.size ≤ gb902))
                  have n5_ := Aside0.mk ((by rw [hg]; exact (below_size HW.zb) : w.heap.size ≤ gb902))
                  have n6_ := Aside0.mk ((by rw [hg]; exact Nat.ne_of_lt (blk_lt (g := gb877) (o := .cells #[.int .i64 a0_0, .string a0_1, .string a0_2, .int .i64 a0_3, .int .u64 a0_4, .int .u64 a0_5, .slice A0_6 l0_6.length c0_6, .slice A0_7 l0_7.length c0_7] 44 (0, 0)) (HW.zB BK877.out)) : gb877 ≠ gb902))
                  have n7_ := Aside0.mk ((by rw [hg]; exact Nat.ne_of_gt (blk_lt (g := gb877) (o := .cells #[.int .i64 a0_0, .string a0_1, .string a0_2, .int .i64 a0_3, .int .u64 a0_4, .int .u64 a0_5, .slice A0_6 l0_6.length c0_6, .slice A0_7 l0_7.length c0_7] 44 (0, 0)) (HW.zB BK877.out)) : gb902 ≠ gb877))
                  clear HO885; clear BK877; clear HB; have HO885 := n0_; have BK877 := n1_; have HB := n2_; have BK902 := n3_; have GW902 := n4_; have GE902 := n5_; have NB877_902 := n6_; have NB902_877 := n7_; clear n0_ n1_ n2_ n3_ n4_ n5_ n6_ n7_; clear hb hbox hg; obtain ⟨Ao31, co31, eo31⟩ := Kd.R_slice HO885.out
                  (first | subst eo31 | (injection eo31 with f1_ f2_ f3_; have f4_ := f1_.symm; have f5_ := f3_.symm; clear f1_ f2_ f3_; subst f4_; subst f5_))
                  refine hK.out _ _ (HW.k8 BK877.out) (fun hHeld => ?_)
                  clear hK K
                  refine HW.nz (N := (some 5)) ?_
                  refine one_ (i := 6) (N := some 31) #[tt,tt,tt,tt,tt,tt,tt,ff,ff,ff,ff,tt,ff,ff,ff] rfl rfl (one_of HT_.out (by kernel_rfl)) (by decide) (fun K hK => ?_)
                  refine goes_ Tryz.func34 (by kernel_rfl) rfl #[.int .i64 a0_0, .slice Ao31 y883.length co31] (by rfl) rfl rfl HW.mt ?_
                  with_reducible refine (impl_Read.calls kj11 a0_0 _ _ y883 t886 t887 t888 t889 t890 t891 t892 t895 t898 true _ ?side1 ?side2 A20.out).mono ?_
                  (case side1 => repeat (first | exact (Kd.R_reads' HO885.out).2.2 | (with_reducible refine Kd.C_alloc ?_ _) | (with_reducible refine Kd.C_drewN ?_ _) | (with_reducible refine Kd.C_drew ?_)))
                  (case side2 => exact (Kd.R_reads' HO885.out).2.1)
                  rintro e w32 ⟨v893, v896, v899, rfl, ho0, ho1, ho2, hb⟩
                  refine ⟨_, rfl, ?_⟩
                  replace HO885 := Aside0.mk (Kd.R_below (HW.zR HO885.out) hb); have HO894 := Aside0.mk (Kd.R_lower ho0 (below_size HW.zb)); have HO897 := Aside0.mk (Kd.R_lower ho1 (below_size HW.zb)); have HO900 := Aside0.mk (Kd.R_lower ho2 (below_size HW.zb)); replace BK877 := Aside0.mk (blk_below (HW.zB BK877.out) hb); replace BK902 := Aside0.mk (blk_below (g := gb902) (o := .cells #[.int .i64 0, .string (⟨#[]⟩ : ByteArray), .string (⟨#[]⟩ : ByteArray), .int .i64 0, .int .u64 0, .int .u64 0, .slice none 0 0, .slice none 0 0] 44 (0, 0)) (HW.zB BK902.out) hb); replace HB := Aside0.mk (below_step HW.zb hb)
                  (try clear hb)
                  (try clear ho0)
                  (try clear ho1)
                  (try clear ho2)
                  refine hK.out _ _ (HW.k8 BK877.out) (fun hHeld => ?_)
                  clear hK K
                  refine HW.nz (N := (some 31)) ?_
                  refine HW.pz (i := 7) (N := some 24) #[tt,tt,tt,tt,tt,tt,tt,tt,ff,ff,ff,tt,ff,ff,ff] ?_ (hc := any_of HT_.out (by kernel_rfl))
                  refine HW.pz (i := 8) (N := some 32) #[tt,tt,tt,tt,tt,tt,tt,tt,tt,ff,ff,tt,ff,ff,ff] ?_ (hc := any_of HT_.out (by kernel_rfl))
                  refine HW.pz (i := 9) (N := some 33) #[tt,tt,tt,tt,tt,tt,tt,tt,tt,tt,ff,tt,ff,ff,ff] ?_ (hc := any_of HT_.out (by kernel_rfl))
                  refine HW.pz (i := 10) (N := some 34) #[tt,tt,tt,tt,tt,tt,tt,tt,tt,tt,tt,tt,ff,ff,ff] ?_ (hc := any_of HT_.out (by kernel_rfl))
                  exact norm_ (by simp only [putAll, Act.put, List.setIfInBounds_toArray, List.set_cons_zero, List.set_cons_succ, errW_none]) (hCont (v881, .slice Ao31 y883.length co31, v893, v896, v899, gb902) _ ⟨hHeld, (Kd.R_mono (HW.zR HO885.out) (fun _ _ => trivial)), (Kd.R_mono (HW.zR HO894.out) (fun _ _ => trivial)), (Kd.R_mono (HW.zR HO897.out) (fun _ _ => trivial)), (Kd.R_mono (HW.zR HO900.out) (fun _ _ => trivial)), (HW.zB BK877.out), (HW.zB BK902.out), GW902.out, GE902.out, NB877_902.out, NB902_877.out, HW.zb⟩)
                skip
                refine box_step ?hg (N := 5) ?hd (cs := #[.int .i64 0, .string (⟨#[]⟩ : ByteArray), .string (⟨#[]⟩ : ByteArray), .int .i64 0, .int .u64 0, .int .u64 0, .slice none 0 0, .slice none 0 0]) (t := 44) ?hr ?_; (case hd => rfl); (case hg => rfl); (case hr => first | (go_simp; done) | (go_simp; rfl))
                intro gb902 hg w29 hbox hb
                have n0_ := Aside0.mk (Kd.R_below (HW.zR HO882.out) hb); have n1_ := Aside0.mk (blk_below (HW.zB BK877.out) hb); have n2_ := Aside0.mk (below_step HW.zb hb); have n3_ := Aside0.mk (hbox)
                have n4_ := Aside0.mk ((by rw [hg]; exact (below_size HW.zb) : w.heap.size ≤ gb902))
                have n5_ := Aside0.mk ((by rw [hg]; exact (below_size HW.zb) : w.heap.size ≤ gb902))
                have n6_ := Aside0.mk ((by rw [hg]; exact Nat.ne_of_lt (blk_lt (g := gb877) (o := .cells #[.int .i64 a0_0, .string a0_1, .string a0_2, .int .i64 a0_3, .int .u64 a0_4, .int .u64 a0_5, .slice A0_6 l0_6.length c0_6, .slice A0_7 l0_7.length c0_7] 44 (0, 0)) (HW.zB BK877.out)) : gb877 ≠ gb902))
                have n7_ := Aside0.mk ((by rw [hg]; exact Nat.ne_of_gt (blk_lt (g := gb877) (o := .cells #[.int .i64 a0_0, .string a0_1, .string a0_2, .int .i64 a0_3, .int .u64 a0_4, .int .u64 a0_5, .slice A0_6 l0_6.length c0_6, .slice A0_7 l0_7.length c0_7] 44 (0, 0)) (HW.zB BK877.out)) : gb902 ≠ gb877))
                clear HO882; clear BK877; clear HB; have HO882 := n0_; have BK877 := n1_; have HB := n2_; have BK902 := n3_; have GW902 := n4_; have GE902 := n5_; have NB877_902 := n6_; have NB902_877 := n7_; clear n0_ n1_ n2_ n3_ n4_ n5_ n6_ n7_; clear hb hbox hg
                refine hK.out _ _ (HW.k8 BK877.out) (fun hHeld => ?_)
                clear hK K
                refine HW.nz (N := (some 5)) ?_
                refine one_ (i := 5) (N := some 30) #[tt,tt,tt,tt,tt,tt,ff,ff,ff,ff,ff,tt,ff,ff,ff] rfl rfl (one_of HT_.out (by kernel_rfl)) (by decide) (fun K hK => ?_)
                refine Kd.R_append_rows_step (Kd.int .u8) (w0 := w) w.heap.size (by rfl) (.tmp 28) (.tmp 29) 22 5 (.int .u8 0) 1 rfl Tryz.underlying22 info5 rfl (by decide) (by omega) v881 t880 l1 _ _ _ (fun _ => True) (fun _ => False) rfl rfl ?aO ?aR (fun _ _ h => h) (fun _ h => h.elim) ?aF ?aB ?aS ?aL ?_
                (case aR => repeat (first | exact (Kd.C_below HR1.out HB.out) | (with_reducible refine Kd.C_alloc ?_ _) | (with_reducible refine Kd.C_drewN ?_ _) | (with_reducible refine Kd.C_drew ?_)))
                (case aB => exact HW.zb)
                (case aF => exact (fun _ _ => trivial))
                (case aO => exact (HW.zR HO882.out))
                (case aS => exact (below_size HW.zb))
                (case aL => have := LMc19.out; omega)
                intro v884 w30 ho hb hg hat
                rw [← Ny883.out] at ho
                have n0_ := Aside0.mk (blk_grown (g := gb877) (o := .cells #[.int .i64 a0_0, .string a0_1, .string a0_2, .int .i64 a0_3, .int .u64 a0_4, .int .u64 a0_5, .slice A0_6 l0_6.length c0_6, .slice A0_7 l0_7.length c0_7] 44 (0, 0)) (HW.zB BK877.out) hg (Kd.R_ne HO882.out BK877.out (by decide)))
                have n1_ := Aside0.mk (blk_grown (g := gb902) (o := .cells #[.int .i64 0, .string (⟨#[]⟩ : ByteArray), .string (⟨#[]⟩ : ByteArray), .int .i64 0, .int .u64 0, .int .u64 0, .slice none 0 0, .slice none 0 0] 44 (0, 0)) (HW.zB BK902.out) hg (Kd.R_ne HO882.out BK902.out (by decide)))
                have n2_ := Aside0.mk (hb); have n3_ := Aside0.mk (ho); clear BK877; clear BK902; clear HB; clear HO882; have BK877 := n0_; have BK902 := n1_; have HB := n2_; have HO885 := n3_; clear n0_ n1_ n2_ n3_; clear ho hb hg hat; obtain ⟨Ao31, co31, eo31⟩ := Kd.R_slice HO885.out
                (first | subst eo31 | (injection eo31 with f1_ f2_ f3_; have f4_ := f1_.symm; have f5_ := f3_.symm; clear f1_ f2_ f3_; subst f4_; subst f5_))
                refine hK.out _ _ (HW.k8 BK877.out) (fun hHeld => ?_)
                clear hK K
                refine HW.nz (N := (some 30)) ?_
                refine one_ (i := 6) (N := some 31) #[tt,tt,tt,tt,tt,tt,tt,ff,ff,ff,ff,tt,ff,ff,ff] rfl rfl (one_of HT_.out (by kernel_rfl)) (by decide) (fun K hK => ?_)
                refine goes_ Tryz.func34 (by kernel_rfl) rfl #[.int .i64 a0_0, .slice Ao31 y883.length co31] (by rfl) rfl rfl HW.mt ?_
                with_reducible refine (impl_Read.calls kj11 a0_0 _ _ y883 t886 t887 t888 t889 t890 t891 t892 t895 t898 true _ ?side1 ?side2 A20.out).mono ?_
                (case side1 => repeat (first | exact (Kd.R_reads' HO885.out).2.2 | (with_reducible refine Kd.C_alloc ?_ _) | (with_reducible refine Kd.C_drewN ?_ _) | (with_reducible refine Kd.C_drew ?_)))
                (case side2 => exact (Kd.R_reads' HO885.out).2.1)
                rintro e w32 ⟨v893, v896, v899, rfl, ho0, ho1, ho2, hb⟩
                refine ⟨_, rfl, ?_⟩
                replace HO885 := Aside0.mk (Kd.R_below (HW.zR HO885.out) hb); have HO894 := Aside0.mk (Kd.R_lower ho0 (below_size HW.zb)); have HO897 := Aside0.mk (Kd.R_lower ho1 (below_size HW.zb)); have HO900 := Aside0.mk (Kd.R_lower ho2 (below_size HW.zb)); replace BK877 := Aside0.mk (blk_below (HW.zB BK877.out) hb); replace BK902 := Aside0.mk (blk_below (g := gb902) (o := .cells #[.int .i64 0, .string (⟨#[]⟩ : ByteArray), .string (⟨#[]⟩ : ByteArray), .int .i64 0, .int .u64 0, .int .u64 0, .slice none 0 0, .slice none 0 0] 44 (0, 0)) (HW.zB BK902.out) hb); replace HB := Aside0.mk (below_step HW.zb hb)
                (try clear hb)
                (try clear ho0)
                (try clear ho1)
                (try clear ho2)
                refine hK.out _ _ (HW.k8 BK877.out) (fun hHeld => ?_)
                clear hK K
                refine HW.nz (N := (some 31)) ?_
                refine HW.pz (i := 7) (N := some 24) #[tt,tt,tt,tt,tt,tt,tt,tt,ff,ff,ff,tt,ff,ff,ff] ?_ (hc := any_of HT_.out (by kernel_rfl))
                refine HW.pz (i := 8) (N := some 32) #[tt,tt,tt,tt,tt,tt,tt,tt,tt,ff,ff,tt,ff,ff,ff] ?_ (hc := any_of HT_.out (by kernel_rfl))
                refine HW.pz (i := 9) (N := some 33) #[tt,tt,tt,tt,tt,tt,tt,tt,tt,tt,ff,tt,ff,ff,ff] ?_ (hc := any_of HT_.out (by kernel_rfl))
                refine HW.pz (i := 10) (N := some 34) #[tt,tt,tt,tt,tt,tt,tt,tt,tt,tt,tt,tt,ff,ff,ff] ?_ (hc := any_of HT_.out (by kernel_rfl))
                exact norm_ (by simp only [putAll, Act.put, List.setIfInBounds_toArray, List.set_cons_zero, List.set_cons_succ, errW_none]) (hCont (v881, .slice Ao31 y883.length co31, v893, v896, v899, gb902) _ ⟨hHeld, (Kd.R_mono (HW.zR HO885.out) (fun _ _ => trivial)), (Kd.R_mono (HW.zR HO894.out) (fun _ _ => trivial)), (Kd.R_mono (HW.zR HO897.out) (fun _ _ => trivial)), (Kd.R_mono (HW.zR HO900.out) (fun _ _ => trivial)), (HW.zB BK877.out), (HW.zB BK902.out), GW902.out, GE902.out, NB877_902.out, NB902_877.out, HW.zb⟩)
              skip
              refine box_step ?hg (N := 5) ?hd (cs := #[.int .i64 0, .string (⟨#[]⟩ : ByteArray), .string (⟨#[]⟩ : ByteArray), .int .i64 0, .int .u64 0, .int .u64 0, .slice none 0 0, .slice none 0 0]) (t := 44) ?hr ?_; (case hd => rfl); (case hg => rfl); (case hr => first | (go_simp; done) | (go_simp; rfl))
              intro gb902 hg w28 hbox hb
              have n0_ := Aside0.mk (blk_below (HW.zB BK877.out) hb); have n1_ := Aside0.mk (below_step HW.zb hb); have n2_ := Aside0.mk (hbox)
              have n3_ := Aside0.mk ((by rw [hg]; exact (below_size HW.zb) : w.heap.size ≤ gb902))
              have n4_ := Aside0.mk ((by rw [hg]; exact (below_size HW.zb) : w.heap.size ≤ gb902))
              have n5_ := Aside0.mk ((by rw [hg]; exact Nat.ne_of_lt (blk_lt (g := gb877) (o := .cells #[.int .i64 a0_0, .string a0_1, .string a0_2, .int .i64 a0_3, .int .u64 a0_4, .int .u64 a0_5, .slice A0_6 l0_6.length c0_6, .slice A0_7 l0_7.length c0_7] 44 (0, 0)) (HW.zB BK877.out)) : gb877 ≠ gb902))
              have n6_ := Aside0.mk ((by rw [hg]; exact Nat.ne_of_gt (blk_lt (g := gb877) (o := .cells #[.int .i64 a0_0, .string a0_1, .string a0_2, .int .i64 a0_3, .int .u64 a0_4, .int .u64 a0_5, .slice A0_6 l0_6.length c0_6, .slice A0_7 l0_7.length c0_7] 44 (0, 0)) (HW.zB BK877.out)) : gb902 ≠ gb877))
              clear BK877; clear HB; have BK877 := n0_; have HB := n1_; have BK902 := n2_; have GW902 := n3_; have GE902 := n4_; have NB877_902 := n5_; have NB902_877 := n6_; clear n0_ n1_ n2_ n3_ n4_ n5_ n6_; clear hb hbox hg
              refine hK.out _ _ (HW.k8 BK877.out) (fun hHeld => ?_)
              clear hK K
              refine HW.nz (N := (some 5)) ?_
              refine one_ (i := 3) (N := some 28) #[tt,tt,tt,tt,tt,ff,ff,ff,ff,ff,ff,tt,ff,ff,ff] rfl rfl (one_of HT_.out (by kernel_rfl)) (by decide) (fun K hK => ?_)
              refine goes_ Tryz.func33 (by kernel_rfl) rfl #[.agg #[.int .i64 a0_0, .string a0_1, .string a0_2, .int .i64 a0_3, .int .u64 a0_4, .int .u64 a0_5, .slice A0_6 l0_6.length c0_6, .slice A0_7 l0_7.length c0_7]] (by rfl) rfl rfl HW.mt ?_
              with_reducible refine (spec_DocValue.calls kj11 a0_0 a0_1 a0_2 a0_3 a0_4 a0_5 _ _ l0_6 _ _ l0_7 t880 _ ?side1 ?side2 ?side3 ?side4 A18.out).mono ?_
              (case side1 => repeat (first | exact (Kd.C_below HR0_6.out HB.out) | (with_reducible refine Kd.C_alloc ?_ _) | (with_reducible refine Kd.C_drewN ?_ _) | (with_reducible refine Kd.C_drew ?_)))
              (case side2 => exact HC0_6.out)
              (case side3 => repeat (first | exact (Kd.C_below HR0_7.out HB.out) | (with_reducible refine Kd.C_alloc ?_ _) | (with_reducible refine Kd.C_drewN ?_ _) | (with_reducible refine Kd.C_drew ?_)))
              (case side4 => exact HC0_7.out)
              rintro e w29 ⟨v881, rfl, ho0, hb⟩
              refine ⟨_, rfl, ?_⟩
              have HO882 := Aside0.mk (Kd.R_lower ho0 (below_size HW.zb)); replace BK877 := Aside0.mk (blk_below (HW.zB BK877.out) hb); replace BK902 := Aside0.mk (blk_below (g := gb902) (o := .cells #[.int .i64 0, .string (⟨#[]⟩ : ByteArray), .string (⟨#[]⟩ : ByteArray), .int .i64 0, .int .u64 0, .int .u64 0, .slice none 0 0, .slice none 0 0] 44 (0, 0)) (HW.zB BK902.out) hb); replace HB := Aside0.mk (below_step HW.zb hb)
              (try clear hb)
              (try clear ho0)
              refine hK.out _ _ (HW.k8 BK877.out) (fun hHeld => ?_)
              clear hK K
              refine HW.nz (N := (some 28)) ?_
              refine one_ (i := 5) (N := some 30) #[tt,tt,tt,tt,tt,tt,ff,ff,ff,ff,ff,tt,ff,ff,ff] rfl rfl (one_of HT_.out (by kernel_rfl)) (by decide) (fun K hK => ?_)
              refine Kd.R_append_rows_step (Kd.int .u8) (w0 := w) w.heap.size (by rfl) (.tmp 28) (.tmp 29) 22 5 (.int .u8 0) 1 rfl Tryz.underlying22 info5 rfl (by decide) (by omega) v881 t880 l1 _ _ _ (fun _ => True) (fun _ => False) rfl rfl ?aO ?aR (fun _ _ h => h) (fun _ h => h.elim) ?aF ?aB ?aS ?aL ?_
              (case aR => repeat (first | exact (Kd.C_below HR1.out HB.out) | (with_reducible refine Kd.C_alloc ?_ _) | (with_reducible refine Kd.C_drewN ?_ _) | (with_reducible refine Kd.C_drew ?_)))
              (case aB => exact HW.zb)
              (case aF => exact (fun _ _ => trivial))
              (case aO => exact (HW.zR HO882.out))
              (case aS => exact (below_size HW.zb))
              (case aL => have := LMc19.out; omega)
              intro v884 w30 ho hb hg hat
              rw [← Ny883.out] at ho
              have n0_ := Aside0.mk (blk_grown (g := gb877) (o := .cells #[.int .i64 a0_0, .string a0_1, .string a0_2, .int .i64 a0_3, .int .u64 a0_4, .int .u64 a0_5, .slice A0_6 l0_6.length c0_6, .slice A0_7 l0_7.length c0_7] 44 (0, 0)) (HW.zB BK877.out) hg (Kd.R_ne HO882.out BK877.out (by decide)))
              have n1_ := Aside0.mk (blk_grown (g := gb902) (o := .cells #[.int .i64 0, .string (⟨#[]⟩ : ByteArray), .string (⟨#[]⟩ : ByteArray), .int .i64 0, .int .u64 0, .int .u64 0, .slice none 0 0, .slice none 0 0] 44 (0, 0)) (HW.zB BK902.out) hg (Kd.R_ne HO882.out BK902.out (by decide)))
              have n2_ := Aside0.mk (hb); have n3_ := Aside0.mk (ho); clear BK877; clear BK902; clear HB; clear HO882; have BK877 := n0_; have BK902 := n1_; have HB := n2_; have HO885 := n3_; clear n0_ n1_ n2_ n3_; clear ho hb hg hat; obtain ⟨Ao31, co31, eo31⟩ := Kd.R_slice HO885.out
              (first | subst eo31 | (injection eo31 with f1_ f2_ f3_; have f4_ := f1_.symm; have f5_ := f3_.symm; clear f1_ f2_ f3_; subst f4_; subst f5_))
              refine hK.out _ _ (HW.k8 BK877.out) (fun hHeld => ?_)
              clear hK K
              refine HW.nz (N := (some 30)) ?_
              refine one_ (i := 6) (N := some 31) #[tt,tt,tt,tt,tt,tt,tt,ff,ff,ff,ff,tt,ff,ff,ff] rfl rfl (one_of HT_.out (by kernel_rfl)) (by decide) (fun K hK => ?_)
              refine goes_ Tryz.func34 (by kernel_rfl) rfl #[.int .i64 a0_0, .slice Ao31 y883.length co31] (by rfl) rfl rfl HW.mt ?_
              with_reducible refine (impl_Read.calls kj11 a0_0 _ _ y883 t886 t887 t888 t889 t890 t891 t892 t895 t898 true _ ?side1 ?side2 A20.out).mono ?_
              (case side1 => repeat (first | exact (Kd.R_reads' HO885.out).2.2 | (with_reducible refine Kd.C_alloc ?_ _) | (with_reducible refine Kd.C_drewN ?_ _) | (with_reducible refine Kd.C_drew ?_)))
              (case side2 => exact (Kd.R_reads' HO885.out).2.1)
              rintro e w32 ⟨v893, v896, v899, rfl, ho0, ho1, ho2, hb⟩
              refine ⟨_, rfl, ?_⟩
              replace HO885 := Aside0.mk (Kd.R_below (HW.zR HO885.out) hb); have HO894 := Aside0.mk (Kd.R_lower ho0 (below_size HW.zb)); have HO897 := Aside0.mk (Kd.R_lower ho1 (below_size HW.zb)); have HO900 := Aside0.mk (Kd.R_lower ho2 (below_size HW.zb)); replace BK877 := Aside0.mk (blk_below (HW.zB BK877.out) hb); replace BK902 := Aside0.mk (blk_below (g := gb902) (o := .cells #[.int .i64 0, .string (⟨#[]⟩ : ByteArray), .string (⟨#[]⟩ : ByteArray), .int .i64 0, .int .u64 0, .int .u64 0, .slice none 0 0, .slice none 0 0] 44 (0, 0)) (HW.zB BK902.out) hb); replace HB := Aside0.mk (below_step HW.zb hb)
              (try clear hb)
              (try clear ho0)
              (try clear ho1)
              (try clear ho2)
              refine hK.out _ _ (HW.k8 BK877.out) (fun hHeld => ?_)
              clear hK K
              refine HW.nz (N := (some 31)) ?_
              refine HW.pz (i := 7) (N := some 24) #[tt,tt,tt,tt,tt,tt,tt,tt,ff,ff,ff,tt,ff,ff,ff] ?_ (hc := any_of HT_.out (by kernel_rfl))
              refine HW.pz (i := 8) (N := some 32) #[tt,tt,tt,tt,tt,tt,tt,tt,tt,ff,ff,tt,ff,ff,ff] ?_ (hc := any_of HT_.out (by kernel_rfl))
              refine HW.pz (i := 9) (N := some 33) #[tt,tt,tt,tt,tt,tt,tt,tt,tt,tt,ff,tt,ff,ff,ff] ?_ (hc := any_of HT_.out (by kernel_rfl))
              refine HW.pz (i := 10) (N := some 34) #[tt,tt,tt,tt,tt,tt,tt,tt,tt,tt,tt,tt,ff,ff,ff] ?_ (hc := any_of HT_.out (by kernel_rfl))
              exact norm_ (by simp only [putAll, Act.put, List.setIfInBounds_toArray, List.set_cons_zero, List.set_cons_succ, errW_none]) (hCont (v881, .slice Ao31 y883.length co31, v893, v896, v899, gb902) _ ⟨hHeld, (Kd.R_mono (HW.zR HO885.out) (fun _ _ => trivial)), (Kd.R_mono (HW.zR HO894.out) (fun _ _ => trivial)), (Kd.R_mono (HW.zR HO897.out) (fun _ _ => trivial)), (Kd.R_mono (HW.zR HO900.out) (fun _ _ => trivial)), (HW.zB BK877.out), (HW.zB BK902.out), GW902.out, GE902.out, NB877_902.out, NB902_877.out, HW.zb⟩)
            rintro ⟨v881, v884, v893, v896, v899, gb902⟩ w33 ⟨hS_, h0_, h1_, h2_, h3_, h4_, h5_, h6_, h7_, h8_, h9_, h10_⟩
            have n0_ : Aside0 (Kd.R (Kd.int .u8) 5 w33 w.heap.size (fun _ => True) v884 y883) := ⟨h0_⟩; have n1_ : Aside0 (Kd.R (Kd.int .u8) 5 w33 w.heap.size (fun _ => True) v893 t892) := ⟨h1_⟩; have n2_ : Aside0 (Kd.R k95 95 w33 w.heap.size (fun _ => True) v896 t895) := ⟨h2_⟩; have n3_ : Aside0 (Kd.R (Kd.int .u8) 5 w33 w.heap.size (fun _ => True) v899 t898) := ⟨h3_⟩; have n4_ : Aside0 (w33.heap[gb877]? = some (.cells #[.int .i64 a0_0, .string a0_1, .string a0_2, .int .i64 a0_3, .int .u64 a0_4, .int .u64 a0_5, .slice A0_6 l0_6.length c0_6, .slice A0_7 l0_7.length c0_7] 44 (0, 0))) := ⟨h4_⟩; have n5_ : Aside0 (w33.heap[gb902]? = some (.cells #[.int .i64 0, .string (⟨#[]⟩ : ByteArray), .string (⟨#[]⟩ : ByteArray), .int .i64 0, .int .u64 0, .int .u64 0, .slice none 0 0, .slice none 0 0] 44 (0, 0))) := ⟨h5_⟩; have n6_ : Aside0 (w.heap.size ≤ gb902) := ⟨h6_⟩; have n7_ : Aside0 (w.heap.size ≤ gb902) := ⟨h7_⟩; have n8_ : Aside0 (gb877 ≠ gb902) := ⟨h8_⟩; have n9_ : Aside0 (gb902 ≠ gb877) := ⟨h9_⟩; have n10_ : Aside0 (Below w.heap.size w w33) := ⟨h10_⟩; clear BK877; clear HB; clear h0_ h1_ h2_ h3_ h4_ h5_ h6_ h7_ h8_ h9_ h10_; have HO885 := n0_; have HO894 := n1_; have HO897 := n2_; have HO900 := n3_; have BK877 := n4_; have BK902 := n5_; have GW902 := n6_; have GE902 := n7_; have NB877_902 := n8_; have NB902_877 := n9_; have HB := n10_; clear n0_ n1_ n2_ n3_ n4_ n5_ n6_ n7_ n8_ n9_ n10_
            have hHeld : w33.cell? ⟨gb877, 0, none⟩ = some (.int .i64 a0_0) ∧ w33.cell? ⟨gb877, 1, none⟩ = some (.string a0_1) ∧ w33.cell? ⟨gb877, 2, none⟩ = some (.string a0_2) ∧ w33.cell? ⟨gb877, 3, none⟩ = some (.int .i64 a0_3) ∧ w33.cell? ⟨gb877, 4, none⟩ = some (.int .u64 a0_4) ∧ w33.cell? ⟨gb877, 5, none⟩ = some (.int .u64 a0_5) ∧ w33.cell? ⟨gb877, 6, none⟩ = some (.slice A0_6 l0_6.length c0_6) ∧ w33.cell? ⟨gb877, 7, none⟩ = some (.slice A0_7 l0_7.length c0_7) := hS_; obtain ⟨Ao40, co40, eo40⟩ := Kd.R_slice HO894.out
            (first | subst eo40 | (injection eo40 with f1_ f2_ f3_; have f4_ := f1_.symm; have f5_ := f3_.symm; clear f1_ f2_ f3_; subst f4_; subst f5_))
            obtain ⟨Ao42, co42, eo42⟩ := Kd.R_slice HO897.out
            (first | subst eo42 | (injection eo42 with f1_ f2_ f3_; have f4_ := f1_.symm; have f5_ := f3_.symm; clear f1_ f2_ f3_; subst f4_; subst f5_))
            refine norm_ (a' := ?_) ?_ ?_
            rotate_left
            · simp only [putAll, Act.put, List.setIfInBounds_toArray, List.set_cons_zero, List.set_cons_succ, errW_none]
              rfl
            refine one_ (i := 12) (N := none) #[tt,tt,tt,tt,tt,tt,tt,tt,tt,tt,tt,tt,tt,ff,ff] rfl rfl (one_of HT_.out (by kernel_rfl)) (by decide) (fun K hK => ?_)
            have hs34 : w33.cell? ⟨gb902, 0, none⟩ = some (.int .i64 0) := (blk_cell BK902.out 0).trans rfl; have hfs34 := blk_frozen BK902.out 0; have hns34_0 := NB877_902.out; have hms34_0 := NB902_877.out; have hs35 : w33.cell? ⟨gb902, 1, none⟩ = some (.string (⟨#[]⟩ : ByteArray)) := (blk_cell BK902.out 1).trans rfl; have hfs35 := blk_frozen BK902.out 1; have hns35_0 := NB877_902.out; have hms35_0 := NB902_877.out; have hs36 : w33.cell? ⟨gb902, 2, none⟩ = some (.string (⟨#[]⟩ : ByteArray)) := (blk_cell BK902.out 2).trans rfl; have hfs36 := blk_frozen BK902.out 2; have hns36_0 := NB877_902.out; have hms36_0 := NB902_877.out; have hs37 : w33.cell? ⟨gb902, 3, none⟩ = some (.int .i64 0) := (blk_cell BK902.out 3).trans rfl; have hfs37 := blk_frozen BK902.out 3; have hns37_0 := NB877_902.out; have hms37_0 := NB902_877.out; have hs38 : w33.cell? ⟨gb902, 4, none⟩ = some (.int .u64 0) := (blk_cell BK902.out 4).trans rfl; have hfs38 := blk_frozen BK902.out 4; have hns38_0 := NB877_902.out; have hms38_0 := NB902_877.out; have hs39 : w33.cell? ⟨gb902, 5, none⟩ = some (.int .u64 0) := (blk_cell BK902.out 5).trans rfl; have hfs39 := blk_frozen BK902.out 5; have hns39_0 := NB877_902.out; have hms39_0 := NB902_877.out; have hs41 : w33.cell? ⟨gb902, 6, none⟩ = some (.slice none 0 0) := (blk_cell BK902.out 6).trans rfl; have hfs41 := blk_frozen BK902.out 6; have hns41_0 := NB877_902.out; have hms41_0 := NB902_877.out
            have hs43 : w33.cell? ⟨gb902, 7, none⟩ = some (.slice none 0 0) := (blk_cell BK902.out 7).trans rfl; have hfs43 := blk_frozen BK902.out 7; have hns43_0 := NB877_902.out; have hms43_0 := NB902_877.out
            refine skip_ (w1 := ?_) (by rfl) rfl ?_ ?_
            rotate_left
            · go_simp
              rfl
            refine hK.out _ _ ⟨((cell_far (p := ⟨gb902, _, none⟩) NB877_902.out _).trans (((cell_far (p := ⟨gb902, _, none⟩) NB877_902.out _).trans (((cell_far (p := ⟨gb902, _, none⟩) NB877_902.out _).trans (((cell_far (p := ⟨gb902, _, none⟩) NB877_902.out _).trans (((cell_far (p := ⟨gb902, _, none⟩) NB877_902.out _).trans (((cell_far (p := ⟨gb902, _, none⟩) NB877_902.out _).trans (((cell_far (p := ⟨gb902, _, none⟩) NB877_902.out _).trans (((cell_far (p := ⟨gb902, _, none⟩) NB877_902.out _).trans (hHeld.1)))))))))))))))), ((cell_far (p := ⟨gb902, _, none⟩) NB877_902.out _).trans (((cell_far (p := ⟨gb902, _, none⟩) NB877_902.out _).trans (((cell_far (p := ⟨gb902, _, none⟩) NB877_902.out _).trans (((cell_far (p := ⟨gb902, _, none⟩) NB877_902.out _).trans (((cell_far (p := ⟨gb902, _, none⟩) NB877_902.out _).trans (((cell_far (p := ⟨gb902, _, none⟩) NB877_902.out _).trans (((cell_far (p := ⟨gb902, _, none⟩) NB877_902.out _).trans (((cell_far (p := ⟨gb902, _, none⟩) NB877_902.out _).trans (hHeld.2.1)))))))))))))))), ((cell_far (p := ⟨gb902, _, none⟩) NB877_902.out _).trans (((cell_far (p := ⟨gb902, _, none⟩) NB877_902.out _).trans (((cell_far (p := ⟨gb902, _, none⟩) NB877_902.out _).trans (((cell_far (p := ⟨gb902, _, none⟩) NB877_902.out _).trans (((cell_far (p := ⟨gb902, _, none⟩) NB877_902.out _).trans (((cell_far (p := ⟨gb902, _, none⟩) NB877_902.out _).trans (((cell_far (p := ⟨gb902, _, none⟩) NB877_902.out _).trans (((cell_far (p := ⟨gb902, _, none⟩) NB877_902.out _).trans (hHeld.2.2.1)))))))))))))))), ((cell_far (p := ⟨gb902, _, none⟩) NB877_902.out _).trans (((cell_far (p := ⟨gb902, _, none⟩) NB877_902.out _).trans (((cell_far (p := ⟨gb902, _, none⟩) NB877_902.out _).trans (((cell_far (p := ⟨gb902, _, none⟩) NB877_902.out _).trans (((cell_far (p := ⟨gb902, _, none⟩) NB877_902.out _).trans (((cell_far (p := ⟨gb902, _, none⟩) NB877_902.out _).trans (((cell_far (p := ⟨gb902, _, none⟩) NB877_902.out _).trans (((cell_far (p := ⟨gb902, _, none⟩) NB877_902.out _).trans (hHeld.2.2.2.1)))))))))))))))), ((cell_far (p := ⟨gb902, _, none⟩) NB877_902.out _).trans (((cell_far (p := ⟨gb902, _, none⟩) NB877_902.out _).trans (((cell_far (p := ⟨gb902, _, none⟩) NB877_902.out _).trans (((cell_far (p := ⟨gb902, _, none⟩) NB877_902.out _).trans (((cell_far (p := ⟨gb902, _, none⟩) NB877_902.out _).trans (((cell_far (p := ⟨gb902, _, none⟩) NB877_902.out _).trans (((cell_far (p := ⟨gb902, _, none⟩) NB877_902.out _).trans (((cell_far (p := ⟨gb902, _, none⟩) NB877_902.out _).trans (hHeld.2.2.2.2.1)))))))))))))))), ((cell_far (p := ⟨gb902, _, none⟩) NB877_902.out _).trans (((cell_far (p := ⟨gb902, _, none⟩) NB877_902.out _).trans (((cell_far (p := ⟨gb902, _, none⟩) NB877_902.out _).trans (((cell_far (p := ⟨gb902, _, none⟩) NB877_902.out _).trans (((cell_far (p := ⟨gb902, _, none⟩) NB877_902.out _).trans (((cell_far (p := ⟨gb902, _, none⟩) NB877_902.out _).trans (((cell_far (p := ⟨gb902, _, none⟩) NB877_902.out _).trans (((cell_far (p := ⟨gb902, _, none⟩) NB877_902.out _).trans (hHeld.2.2.2.2.2.1)))))))))))))))), ((cell_far (p := ⟨gb902, _, none⟩) NB877_902.out _).trans (((cell_far (p := ⟨gb902, _, none⟩) NB877_902.out _).trans (((cell_far (p := ⟨gb902, _, none⟩) NB877_902.out _).trans (((cell_far (p := ⟨gb902, _, none⟩) NB877_902.out _).trans (((cell_far (p := ⟨gb902, _, none⟩) NB877_902.out _).trans (((cell_far (p := ⟨gb902, _, none⟩) NB877_902.out _).trans (((cell_far (p := ⟨gb902, _, none⟩) NB877_902.out _).trans (((cell_far (p := ⟨gb902, _, none⟩) NB877_902.out _).trans (hHeld.2.2.2.2.2.2.1)))))))))))))))), ((cell_far (p := ⟨gb902, _, none⟩) NB877_902.out _).trans (((cell_far (p := ⟨gb902, _, none⟩) NB877_902.out _).trans (((cell_far (p := ⟨gb902, _, none⟩) NB877_902.out _).trans (((cell_far (p := ⟨gb902, _, none⟩) NB877_902.out _).trans (((cell_far (p := ⟨gb902, _, none⟩) NB877_902.out _).trans (((cell_far (p := ⟨gb902, _, none⟩) NB877_902.out _).trans (((cell_far (p := ⟨gb902, _, none⟩) NB877_902.out _).trans (((cell_far (p := ⟨gb902, _, none⟩) NB877_902.out _).trans (hHeld.2.2.2.2.2.2.2))))))))))))))))⟩ (fun hHeld => ?_)
            clear hK K
            refine HW.pz (i := 13) (N := some 6) #[tt,tt,tt,tt,tt,tt,tt,tt,tt,tt,tt,tt,tt,tt,ff] ?_ (hc := any_of HT_.out (by kernel_rfl))
            refine HW.pz (i := 14) (N := some 7) #[tt,tt,tt,tt,tt,tt,tt,tt,tt,tt,tt,tt,tt,tt,tt] ?_ (hc := any_of HT_.out (by kernel_rfl))
            refine done_ (done_of HT_.out (by kernel_rfl)) ?_
            try go_wp2
            have n0_ : Aside0 (Kd.R (Kd.int .u8) 5 ((((((((w33.setCell ⟨gb902, 0, none⟩ (.int .i64 t886)).setCell ⟨gb902, 1, none⟩ (.string t887)).setCell ⟨gb902, 2, none⟩ (.string t888)).setCell ⟨gb902, 3, none⟩ (.int .i64 t889)).setCell ⟨gb902, 4, none⟩ (.int .u64 t890)).setCell ⟨gb902, 5, none⟩ (.int .u64 t891)).setCell ⟨gb902, 6, none⟩ (.slice Ao40 t892.length co40)).setCell ⟨gb902, 7, none⟩ (.slice Ao42 t895.length co42)) w.heap.size (fun _ => True) v884 y883) := ⟨by (with_reducible repeat (first | apply Kd.R_alloc | apply Kd.R_drewN | apply Kd.R_drew)); exact Kd.R_mono (Kd.R_far (p := ⟨gb902, 7, none⟩) (Kd.R_far (p := ⟨gb902, 6, none⟩) (Kd.R_far (p := ⟨gb902, 5, none⟩) (Kd.R_far (p := ⟨gb902, 4, none⟩) (Kd.R_far (p := ⟨gb902, 3, none⟩) (Kd.R_far (p := ⟨gb902, 2, none⟩) (Kd.R_far (p := ⟨gb902, 1, none⟩) (Kd.R_far (p := ⟨gb902, 0, none⟩) (Kd.R_types HO885.out BK902.out (by decide)) (fun _ hk => hk.2) (.int .i64 t886)) (fun _ hk => hk.2) (.string t887)) (fun _ hk => hk.2) (.string t888)) (fun _ hk => hk.2) (.int .i64 t889)) (fun _ hk => hk.2) (.int .u64 t890)) (fun _ hk => hk.2) (.int .u64 t891)) (fun _ hk => hk.2) (.slice Ao40 t892.length co40)) (fun _ hk => hk.2) (.slice Ao42 t895.length co42)) (fun _ hk => trivial)⟩
            have n1_ : Aside0 (Kd.R (Kd.int .u8) 5 ((((((((w33.setCell ⟨gb902, 0, none⟩ (.int .i64 t886)).setCell ⟨gb902, 1, none⟩ (.string t887)).setCell ⟨gb902, 2, none⟩ (.string t888)).setCell ⟨gb902, 3, none⟩ (.int .i64 t889)).setCell ⟨gb902, 4, none⟩ (.int .u64 t890)).setCell ⟨gb902, 5, none⟩ (.int .u64 t891)).setCell ⟨gb902, 6, none⟩ (.slice Ao40 t892.length co40)).setCell ⟨gb902, 7, none⟩ (.slice Ao42 t895.length co42)) w.heap.size (fun _ => True) (.slice Ao40 t892.length co40) t892) := ⟨by (with_reducible repeat (first | apply Kd.R_alloc | apply Kd.R_drewN | apply Kd.R_drew)); exact Kd.R_mono (Kd.R_far (p := ⟨gb902, 7, none⟩) (Kd.R_far (p := ⟨gb902, 6, none⟩) (Kd.R_far (p := ⟨gb902, 5, none⟩) (Kd.R_far (p := ⟨gb902, 4, none⟩) (Kd.R_far (p := ⟨gb902, 3, none⟩) (Kd.R_far (p := ⟨gb902, 2, none⟩) (Kd.R_far (p := ⟨gb902, 1, none⟩) (Kd.R_far (p := ⟨gb902, 0, none⟩) (Kd.R_types HO894.out BK902.out (by decide)) (fun _ hk => hk.2) (.int .i64 t886)) (fun _ hk => hk.2) (.string t887)) (fun _ hk => hk.2) (.string t888)) (fun _ hk => hk.2) (.int .i64 t889)) (fun _ hk => hk.2) (.int .u64 t890)) (fun _ hk => hk.2) (.int .u64 t891)) (fun _ hk => hk.2) (.slice Ao40 t892.length co40)) (fun _ hk => hk.2) (.slice Ao42 t895.length co42)) (fun _ hk => trivial)⟩
            have n2_ : Aside0 (Kd.R k95 95 ((((((((w33.setCell ⟨gb902, 0, none⟩ (.int .i64 t886)).setCell ⟨gb902, 1, none⟩ (.string t887)).setCell ⟨gb902, 2, none⟩ (.string t888)).setCell ⟨gb902, 3, none⟩ (.int .i64 t889)).setCell ⟨gb902, 4, none⟩ (.int .u64 t890)).setCell ⟨gb902, 5, none⟩ (.int .u64 t891)).setCell ⟨gb902, 6, none⟩ (.slice Ao40 t892.length co40)).setCell ⟨gb902, 7, none⟩ (.slice Ao42 t895.length co42)) w.heap.size (fun _ => True) (.slice Ao42 t895.length co42) t895) := ⟨by (with_reducible repeat (first | apply Kd.R_alloc | apply Kd.R_drewN | apply Kd.R_drew)); exact Kd.R_mono (Kd.R_far (p := ⟨gb902, 7, none⟩) (Kd.R_far (p := ⟨gb902, 6, none⟩) (Kd.R_far (p := ⟨gb902, 5, none⟩) (Kd.R_far (p := ⟨gb902, 4, none⟩) (Kd.R_far (p := ⟨gb902, 3, none⟩) (Kd.R_far (p := ⟨gb902, 2, none⟩) (Kd.R_far (p := ⟨gb902, 1, none⟩) (Kd.R_far (p := ⟨gb902, 0, none⟩) (Kd.R_types HO897.out BK902.out (by decide)) (fun _ hk => hk.2) (.int .i64 t886)) (fun _ hk => hk.2) (.string t887)) (fun _ hk => hk.2) (.string t888)) (fun _ hk => hk.2) (.int .i64 t889)) (fun _ hk => hk.2) (.int .u64 t890)) (fun _ hk => hk.2) (.int .u64 t891)) (fun _ hk => hk.2) (.slice Ao40 t892.length co40)) (fun _ hk => hk.2) (.slice Ao42 t895.length co42)) (fun _ hk => trivial)⟩
            have n3_ : Aside0 (Kd.R (Kd.int .u8) 5 ((((((((w33.setCell ⟨gb902, 0, none⟩ (.int .i64 t886)).setCell ⟨gb902, 1, none⟩ (.string t887)).setCell ⟨gb902, 2, none⟩ (.string t888)).setCell ⟨gb902, 3, none⟩ (.int .i64 t889)).setCell ⟨gb902, 4, none⟩ (.int .u64 t890)).setCell ⟨gb902, 5, none⟩ (.int .u64 t891)).setCell ⟨gb902, 6, none⟩ (.slice Ao40 t892.length co40)).setCell ⟨gb902, 7, none⟩ (.slice Ao42 t895.length co42)) w.heap.size (fun _ => True) v899 t898) := ⟨by (with_reducible repeat (first | apply Kd.R_alloc | apply Kd.R_drewN | apply Kd.R_drew)); exact Kd.R_mono (Kd.R_far (p := ⟨gb902, 7, none⟩) (Kd.R_far (p := ⟨gb902, 6, none⟩) (Kd.R_far (p := ⟨gb902, 5, none⟩) (Kd.R_far (p := ⟨gb902, 4, none⟩) (Kd.R_far (p := ⟨gb902, 3, none⟩) (Kd.R_far (p := ⟨gb902, 2, none⟩) (Kd.R_far (p := ⟨gb902, 1, none⟩) (Kd.R_far (p := ⟨gb902, 0, none⟩) (Kd.R_types HO900.out BK902.out (by decide)) (fun _ hk => hk.2) (.int .i64 t886)) (fun _ hk => hk.2) (.string t887)) (fun _ hk => hk.2) (.string t888)) (fun _ hk => hk.2) (.int .i64 t889)) (fun _ hk => hk.2) (.int .u64 t890)) (fun _ hk => hk.2) (.int .u64 t891)) (fun _ hk => hk.2) (.slice Ao40 t892.length co40)) (fun _ hk => hk.2) (.slice Ao42 t895.length co42)) (fun _ hk => trivial)⟩
            have n4_ : Aside0 (((((((((w33.setCell ⟨gb902, 0, none⟩ (.int .i64 t886)).setCell ⟨gb902, 1, none⟩ (.string t887)).setCell ⟨gb902, 2, none⟩ (.string t888)).setCell ⟨gb902, 3, none⟩ (.int .i64 t889)).setCell ⟨gb902, 4, none⟩ (.int .u64 t890)).setCell ⟨gb902, 5, none⟩ (.int .u64 t891)).setCell ⟨gb902, 6, none⟩ (.slice Ao40 t892.length co40)).setCell ⟨gb902, 7, none⟩ (.slice Ao42 t895.length co42)).heap[gb877]? = some (.cells #[.int .i64 a0_0, .string a0_1, .string a0_2, .int .i64 a0_3, .int .u64 a0_4, .int .u64 a0_5, .slice A0_6 l0_6.length c0_6, .slice A0_7 l0_7.length c0_7] 44 (0, 0))) := ⟨by (with_reducible repeat (first | refine blk_drewN ?_ _ | refine blk_drew ?_ | refine blk_alloc ?_ _)); refine blk_far ?_ NB877_902.out _; (with_reducible repeat (first | refine blk_drewN ?_ _ | refine blk_drew ?_ | refine blk_alloc ?_ _)); refine blk_far ?_ NB877_902.out _; (with_reducible repeat (first | refine blk_drewN ?_ _ | refine blk_drew ?_ | refine blk_alloc ?_ _)); refine blk_far ?_ NB877_902.out _; (with_reducible repeat (first | refine blk_drewN ?_ _ | refine blk_drew ?_ | refine blk_alloc ?_ _)); refine blk_far ?_ NB877_902.out _; (with_reducible repeat (first | refine blk_drewN ?_ _ | refine blk_drew ?_ | refine blk_alloc ?_ _)); refine blk_far ?_ NB877_902.out _; (with_reducible repeat (first | refine blk_drewN ?_ _ | refine blk_drew ?_ | refine blk_alloc ?_ _)); refine blk_far ?_ NB877_902.out _; (with_reducible repeat (first | refine blk_drewN ?_ _ | refine blk_drew ?_ | refine blk_alloc ?_ _)); refine blk_far ?_ NB877_902.out _; (with_reducible repeat (first | refine blk_drewN ?_ _ | refine blk_drew ?_ | refine blk_alloc ?_ _)); refine blk_far ?_ NB877_902.out _; (with_reducible repeat (first | refine blk_drewN ?_ _ | refine blk_drew ?_ | refine blk_alloc ?_ _)); exact BK877.out⟩
            have n5_ : Aside0 (((((((((w33.setCell ⟨gb902, 0, none⟩ (.int .i64 t886)).setCell ⟨gb902, 1, none⟩ (.string t887)).setCell ⟨gb902, 2, none⟩ (.string t888)).setCell ⟨gb902, 3, none⟩ (.int .i64 t889)).setCell ⟨gb902, 4, none⟩ (.int .u64 t890)).setCell ⟨gb902, 5, none⟩ (.int .u64 t891)).setCell ⟨gb902, 6, none⟩ (.slice Ao40 t892.length co40)).setCell ⟨gb902, 7, none⟩ (.slice Ao42 t895.length co42)).heap[gb902]? = some (.cells #[.int .i64 t886, .string t887, .string t888, .int .i64 t889, .int .u64 t890, .int .u64 t891, .slice Ao40 t892.length co40, .slice Ao42 t895.length co42] 44 (0, 0))) := ⟨by (with_reducible repeat (first | refine blk_drewN ?_ _ | refine blk_drew ?_ | refine blk_alloc ?_ _)); refine blk_put (cs := #[.int .i64 t886, .string t887, .string t888, .int .i64 t889, .int .u64 t890, .int .u64 t891, .slice Ao40 t892.length co40, .slice none 0 0]) ?_ 7 _ rfl; (with_reducible repeat (first | refine blk_drewN ?_ _ | refine blk_drew ?_ | refine blk_alloc ?_ _)); refine blk_put (cs := #[.int .i64 t886, .string t887, .string t888, .int .i64 t889, .int .u64 t890, .int .u64 t891, .slice none 0 0, .slice none 0 0]) ?_ 6 _ rfl; (with_reducible repeat (first | refine blk_drewN ?_ _ | refine blk_drew ?_ | refine blk_alloc ?_ _)); refine blk_put (cs := #[.int .i64 t886, .string t887, .string t888, .int .i64 t889, .int .u64 t890, .int .u64 0, .slice none 0 0, .slice none 0 0]) ?_ 5 _ rfl; (with_reducible repeat (first | refine blk_drewN ?_ _ | refine blk_drew ?_ | refine blk_alloc ?_ _)); refine blk_put (cs := #[.int .i64 t886, .string t887, .string t888, .int .i64 t889, .int .u64 0, .int .u64 0, .slice none 0 0, .slice none 0 0]) ?_ 4 _ rfl; (with_reducible repeat (first | refine blk_drewN ?_ _ | refine blk_drew ?_ | refine blk_alloc ?_ _)); refine blk_put (cs := #[.int .i64 t886, .string t887, .string t888, .int .i64 0, .int .u64 0, .int .u64 0, .slice none 0 0, .slice none 0 0]) ?_ 3 _ rfl; (with_reducible repeat (first | refine blk_drewN ?_ _ | refine blk_drew ?_ | refine blk_alloc ?_ _)); refine blk_put (cs := #[.int .i64 t886, .string t887, .string (⟨#[]⟩ : ByteArray), .int .i64 0, .int .u64 0, .int .u64 0, .slice none 0 0, .slice none 0 0]) ?_ 2 _ rfl; (with_reducible repeat (first | refine blk_drewN ?_ _ | refine blk_drew ?_ | refine blk_alloc ?_ _)); refine blk_put (cs := #[.int .i64 t886, .string (⟨#[]⟩ : ByteArray), .string (⟨#[]⟩ : ByteArray), .int .i64 0, .int .u64 0, .int .u64 0, .slice none 0 0, .slice none 0 0]) ?_ 1 _ rfl; (with_reducible repeat (first | refine blk_drewN ?_ _ | refine blk_drew ?_ | refine blk_alloc ?_ _)); refine blk_put (cs := #[.int .i64 0, .string (⟨#[]⟩ : ByteArray), .string (⟨#[]⟩ : ByteArray), .int .i64 0, .int .u64 0, .int .u64 0, .slice none 0 0, .slice none 0 0]) ?_ 0 _ rfl; (with_reducible repeat (first | refine blk_drewN ?_ _ | refine blk_drew ?_ | refine blk_alloc ?_ _)); exact BK902.out⟩
            have n6_ : Aside0 (Below w.heap.size w ((((((((w33.setCell ⟨gb902, 0, none⟩ (.int .i64 t886)).setCell ⟨gb902, 1, none⟩ (.string t887)).setCell ⟨gb902, 2, none⟩ (.string t888)).setCell ⟨gb902, 3, none⟩ (.int .i64 t889)).setCell ⟨gb902, 4, none⟩ (.int .u64 t890)).setCell ⟨gb902, 5, none⟩ (.int .u64 t891)).setCell ⟨gb902, 6, none⟩ (.slice Ao40 t892.length co40)).setCell ⟨gb902, 7, none⟩ (.slice Ao42 t895.length co42))) := ⟨HW.zb⟩
            (try clear HO885)
            (try clear HO894)
            (try clear HO897)
            (try clear HO900)
            (try clear BK877)
            (try clear BK902)
            (try clear HB)
            generalize ((((((((w33.setCell ⟨gb902, 0, none⟩ (.int .i64 t886)).setCell ⟨gb902, 1, none⟩ (.string t887)).setCell ⟨gb902, 2, none⟩ (.string t888)).setCell ⟨gb902, 3, none⟩ (.int .i64 t889)).setCell ⟨gb902, 4, none⟩ (.int .u64 t890)).setCell ⟨gb902, 5, none⟩ (.int .u64 t891)).setCell ⟨gb902, 6, none⟩ (.slice Ao40 t892.length co40)).setCell ⟨gb902, 7, none⟩ (.slice Ao42 t895.length co42)) = w44 at n0_ n1_ n2_ n3_ n4_ n5_ n6_ ⊢; have HO885 := n0_; have HO894 := n1_; have HO897 := n2_; have HO900 := n3_; have BK877 := n4_; have BK902 := n5_; have HB := n6_; clear n0_ n1_ n2_ n3_ n4_ n5_ n6_; replace HO885 := Aside0.mk (Kd.R_drew HO885.out); replace HO894 := Aside0.mk (Kd.R_drew HO894.out); replace HO897 := Aside0.mk (Kd.R_drew HO897.out); replace HO900 := Aside0.mk (Kd.R_drew HO900.out); replace BK877 := Aside0.mk (blk_drew BK877.out); replace BK902 := Aside0.mk (blk_drew BK902.out); replace HB := Aside0.mk (below_drew1 HB.out)
            refine start_ (n := 18) (S := fun w' => w'.cell? ⟨gb902, 0, none⟩ = some (.int .i64 t886) ∧ w'.cell? ⟨gb902, 1, none⟩ = some (.string t887) ∧ w'.cell? ⟨gb902, 2, none⟩ = some (.string t888) ∧ w'.cell? ⟨gb902, 3, none⟩ = some (.int .i64 t889) ∧ w'.cell? ⟨gb902, 4, none⟩ = some (.int .u64 t890) ∧ w'.cell? ⟨gb902, 5, none⟩ = some (.int .u64 t891) ∧ w'.cell? ⟨gb902, 6, none⟩ = some (.slice Ao40 t892.length co40) ∧ w'.cell? ⟨gb902, 7, none⟩ = some (.slice Ao42 t895.length co42) ∧ w'.cell? ⟨gb877, 0, none⟩ = some (.int .i64 a0_0) ∧ w'.cell? ⟨gb877, 1, none⟩ = some (.string a0_1) ∧ w'.cell? ⟨gb877, 2, none⟩ = some (.string a0_2) ∧ w'.cell? ⟨gb877, 3, none⟩ = some (.int .i64 a0_3) ∧ w'.cell? ⟨gb877, 4, none⟩ = some (.int .u64 a0_4) ∧ w'.cell? ⟨gb877, 5, none⟩ = some (.int .u64 a0_5) ∧ w'.cell? ⟨gb877, 6, none⟩ = some (.slice A0_6 l0_6.length c0_6) ∧ w'.cell? ⟨gb877, 7, none⟩ = some (.slice A0_7 l0_7.length c0_7) ∧ Sem.run Tryz.prog (convert 22 9 v899) w' = .ok (.string (strOfNums t898)) w' ∧ Sem.run Tryz.prog (convert 22 9 (.slice A1 l1.length c1)) w' = .ok (.string (strOfNums l1)) w') (ds := []) #[ff,ff,ff,ff,ff,ff,ff,ff,ff,ff,ff,ff,ff,ff,ff,ff,ff,ff] (by kernel_rfl) rfl rfl ⟨(blk_cell BK902.out 0).trans rfl, (blk_cell BK902.out 1).trans rfl, (blk_cell BK902.out 2).trans rfl, (blk_cell BK902.out 3).trans rfl, (blk_cell BK902.out 4).trans rfl, (blk_cell BK902.out 5).trans rfl, (blk_cell BK902.out 6).trans rfl, (blk_cell BK902.out 7).trans rfl, (blk_cell BK877.out 0).trans rfl, (blk_cell BK877.out 1).trans rfl, (blk_cell BK877.out 2).trans rfl, (blk_cell BK877.out 3).trans rfl, (blk_cell BK877.out 4).trans rfl, (blk_cell BK877.out 5).trans rfl, (blk_cell BK877.out 6).trans rfl, (blk_cell BK877.out 7).trans rfl, own_string (P := Tryz.prog) Tryz.underlying22 Tryz.underlying5 Tryz.underlying9 (Kd.own_of_R HO900.out), Kd.C_string (P := Tryz.prog) (A := A1) (c := c1) Tryz.underlying22 Tryz.underlying5 Tryz.underlying9 (Kd.C_below HR1.out HB.out)⟩ (fun hHeld => ?_); refine with_tabW laws_FnDocReadBack.tab6 laws_FnDocReadBack.bits6 (fun HT_ HW_ => ?_)
            generalize w44.drew = w45 at HO885 HO894 HO897 HO900 BK877 BK902 HB hHeld ⊢
            refine one_ (i := 0) (N := some 35) #[tt,ff,ff,ff,ff,ff,ff,ff,ff,ff,ff,ff,ff,ff,ff,ff,ff,ff] rfl rfl (one_of HT_.out (by kernel_rfl)) (by decide) (fun K hK => ?_)
            refine goes_ Tryz.func15 (by kernel_rfl) rfl #[] (by rfl) rfl rfl HW.mt ?_
            with_reducible refine (laws_docAwake.calls kj11  true _ A21.out).mono ?_
            rintro e w46 ⟨rfl, hb⟩
            refine ⟨_, rfl, ?_⟩
            replace HO894 := Aside0.mk (Kd.R_below (HW.zR HO894.out) hb); replace HO897 := Aside0.mk (Kd.R_below (HW.zR HO897.out) hb); replace HO900 := Aside0.mk (Kd.R_below (HW.zR HO900.out) hb); replace BK877 := Aside0.mk (blk_below (HW.zB BK877.out) hb); replace BK902 := Aside0.mk (blk_below (HW.zB BK902.out) hb); replace HB := Aside0.mk (below_step HW.zb hb)
            (try clear hb)
            refine hK.out _ _ ⟨(blk_cell BK902.out 0).trans rfl, (blk_cell BK902.out 1).trans rfl, (blk_cell BK902.out 2).trans rfl, (blk_cell BK902.out 3).trans rfl, (blk_cell BK902.out 4).trans rfl, (blk_cell BK902.out 5).trans rfl, (blk_cell BK902.out 6).trans rfl, (blk_cell BK902.out 7).trans rfl, (blk_cell BK877.out 0).trans rfl, (blk_cell BK877.out 1).trans rfl, (blk_cell BK877.out 2).trans rfl, (blk_cell BK877.out 3).trans rfl, (blk_cell BK877.out 4).trans rfl, (blk_cell BK877.out 5).trans rfl, (blk_cell BK877.out 6).trans rfl, (blk_cell BK877.out 7).trans rfl, own_string (P := Tryz.prog) Tryz.underlying22 Tryz.underlying5 Tryz.underlying9 (Kd.own_of_R HO900.out), Kd.C_string (P := Tryz.prog) (A := A1) (c := c1) Tryz.underlying22 Tryz.underlying5 Tryz.underlying9 (Kd.C_below HR1.out HB.out)⟩ (fun hHeld => ?_)
            clear hK K
            refine HW.nz (N := (some 35)) ?_
            refine HW.pz (i := 1) (N := some 36) #[tt,tt,ff,ff,ff,ff,ff,ff,ff,ff,ff,ff,ff,ff,ff,ff,ff,ff] ?_ (hc := any_of HT_.out (by kernel_rfl))
            refine HW.pz (i := 2) (N := some 37) #[tt,tt,tt,ff,ff,ff,ff,ff,ff,ff,ff,ff,ff,ff,ff,ff,ff,ff] ?_ (hc := any_of HT_.out (by kernel_rfl))
            refine HW.pz (i := 3) (N := some 38) #[tt,tt,tt,tt,ff,ff,ff,ff,ff,ff,ff,ff,ff,ff,ff,ff,ff,ff] ?_ (hc := any_of HT_.out (by kernel_rfl))
            refine HW.pz (i := 4) (N := some 39) #[tt,tt,tt,tt,tt,ff,ff,ff,ff,ff,ff,ff,ff,ff,ff,ff,ff,ff] ?_ (hc := any_of HT_.out (by kernel_rfl))
            refine take_ (i := 5) (N := some 40) (v := ?_) (a' := ?_) #[tt,tt,tt,tt,tt,tt,ff,ff,ff,ff,ff,ff,ff,ff,ff,ff,ff,ff] rfl rfl (take_ofW HT_.out HW_.out (by kernel_rfl)) (fun _ _ _ h => h) (Or.inl ⟨by rfl, ?_⟩) hHeld ?_ ?_
            rotate_left
            · rintro w' ⟨s0, s1, s2, s3, s4, s5, s6, s7, s8, s9, s10, s11, s12, s13, s14, s15, s16, s17⟩
              go_simp
              with_reducible rfl
            rotate_left
            · exact HW.pt
            refine take_ (i := 6) (N := some 41) (v := ?_) (a' := ?_) #[tt,tt,tt,tt,tt,tt,tt,ff,ff,ff,ff,ff,ff,ff,ff,ff,ff,ff] rfl rfl (take_ofW HT_.out HW_.out (by kernel_rfl)) (fun _ _ _ h => h) (Or.inl ⟨by rfl, ?_⟩) hHeld ?_ ?_
            rotate_left
            · rintro w' ⟨s0, s1, s2, s3, s4, s5, s6, s7, s8, s9, s10, s11, s12, s13, s14, s15, s16, s17⟩
              go_simp
              with_reducible rfl
            rotate_left
            · exact HW.pt
            refine one_ (i := 7) (N := some 42) #[tt,tt,tt,tt,tt,tt,tt,tt,ff,ff,ff,ff,ff,ff,ff,ff,ff,ff] rfl rfl (one_of HT_.out (by kernel_rfl)) (by decide) (fun K hK => ?_)
            refine goes_ Tryz.func40 (by kernel_rfl) rfl #[.agg #[.int .i64 a0_0, .string a0_1, .string a0_2, .int .i64 a0_3, .int .u64 a0_4, .int .u64 a0_5, .slice A0_6 l0_6.length c0_6, .slice A0_7 l0_7.length c0_7]] (by rfl) rfl rfl HW.mt ?_
            with_reducible refine (laws_docFlat.calls kj11 a0_0 a0_1 a0_2 a0_3 a0_4 a0_5 (fun k_ => k_ < w.heap.size) _ _ l0_6 (fun k_ => k_ < w.heap.size) _ _ l0_7 t904 t905 t906 t907 t908 t909 t910 t913 _ ?side1 ?side2 A24.out).mono ?_
            (case side1 => exact Kd.V_mk HC0_6.out (Kd.F_below (Kd.C_F (Kd.heap_int .u8) HR0_6.out) HW.zb))
            (case side2 => exact Kd.V_mk HC0_7.out (Kd.F_below (Kd.C_F k95_heap HR0_7.out) HW.zb))
            rintro e w47 ⟨v911, v914, rfl, ho0, ho1, hb⟩
            refine ⟨_, rfl, ?_⟩
            have n1_ := Aside0.mk (Kd.R_below (HW.zR HO894.out) hb); have n2_ := Aside0.mk (Kd.R_below (HW.zR HO897.out) hb); have n3_ := Aside0.mk (Kd.R_below (HW.zR HO900.out) hb)
            have n4_ := Aside0.mk (Kd.V_lower (Kd.V_mono (ok' := fun k_ => k_ ≠ gb877 ∧ k_ ≠ gb902) ho0 (fun k_ hk_ => ⟨Or.elim hk_ (fun hs_ => Or.elim hs_ (fun hs_ => fun e_ => Nat.not_le.2 hs_ (by rw [e_]; exact GW877.out)) (fun hs_ => fun e_ => Nat.not_le.2 hs_ (by rw [e_]; exact GW877.out))) (fun hn_ => (Kd.freshB (g := gb877) (o := .cells #[.int .i64 a0_0, .string a0_1, .string a0_2, .int .i64 a0_3, .int .u64 a0_4, .int .u64 a0_5, .slice A0_6 l0_6.length c0_6, .slice A0_7 l0_7.length c0_7] 44 (0, 0)) (HW.zB BK877.out) k_ hn_)), Or.elim hk_ (fun hs_ => Or.elim hs_ (fun hs_ => fun e_ => Nat.not_le.2 hs_ (by rw [e_]; exact GW902.out)) (fun hs_ => fun e_ => Nat.not_le.2 hs_ (by rw [e_]; exact GW902.out))) (fun hn_ => (Kd.freshB (g := gb902) (o := .cells #[.int .i64 t886, .string t887, .string t888, .int .i64 t889, .int .u64 t890, .int .u64 t891, .slice Ao40 t892.length co40, .slice Ao42 t895.length co42] 44 (0, 0)) (HW.zB BK902.out) k_ hn_))⟩)) (below_size HW.zb))
            have n5_ := Aside0.mk (Kd.V_lower (Kd.V_mono (ok' := fun k_ => k_ ≠ gb877 ∧ k_ ≠ gb902) ho1 (fun k_ hk_ => ⟨Or.elim hk_ (fun hs_ => Or.elim hs_ (fun hs_ => fun e_ => Nat.not_le.2 hs_ (by rw [e_]; exact GW877.out)) (fun hs_ => fun e_ => Nat.not_le.2 hs_ (by rw [e_]; exact GW877.out))) (fun hn_ => (Kd.freshB (g := gb877) (o := .cells #[.int .i64 a0_0, .string a0_1, .string a0_2, .int .i64 a0_3, .int .u64 a0_4, .int .u64 a0_5, .slice A0_6 l0_6.length c0_6, .slice A0_7 l0_7.length c0_7] 44 (0, 0)) (HW.zB BK877.out) k_ hn_)), Or.elim hk_ (fun hs_ => Or.elim hs_ (fun hs_ => fun e_ => Nat.not_le.2 hs_ (by rw [e_]; exact GW902.out)) (fun hs_ => fun e_ => Nat.not_le.2 hs_ (by rw [e_]; exact GW902.out))) (fun hn_ => (Kd.freshB (g := gb902) (o := .cells #[.int .i64 t886, .string t887, .string t888, .int .i64 t889, .int .u64 t890, .int .u64 t891, .slice Ao40 t892.length co40, .slice Ao42 t895.length co42] 44 (0, 0)) (HW.zB BK902.out) k_ hn_))⟩)) (below_size HW.zb))
            have n6_ := Aside0.mk (blk_below (HW.zB BK877.out) hb); have n7_ := Aside0.mk (blk_below (HW.zB BK902.out) hb); have n8_ := Aside0.mk (below_step HW.zb hb); clear HO894; clear HO897; clear HO900; clear BK877; clear BK902; clear HB; have HO894 := n1_; have HO897 := n2_; have HO900 := n3_; have HO912 := n4_; have HO915 := n5_; have BK877 := n6_; have BK902 := n7_; have HB := n8_; clear n1_ n2_ n3_ n4_ n5_ n6_ n7_ n8_
            (try clear hb)
            (try clear ho0)
            (try clear ho1)
            obtain ⟨Ao48, co48, eo48⟩ := Kd.V_slice HO912.out
            (first | subst eo48 | (injection eo48 with f1_ f2_ f3_; have f4_ := f1_.symm; have f5_ := f3_.symm; clear f1_ f2_ f3_; subst f4_; subst f5_))
            obtain ⟨Ao49, co49, eo49⟩ := Kd.V_slice HO915.out
            (first | subst eo49 | (injection eo49 with f1_ f2_ f3_; have f4_ := f1_.symm; have f5_ := f3_.symm; clear f1_ f2_ f3_; subst f4_; subst f5_))
            refine hK.out _ _ ⟨(blk_cell BK902.out 0).trans rfl, (blk_cell BK902.out 1).trans rfl, (blk_cell BK902.out 2).trans rfl, (blk_cell BK902.out 3).trans rfl, (blk_cell BK902.out 4).trans rfl, (blk_cell BK902.out 5).trans rfl, (blk_cell BK902.out 6).trans rfl, (blk_cell BK902.out 7).trans rfl, (blk_cell BK877.out 0).trans rfl, (blk_cell BK877.out 1).trans rfl, (blk_cell BK877.out 2).trans rfl, (blk_cell BK877.out 3).trans rfl, (blk_cell BK877.out 4).trans rfl, (blk_cell BK877.out 5).trans rfl, (blk_cell BK877.out 6).trans rfl, (blk_cell BK877.out 7).trans rfl, own_string (P := Tryz.prog) Tryz.underlying22 Tryz.underlying5 Tryz.underlying9 (Kd.own_of_R HO900.out), Kd.C_string (P := Tryz.prog) (A := A1) (c := c1) Tryz.underlying22 Tryz.underlying5 Tryz.underlying9 (Kd.C_below HR1.out HB.out)⟩ (fun hHeld => ?_)
            clear hK K
            refine HW.nz (N := (some 42)) ?_
            refine one_ (i := 8) (N := some 43) #[tt,tt,tt,tt,tt,tt,tt,tt,tt,ff,ff,ff,ff,ff,ff,ff,ff,ff] rfl rfl (one_of HT_.out (by kernel_rfl)) (by decide) (fun K hK => ?_)
            refine goes_ Tryz.func39 (by kernel_rfl) rfl #[.agg #[.int .i64 t886, .string t887, .string t888, .int .i64 t889, .int .u64 t890, .int .u64 t891, .slice Ao40 t892.length co40, .slice Ao42 t895.length co42], .agg #[.int .i64 t904, .string t905, .string t906, .int .i64 t907, .int .u64 t908, .int .u64 t909, .slice Ao48 t910.length co48, .slice Ao49 t913.length co49]] (by rfl) rfl rfl HW.mt ?_
            with_reducible refine (spec_DocSame.calls kj11 t886 t887 t888 t889 t890 t891 _ _ t892 _ _ t895 t904 t905 t906 t907 t908 t909 _ _ t910 _ _ t913 true _ ?side1 ?side2 ?side3 ?side4 ?side5 ?side6 ?side7 ?side8 A25.out).mono ?_
            (case side1 => repeat (first | exact (Kd.R_reads' HO894.out).2.2 | (with_reducible refine Kd.C_alloc ?_ _) | (with_reducible refine Kd.C_drewN ?_ _) | (with_reducible refine Kd.C_drew ?_)))
            (case side2 => exact (Kd.R_reads' HO894.out).2.1)
            (case side3 => repeat (first | exact (Kd.R_reads' HO897.out).2.2 | (with_reducible refine Kd.C_alloc ?_ _) | (with_reducible refine Kd.C_drewN ?_ _) | (with_reducible refine Kd.C_drew ?_)))
            (case side4 => exact (Kd.R_reads' HO897.out).2.1)
            (case side5 => repeat (first | exact (Kd.V_reads' HO912.out).2.2 | (with_reducible refine Kd.C_alloc ?_ _) | (with_reducible refine Kd.C_drewN ?_ _) | (with_reducible refine Kd.C_drew ?_)))
            (case side6 => exact (Kd.V_reads' HO912.out).2.1)
            (case side7 => repeat (first | exact (Kd.V_reads' HO915.out).2.2 | (with_reducible refine Kd.C_alloc ?_ _) | (with_reducible refine Kd.C_drewN ?_ _) | (with_reducible refine Kd.C_drew ?_)))
            (case side8 => exact (Kd.V_reads' HO915.out).2.1)
            rintro e w50 ⟨rfl, hb⟩
            refine ⟨_, rfl, ?_⟩
            replace HO900 := Aside0.mk (Kd.R_below (HW.zR HO900.out) hb); replace BK877 := Aside0.mk (blk_below (HW.zB BK877.out) hb); replace BK902 := Aside0.mk (blk_below (HW.zB BK902.out) hb); replace HB := Aside0.mk (below_step HW.zb hb)
            (try clear hb)
            have hcv51 := own_string (P := Tryz.prog) Tryz.underlying22 Tryz.underlying5 Tryz.underlying9 (Kd.own_of_R HO900.out); have hcv52 := Kd.C_string (P := Tryz.prog) (A := A1) (c := c1) Tryz.underlying22 Tryz.underlying5 Tryz.underlying9 (Kd.C_below HR1.out HB.out)
            refine hK.out _ _ ⟨(blk_cell BK902.out 0).trans rfl, (blk_cell BK902.out 1).trans rfl, (blk_cell BK902.out 2).trans rfl, (blk_cell BK902.out 3).trans rfl, (blk_cell BK902.out 4).trans rfl, (blk_cell BK902.out 5).trans rfl, (blk_cell BK902.out 6).trans rfl, (blk_cell BK902.out 7).trans rfl, (blk_cell BK877.out 0).trans rfl, (blk_cell BK877.out 1).trans rfl, (blk_cell BK877.out 2).trans rfl, (blk_cell BK877.out 3).trans rfl, (blk_cell BK877.out 4).trans rfl, (blk_cell BK877.out 5).trans rfl, (blk_cell BK877.out 6).trans rfl, (blk_cell BK877.out 7).trans rfl, own_string (P := Tryz.prog) Tryz.underlying22 Tryz.underlying5 Tryz.underlying9 (Kd.own_of_R HO900.out), Kd.C_string (P := Tryz.prog) (A := A1) (c := c1) Tryz.underlying22 Tryz.underlying5 Tryz.underlying9 (Kd.C_below HR1.out HB.out)⟩ (fun hHeld => ?_)
            clear hK K
            refine HW.nz (N := (some 43)) ?_
            refine HW.pz (i := 9) (N := some 44) #[tt,tt,tt,tt,tt,tt,tt,tt,tt,tt,ff,ff,ff,ff,ff,ff,ff,ff] ?_ (hc := any_of HT_.out (by kernel_rfl))
            refine HW.pz (i := 10) (N := some 45) #[tt,tt,tt,tt,tt,tt,tt,tt,tt,tt,tt,ff,ff,ff,ff,ff,ff,ff] ?_ (hc := any_of HT_.out (by kernel_rfl))
            refine HW.pz (i := 11) (N := some 46) #[tt,tt,tt,tt,tt,tt,tt,tt,tt,tt,tt,tt,ff,ff,ff,ff,ff,ff] ?_ (hc := any_of HT_.out (by kernel_rfl))
            refine take_ (i := 12) (N := some 47) (v := ?_) (a' := ?_) #[tt,tt,tt,tt,tt,tt,tt,tt,tt,tt,tt,tt,tt,ff,ff,ff,ff,ff] rfl rfl (take_ofW HT_.out HW_.out (by kernel_rfl)) (fun _ _ _ h => h) (Or.inl ⟨by rfl, ?_⟩) hHeld ?_ ?_
            rotate_left
            · rintro w' ⟨s0, s1, s2, s3, s4, s5, s6, s7, s8, s9, s10, s11, s12, s13, s14, s15, s16, s17⟩
              go_simp
              with_reducible rfl
            rotate_left
            · exact HW.pt
            refine HW.pz (i := 13) (N := some 48) #[tt,tt,tt,tt,tt,tt,tt,tt,tt,tt,tt,tt,tt,tt,ff,ff,ff,ff] ?_ (hc := any_of HT_.out (by kernel_rfl))
            refine take_ (i := 14) (N := some 49) (v := ?_) (a' := ?_) #[tt,tt,tt,tt,tt,tt,tt,tt,tt,tt,tt,tt,tt,tt,tt,ff,ff,ff] rfl rfl (take_ofW HT_.out HW_.out (by kernel_rfl)) (fun _ _ _ h => h) (Or.inl ⟨by rfl, ?_⟩) hHeld ?_ ?_
            rotate_left
            · rintro w' ⟨s0, s1, s2, s3, s4, s5, s6, s7, s8, s9, s10, s11, s12, s13, s14, s15, s16, s17⟩
              go_simp
              with_reducible rfl
            rotate_left
            · exact HW.pt
            refine HW.pz (i := 15) (N := some 50) #[tt,tt,tt,tt,tt,tt,tt,tt,tt,tt,tt,tt,tt,tt,tt,tt,ff,ff] ?_ (hc := any_of HT_.out (by kernel_rfl))
            refine HW.pz (i := 16) (N := some 51) #[tt,tt,tt,tt,tt,tt,tt,tt,tt,tt,tt,tt,tt,tt,tt,tt,tt,ff] ?_ (hc := any_of HT_.out (by kernel_rfl))
            refine HW.pz (i := 17) (N := some 4) #[tt,tt,tt,tt,tt,tt,tt,tt,tt,tt,tt,tt,tt,tt,tt,tt,tt,tt] ?_ (hc := any_of HT_.out (by kernel_rfl))
            refine done_ (done_of HT_.out (by kernel_rfl)) ?_
            try go_wp2
            go_ret
            exact ⟨rfl, HW.zb⟩
end Go.Proofs.YtanecebppagakaaGreatDoor.PRx
