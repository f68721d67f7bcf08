/- Printed by a program of this session (a turned copy of the printer of the kit): contracts of functions of the translation, each with the Lean function that it computes. Conditions: as each theorem states them. -/
import Derived.Test.YtndpbbgniflckaaDoorPElx0
import Derived.Test.YtndpbbgniflckaaDoorPElx1
import Derived.Test.YtndpbbgniflckaaDoorPElx4
import Derived.Test.YtndpbbgniflckaaDoorPElx5
import Derived.Test.YtndpbbgniflckaaDoorPElx7
import Derived.Test.YtndpbbgniflckaaDoorPElx9
import Derived.Test.YtndpbbgniflckaaDoorPElx10
import Derived.Test.YtndpbbgniflckaaDoorMr
namespace Go.Proofs.YtndpbbgniflckaaDoor.PEl
open Go.RowKit Go.Proofs.YtndpbbgniflckaaDoorW.PrintWords Go.Proofs.YtndpbbgniflckaaDoorW.PrintLast Go.Proofs.YtndpbbgniflckaaDoorW.PrintMore
attribute [local go_sem] max2_int min2_int max_two min_two max_three min_three max_four min_four   -- for this text's walks alone
set_option linter.unusedVariables false
set_option linter.unusedSimpArgs false

/-! ### laws_FnDocElement: function 3 -/
mutual
def laws_FnDocElement.j0 : Nat → ByteArray → Bool → Int → ByteArray → ByteArray → Int → Int → Int → List Int → List (S31) → Option (Bool)
  | 0, _, _, _, _, _, _, _, _, _, _ => none
  | k + 1, x0, x19, x450000, x450001, x450002, x450003, x450004, x450005, x450006, x450007 => if x19 = true then (some true) else (if (x0.size : Int) > 1000 then (laws_FnDocElement.j1 k x0 true x450000 x450001 x450002 x450003 x450004 x450005 x450006 x450007) else ((spec_DocPlain.f k x0).bind fun t451 => (if t451 = true then ((laws_docFine.f k x450000 x450001 x450002 x450003 x450004 x450005 x450006 x450007).bind fun t452 => (laws_FnDocElement.j1 k x0 (!t452) x450000 x450001 x450002 x450003 x450004 x450005 x450006 x450007)) else (laws_FnDocElement.j1 k x0 true x450000 x450001 x450002 x450003 x450004 x450005 x450006 x450007))))
def laws_FnDocElement.j1 : Nat → ByteArray → Bool → Int → ByteArray → ByteArray → Int → Int → Int → List Int → List (S31) → Option (Bool)
  | 0, _, _, _, _, _, _, _, _, _, _ => none
  | k + 1, x0, x32, x450000, x450001, x450002, x450003, x450004, x450005, x450006, x450007 => if x32 = true then (some true) else ((spec_DocElem.f k x0 x450000 x450001 x450002 x450003 x450004 x450005 x450006 x450007).bind fun t453 => ((impl_ElementKey.f t453).bind fun bt456 => ((impl_ElementKeyBytes.f t453).bind fun bt458 => ((impl_ElementValue.f k t453).bind fun bt462 => (if bt456.2 = 0 then (if bt458.2 = 0 then (if bt462.2.2 = 0 then (if bt456.1.toList = x0.toList then (if (strOfNums bt458.1).toList = x0.toList then ((spec_DocValue.f k x450000 x450001 x450002 x450003 x450004 x450005 x450006 x450007).bind fun t468 => ((laws_docSameRaw.f bt462.1 bt462.2.1 x450000 t468).bind fun t471 => (if t471 = true then (if x0.size < 140737488355328 then ((impl_CompareKey.f k t453 (bytesOf x0)).bind fun t475 => (if t475 = true then ((some (bytesOf x0 : List Int)).bind fun y476 => ((some (([0] : List Int) : List Int)).bind fun y479 => (if y476.length + y479.length < 140737488355328 then ((impl_CompareKey.f k t453 (y476 ++ y479)).bind fun t485 => (some t485)) else (none)))) else (none))) else (none)) else (none)))) else (none)) else (none)) else (none)) else (none)) else (none))))))
end
def laws_FnDocElement.f (k : Nat) (a0 : ByteArray) (a1_0 : Int) (a1_1 : ByteArray) (a1_2 : ByteArray) (a1_3 : Int) (a1_4 : Int) (a1_5 : Int) (l1_6 : List Int) (l1_7 : List (S31)) : Option (Bool) := if (a0.size : Int) > 2147483647 then (laws_FnDocElement.j0 k a0 true a1_0 a1_1 a1_2 a1_3 a1_4 a1_5 l1_6 l1_7) else ((laws_zzFits1.f a1_0 a1_1 a1_2 a1_3 a1_4 a1_5 l1_6 l1_7).bind fun t450 => (laws_FnDocElement.j0 k a0 (!t450) a1_0 a1_1 a1_2 a1_3 a1_4 a1_5 l1_6 l1_7))
theorem laws_FnDocElement.mono_l : ∀ k, (∀ y0 y1 y2 y3 y4 y5 y6 y7 y8 y9, LeO (laws_FnDocElement.j0 k y0 y1 y2 y3 y4 y5 y6 y7 y8 y9) (laws_FnDocElement.j0 (k + 1) y0 y1 y2 y3 y4 y5 y6 y7 y8 y9)) ∧ (∀ y0 y1 y2 y3 y4 y5 y6 y7 y8 y9, LeO (laws_FnDocElement.j1 k y0 y1 y2 y3 y4 y5 y6 y7 y8 y9) (laws_FnDocElement.j1 (k + 1) y0 y1 y2 y3 y4 y5 y6 y7 y8 y9))
  | 0 => ⟨fun _ _ _ _ _ _ _ _ _ _ r h => by simp [laws_FnDocElement.j0] at h, fun _ _ _ _ _ _ _ _ _ _ r h => by simp [laws_FnDocElement.j1] at h⟩
  | k + 1 => by
    obtain ⟨ih0, ih1⟩ := laws_FnDocElement.mono_l k
    refine ⟨?_, ?_⟩
    · intro y0 y1 y2 y3 y4 y5 y6 y7 y8 y9
      unfold laws_FnDocElement.j0
      repeat' first
      | (with_reducible exact ih0 _ _ _ _ _ _ _ _ _ _)
      | (with_reducible exact ih1 _ _ _ _ _ _ _ _ _ _)
      | (with_reducible exact impl_CompareKey.mono _ _ _)
      | (with_reducible exact impl_ElementValue.mono _ _)
      | (with_reducible exact laws_docFine.mono _ _ _ _ _ _ _ _ _)
      | (with_reducible exact spec_DocElem.mono _ _ _ _ _ _ _ _ _ _)
      | (with_reducible exact spec_DocPlain.mono _ _)
      | (with_reducible exact spec_DocValue.mono _ _ _ _ _ _ _ _ _)
      | (with_reducible exact LeO.refl _)
      | (with_reducible exact LeO.none _)
      | (with_reducible refine LeO.ite ?_ ?_)
      | (with_reducible refine LeO.bind ?_ (fun _ => ?_))
      | exact ih0 _ _ _ _ _ _ _ _ _ _
      | exact ih1 _ _ _ _ _ _ _ _ _ _
      | exact impl_CompareKey.mono _ _ _
      | exact impl_ElementValue.mono _ _
      | exact laws_docFine.mono _ _ _ _ _ _ _ _ _
      | exact spec_DocElem.mono _ _ _ _ _ _ _ _ _ _
      | exact spec_DocPlain.mono _ _
      | exact spec_DocValue.mono _ _ _ _ _ _ _ _ _
      | exact LeO.none _
      | refine LeO.ite ?_ ?_
      | refine LeO.bind ?_ (fun _ => ?_)
    · intro y0 y1 y2 y3 y4 y5 y6 y7 y8 y9
      unfold laws_FnDocElement.j1
      repeat' first
      | (with_reducible exact ih0 _ _ _ _ _ _ _ _ _ _)
      | (with_reducible exact ih1 _ _ _ _ _ _ _ _ _ _)
      | (with_reducible exact impl_CompareKey.mono _ _ _)
      | (with_reducible exact impl_ElementValue.mono _ _)
      | (with_reducible exact laws_docFine.mono _ _ _ _ _ _ _ _ _)
      | (with_reducible exact spec_DocElem.mono _ _ _ _ _ _ _ _ _ _)
      | (with_reducible exact spec_DocPlain.mono _ _)
      | (with_reducible exact spec_DocValue.mono _ _ _ _ _ _ _ _ _)
      | (with_reducible exact LeO.refl _)
      | (with_reducible exact LeO.none _)
      | (with_reducible refine LeO.ite ?_ ?_)
      | (with_reducible refine LeO.bind ?_ (fun _ => ?_))
      | exact ih0 _ _ _ _ _ _ _ _ _ _
      | exact ih1 _ _ _ _ _ _ _ _ _ _
      | exact impl_CompareKey.mono _ _ _
      | exact impl_ElementValue.mono _ _
      | exact laws_docFine.mono _ _ _ _ _ _ _ _ _
      | exact spec_DocElem.mono _ _ _ _ _ _ _ _ _ _
      | exact spec_DocPlain.mono _ _
      | exact spec_DocValue.mono _ _ _ _ _ _ _ _ _
      | exact LeO.none _
      | refine LeO.ite ?_ ?_
      | refine LeO.bind ?_ (fun _ => ?_)
theorem laws_FnDocElement.mono : ∀ a0 a1 a2 a3 a4 a5 a6 a7 a8 k, LeO (laws_FnDocElement.f k a0 a1 a2 a3 a4 a5 a6 a7 a8) (laws_FnDocElement.f (k + 1) a0 a1 a2 a3 a4 a5 a6 a7 a8) := by
  intro a0 a1 a2 a3 a4 a5 a6 a7 a8 k
  obtain ⟨ih0, ih1⟩ := laws_FnDocElement.mono_l k
  unfold laws_FnDocElement.f
  repeat' first
      | (with_reducible exact ih0 _ _ _ _ _ _ _ _ _ _)
      | (with_reducible exact ih1 _ _ _ _ _ _ _ _ _ _)
      | (with_reducible exact impl_CompareKey.mono _ _ _)
      | (with_reducible exact impl_ElementValue.mono _ _)
      | (with_reducible exact laws_docFine.mono _ _ _ _ _ _ _ _ _)
      | (with_reducible exact spec_DocElem.mono _ _ _ _ _ _ _ _ _ _)
      | (with_reducible exact spec_DocPlain.mono _ _)
      | (with_reducible exact spec_DocValue.mono _ _ _ _ _ _ _ _ _)
      | (with_reducible exact LeO.refl _)
      | (with_reducible exact LeO.none _)
      | (with_reducible refine LeO.ite ?_ ?_)
      | (with_reducible refine LeO.bind ?_ (fun _ => ?_))
      | exact ih0 _ _ _ _ _ _ _ _ _ _
      | exact ih1 _ _ _ _ _ _ _ _ _ _
      | exact impl_CompareKey.mono _ _ _
      | exact impl_ElementValue.mono _ _
      | exact laws_docFine.mono _ _ _ _ _ _ _ _ _
      | exact spec_DocElem.mono _ _ _ _ _ _ _ _ _ _
      | exact spec_DocPlain.mono _ _
      | exact spec_DocValue.mono _ _ _ _ _ _ _ _ _
      | exact LeO.none _
      | refine LeO.ite ?_ ?_
      | refine LeO.bind ?_ (fun _ => ?_)
def laws_FnDocElement.T9 : Bool × List (List Nat × List Nat) := (true, [([], []), ([0], [0]), ([1], [1]), ([2], [2]), ([3, 2], [2, 3]), ([2, 4], [2, 4]), ([5, 2], [5]), ([6], [6]), ([7, 6], [6, 7]), ([6, 8], [6, 8]), ([9, 6], [9]), ([10], [10]), ([10], [10]), ([11, 12, 10], [10, 11, 12]), ([10, 13], [10, 13]), ([14, 10], [14]), ([15], [15]), ([16, 15], [15, 16]), ([15], [15]), ([17, 18, 15], [15, 17, 18]), ([15, 19], [15, 19]), ([20, 15], [20]), ([21], [21]), ([21], [21]), ([23, 21], [21, 23]), ([21], [21]), ([25, 21, 21], [21, 25]), ([22, 24, 26, 26, 21], [21, 22, 24, 26]), ([21, 27], [21, 27]), ([28, 27], [28]), ([29], [29]), ([29], [29]), ([31, 29], [29, 31]), ([30, 32, 29, 29], [29, 30, 32]), ([29, 33], [29, 33]), ([34, 33], [34]), ([35], [35]), ([35], [35]), ([37, 35], [35, 37]), ([35], [35]), ([38, 39, 35, 35], [35, 38, 39]), ([36, 40, 40, 35], [35, 36, 40]), ([35, 41], [35, 41]), ([42, 41, 0, 1, 2, 3, 4, 5, 6, 7, 8, 9, 10, 11, 12, 13, 14, 15, 16, 17, 18, 19, 20, 21, 22, 23, 24, 25, 26, 27, 28, 29, 30, 31, 32, 33, 34, 35, 36, 37, 38, 39, 40, 41, 42], [42])])
def laws_FnDocElement.B9 : List Nat := [0, 1, 3, 7, 15, 31, 63, 127, 255, 511, 1023, 2047, 2047, 8191, 16383, 32767, 65535, 131071, 65535, 524287, 1048575, 2097151, 4194303, 4194303, 12582911, 4194303, 37748735, 134217727, 268435455, 536870911, 1073741823, 1073741823, 3221225471, 8589934591, 17179869183, 34359738367, 68719476735, 68719476735, 206158430207, 68719476735, 1030792151039, 2199023255551, 4398046511103, 8796093022207]
theorem laws_FnDocElement.tab9 : rtab .any (opsOf Tryd.f3 9) = laws_FnDocElement.T9 := by kernel_rfl
theorem laws_FnDocElement.bits9 : waitsOk laws_FnDocElement.T9.2 laws_FnDocElement.B9 = true := by kernel_rfl
set_option maxHeartbeats 8000000 in
set_option maxRecDepth 100000 in
theorem laws_FnDocElement.calls (k : Nat) (a0 : ByteArray) (a1_0 : Int) (a1_1 : ByteArray) (a1_2 : ByteArray) (a1_3 : Int) (a1_4 : Int) (a1_5 : Int) (A1_6 : Option Addr) (c1_6 : Nat) (l1_6 : List Int) (A1_7 : Option Addr) (c1_7 : Nat) (l1_7 : List (S31)) (r : Bool) (w : World) (hr1_6 : Kd.C (Kd.int .u8) w A1_6 l1_6.length l1_6) (hc1_6 : l1_6.length ≤ c1_6) (hr1_7 : Kd.C k31 w A1_7 l1_7.length l1_7) (hc1_7 : l1_7.length ≤ c1_7) (h : laws_FnDocElement.f k a0 a1_0 a1_1 a1_2 a1_3 a1_4 a1_5 l1_6 l1_7 = some r) :
    Calls Tryd.prog 3 #[.string a0, .agg #[.int .i64 a1_0, .string a1_1, .string a1_2, .int .i64 a1_3, .int .u64 a1_4, .int .u64 a1_5, .slice A1_6 l1_6.length c1_6, .slice A1_7 l1_7.length c1_7]] w fun e w' => e = .returned (.bool r) ∧ Below w.heap.size w w' := by
  have hu26 := Tryd.underlying26
  have hu31 := Tryd.underlying31
  have hu37 := Tryd.underlying37
  have HR1_6 := Aside0.mk hr1_6
  have HC1_6 := Aside0.mk hc1_6
  clear hr1_6 hc1_6
  have HR1_7 := Aside0.mk hr1_7
  have HC1_7 := Aside0.mk hc1_7
  clear hr1_7 hc1_7
  have HB := Aside0.mk (Below.refl w.heap.size w)
  have H : (if (a0.size : Int) > 2147483647 then (laws_FnDocElement.j0 k a0 true a1_0 a1_1 a1_2 a1_3 a1_4 a1_5 l1_6 l1_7) else ((laws_zzFits1.f a1_0 a1_1 a1_2 a1_3 a1_4 a1_5 l1_6 l1_7).bind fun t450 => (laws_FnDocElement.j0 k a0 (!t450) a1_0 a1_1 a1_2 a1_3 a1_4 a1_5 l1_6 l1_7))) = some r := h
  clear h
  have HC3 := Aside0.mk H
  clear H
  go_enter Tryd.func3, Tryd.ntmps3
  go_upto_region 1 with (first | ((with_reducible refine gate_dst (N := 3) rfl ?_); (try (refine gate_guard (by rfl) ?_; dsimp only)); refine box_event ?hg (N := 3) ?hd (cs := #[.int .i64 a1_0, .string a1_1, .string a1_2, .int .i64 a1_3, .int .u64 a1_4, .int .u64 a1_5, .slice A1_6 l1_6.length c1_6, .slice A1_7 l1_7.length c1_7]) (t := 26) ?hr ?_; (case hd => rfl); (case hg => rfl); (case hr => first | (go_simp; done) | (go_simp; rfl)); intro gb449 hg w4 hbox hb; have n0_ := Aside0.mk (below_step (by repeat (first | (with_reducible first | exact HB.out | apply below_alloc | apply pw_below_drewN | apply below_drew1) | exact HB.out)) hb); have n1_ := Aside0.mk (hbox); have n2_ := Aside0.mk ((by rw [hg]; exact (below_size (by repeat (first | (with_reducible first | exact HB.out | apply below_alloc | apply pw_below_drewN | apply below_drew1) | exact HB.out))) : w.heap.size ≤ gb449)); have n3_ := Aside0.mk ((by rw [hg]; exact (below_size (by repeat (first | (with_reducible first | exact HB.out | apply below_alloc | apply pw_below_drewN | apply below_drew1) | exact HB.out))) : w.heap.size ≤ gb449)); clear HB; have HB := n0_; have BK449 := n1_; have GW449 := n2_; have GE449 := n3_; clear n0_ n1_ n2_ n3_; clear hb hbox hg))
  (try simp only [Act.put, List.setIfInBounds_toArray, List.set_cons_zero, List.set_cons_succ])
  go_cut [19] (fun v19 wc => ∃ (kq : Nat) (x19_2 : Bool), v19 = .bool x19_2 ∧ Aside0 (laws_FnDocElement.j0 kq a0 x19_2 a1_0 a1_1 a1_2 a1_3 a1_4 a1_5 l1_6 l1_7 = some r) ∧ Aside0 (kq ≤ k) ∧ Aside0 (wc.heap[gb449]? = some (.cells #[.int .i64 a1_0, .string a1_1, .string a1_2, .int .i64 a1_3, .int .u64 a1_4, .int .u64 a1_5, (.slice A1_6 l1_6.length c1_6), (.slice A1_7 l1_7.length c1_7)] 26 (0, 0))) ∧ Aside0 (Below w.heap.size w wc))
  case first =>
    have H := HC3.out
    clear HC3
    by_cases c5 : (a0.size : Int) > 2147483647
    · rw [if_pos c5] at H
      have c5b0 : decide (2147483647 < (a0.size : Int)) = true := decide_eq_true c5
      have c5b1 : decide (2147483647 < a0.size) = true := decide_eq_true (by omega)
      clear c5
      (first | rw [c5b0] | (simp only [i64_w, i32_w]; rw [c5b0]) | skip)
      as_aux_lemma =>
        have H' := Aside0.mk H
        clear H
        go_wp2
        go_meet
        case rel => exact ⟨_, (true), (by first | rfl | (simp; done) | (simp [*]; done)), H', ⟨by first | omega | exact Nat.le_refl _⟩, ⟨by (with_reducible repeat (first | refine blk_drewN ?_ _ | refine blk_drew ?_ | refine blk_alloc ?_ _)); exact BK449.out⟩, ⟨by repeat (first | (with_reducible first | exact HB.out | apply below_alloc | apply pw_below_drewN | apply below_drew1 | refine below_set ?_ GE449.out) | exact HB.out)⟩⟩
    · rw [if_neg c5] at H
      have c5b0 : decide (2147483647 < (a0.size : Int)) = false := decide_eq_false c5
      have c5b1 : decide (2147483647 < a0.size) = false := decide_eq_false (by omega)
      clear c5
      (first | rw [c5b0] | (simp only [i64_w, i32_w]; rw [c5b0]) | skip)
      replace H := Option.bind_eq_some_iff.mp H
      obtain ⟨t450, A60, H⟩ := H
      replace H : (laws_FnDocElement.j0 k a0 (!t450) a1_0 a1_1 a1_2 a1_3 a1_4 a1_5 l1_6 l1_7) = some r := H
      have A6 := Aside0.mk A60
      clear A60
      as_aux_lemma =>
        have H' := Aside0.mk H
        clear H
        have hcz7_0 : w4.cell? ⟨gb449, 0, none⟩ = some (.int .i64 a1_0) := (blk_cell BK449.out 0).trans rfl
        have hcz7_1 : w4.cell? ⟨gb449, 1, none⟩ = some (.string a1_1) := (blk_cell BK449.out 1).trans rfl
        have hcz7_2 : w4.cell? ⟨gb449, 2, none⟩ = some (.string a1_2) := (blk_cell BK449.out 2).trans rfl
        have hcz7_3 : w4.cell? ⟨gb449, 3, none⟩ = some (.int .i64 a1_3) := (blk_cell BK449.out 3).trans rfl
        have hcz7_4 : w4.cell? ⟨gb449, 4, none⟩ = some (.int .u64 a1_4) := (blk_cell BK449.out 4).trans rfl
        have hcz7_5 : w4.cell? ⟨gb449, 5, none⟩ = some (.int .u64 a1_5) := (blk_cell BK449.out 5).trans rfl
        have hcz7_6 : w4.cell? ⟨gb449, 6, none⟩ = some (.slice A1_6 l1_6.length c1_6) := (blk_cell BK449.out 6).trans rfl
        have hcz7_7 : w4.cell? ⟨gb449, 7, none⟩ = some (.slice A1_7 l1_7.length c1_7) := (blk_cell BK449.out 7).trans rfl
        have hfz7_0 := blk_frozen BK449.out 0
        have hfz7_1 := blk_frozen BK449.out 1
        have hfz7_2 := blk_frozen BK449.out 2
        have hfz7_3 := blk_frozen BK449.out 3
        have hfz7_4 := blk_frozen BK449.out 4
        have hfz7_5 := blk_frozen BK449.out 5
        have hfz7_6 := blk_frozen BK449.out 6
        have hfz7_7 := blk_frozen BK449.out 7
        go_wp2_with (first | (go_at_call 5; (with_reducible refine (laws_zzFits1.calls a1_0 a1_1 a1_2 a1_3 a1_4 a1_5 _ _ l1_6 _ _ l1_7 t450 _ ?side1 ?side2 ?side3 ?side4 A6.out).mono ?_); (case side1 => repeat (first | exact (Kd.C_below HR1_6.out HB.out) | (with_reducible refine Kd.C_alloc ?_ _) | (with_reducible refine Kd.C_drewN ?_ _) | (with_reducible refine Kd.C_drew ?_))); (case side2 => exact HC1_6.out); (case side3 => repeat (first | exact (Kd.C_below HR1_7.out HB.out) | (with_reducible refine Kd.C_alloc ?_ _) | (with_reducible refine Kd.C_drewN ?_ _) | (with_reducible refine Kd.C_drew ?_))); (case side4 => exact HC1_7.out); rintro e w8 ⟨rfl, hb⟩; have n0_ := Aside0.mk (blk_below (g := gb449) (o := .cells #[.int .i64 a1_0, .string a1_1, .string a1_2, .int .i64 a1_3, .int .u64 a1_4, .int .u64 a1_5, .slice A1_6 l1_6.length c1_6, .slice A1_7 l1_7.length c1_7] 26 (0, 0)) (by (with_reducible repeat (first | refine blk_drewN ?_ _ | refine blk_drew ?_ | refine blk_alloc ?_ _)); exact BK449.out) hb); have n1_ := Aside0.mk (below_step (by repeat (first | (with_reducible first | exact HB.out | apply below_alloc | apply pw_below_drewN | apply below_drew1 | refine below_set ?_ GE449.out) | exact HB.out)) hb); clear BK449; clear HB; have BK449 := n0_; have HB := n1_; clear n0_ n1_; (try clear hb); (try clear hb2); (try clear hk); (try clear hi)))
        go_meet
        case rel => exact ⟨_, (!t450), (by first | rfl | (simp; done) | (simp [*]; done)), H', ⟨by first | omega | exact Nat.le_refl _⟩, ⟨by (with_reducible repeat (first | refine blk_drewN ?_ _ | refine blk_drew ?_ | refine blk_alloc ?_ _)); exact BK449.out⟩, ⟨by repeat (first | (with_reducible first | exact HB.out | apply below_alloc | apply pw_below_drewN | apply below_drew1 | refine below_set ?_ GE449.out) | exact HB.out)⟩⟩
  case rest =>
    clear HC3
    try clear c1
    try clear p2
    try clear c3
    try clear c5
    try clear c5b0
    try clear c5b1
    try clear hcz7_0
    try clear hcz7_1
    try clear hcz7_2
    try clear hcz7_3
    try clear hcz7_4
    try clear hcz7_5
    try clear hcz7_6
    try clear hcz7_7
    try clear hfz7_0
    try clear hfz7_1
    try clear hfz7_2
    try clear hfz7_3
    try clear hfz7_4
    try clear hfz7_5
    try clear hfz7_6
    try clear hfz7_7
    obtain ⟨kq, x19_2, rfl, HA, HJ2, BK449, HB⟩ := hcut
    cases kq with
    | zero => exact absurd HA.out (by simp [laws_FnDocElement.j0])
    | succ kj2 =>
      have H := HA.out
      clear HA
      simp only [laws_FnDocElement.j0] at H
      by_cases c9 : x19_2 = true
      · subst c9
        have H1 : (some true) = some r := by rw [if_pos rfl] at H; exact H
        clear H
        have H := H1
        clear H1
        as_aux_lemma =>
          obtain rfl := Option.some.inj H
          go_wp2
          go_ret
          exact ⟨by first | rfl | (simp [errW_none, errW_some] <;> rfl) | (simp [*, errW_none, errW_some] <;> rfl), by repeat (first | (with_reducible first | exact HB.out | apply below_alloc | apply pw_below_drewN | apply below_drew1 | refine below_set ?_ GE449.out) | exact HB.out)⟩
      · replace c9 := Bool.eq_false_iff.mpr c9
        subst c9
        have H1 : (if (a0.size : Int) > 1000 then (laws_FnDocElement.j1 kj2 a0 true a1_0 a1_1 a1_2 a1_3 a1_4 a1_5 l1_6 l1_7) else ((spec_DocPlain.f kj2 a0).bind fun t451 => (if t451 = true then ((laws_docFine.f kj2 a1_0 a1_1 a1_2 a1_3 a1_4 a1_5 l1_6 l1_7).bind fun t452 => (laws_FnDocElement.j1 kj2 a0 (!t452) a1_0 a1_1 a1_2 a1_3 a1_4 a1_5 l1_6 l1_7)) else (laws_FnDocElement.j1 kj2 a0 true a1_0 a1_1 a1_2 a1_3 a1_4 a1_5 l1_6 l1_7)))) = some r := by rw [if_neg (show ¬ (false = true) by decide)] at H; exact H
        clear H
        have H := H1
        clear H1
        have HC10 := Aside0.mk H
        clear H
        go_upto_region 3 with (fail)
        go_cut [32] (fun v32 wc => ∃ (kq : Nat) (x32_9 : Bool), v32 = .bool x32_9 ∧ Aside0 (laws_FnDocElement.j1 kq a0 x32_9 a1_0 a1_1 a1_2 a1_3 a1_4 a1_5 l1_6 l1_7 = some r) ∧ Aside0 (kq ≤ kj2) ∧ Aside0 (wc.heap[gb449]? = some (.cells #[.int .i64 a1_0, .string a1_1, .string a1_2, .int .i64 a1_3, .int .u64 a1_4, .int .u64 a1_5, (.slice A1_6 l1_6.length c1_6), (.slice A1_7 l1_7.length c1_7)] 26 (0, 0))) ∧ Aside0 (Below w.heap.size w wc))
        case first =>
          have H := HC10.out
          clear HC10
          by_cases c11 : (a0.size : Int) > 1000
          · rw [if_pos c11] at H
            have c11b0 : decide (1000 < (a0.size : Int)) = true := decide_eq_true c11
            have c11b1 : decide (1000 < a0.size) = true := decide_eq_true (by omega)
            clear c11
            (first | rw [c11b0] | (simp only [i64_w, i32_w]; rw [c11b0]) | skip)
            as_aux_lemma =>
              have H' := Aside0.mk H
              clear H
              go_wp2
              go_meet
              case rel => exact ⟨_, (true), (by first | rfl | (simp; done) | (simp [*]; done)), H', ⟨by have := HJ2.out; first | omega | exact Nat.le_refl _⟩, ⟨by (with_reducible repeat (first | refine blk_drewN ?_ _ | refine blk_drew ?_ | refine blk_alloc ?_ _)); exact BK449.out⟩, ⟨by repeat (first | (with_reducible first | exact HB.out | apply below_alloc | apply pw_below_drewN | apply below_drew1 | refine below_set ?_ GE449.out) | exact HB.out)⟩⟩
          · rw [if_neg c11] at H
            have c11b0 : decide (1000 < (a0.size : Int)) = false := decide_eq_false c11
            have c11b1 : decide (1000 < a0.size) = false := decide_eq_false (by omega)
            clear c11
            (first | rw [c11b0] | (simp only [i64_w, i32_w]; rw [c11b0]) | skip)
            replace H := Option.bind_eq_some_iff.mp H
            obtain ⟨t451, A120, H⟩ := H
            replace H : (if t451 = true then ((laws_docFine.f kj2 a1_0 a1_1 a1_2 a1_3 a1_4 a1_5 l1_6 l1_7).bind fun t452 => (laws_FnDocElement.j1 kj2 a0 (!t452) a1_0 a1_1 a1_2 a1_3 a1_4 a1_5 l1_6 l1_7)) else (laws_FnDocElement.j1 kj2 a0 true a1_0 a1_1 a1_2 a1_3 a1_4 a1_5 l1_6 l1_7)) = some r := H
            have A12 := Aside0.mk A120
            clear A120
            by_cases c13 : t451 = true
            · subst c13
              have H1 : ((laws_docFine.f kj2 a1_0 a1_1 a1_2 a1_3 a1_4 a1_5 l1_6 l1_7).bind fun t452 => (laws_FnDocElement.j1 kj2 a0 (!t452) a1_0 a1_1 a1_2 a1_3 a1_4 a1_5 l1_6 l1_7)) = some r := by rw [if_pos rfl] at H; exact H
              clear H
              have H := H1
              clear H1
              replace H := Option.bind_eq_some_iff.mp H
              obtain ⟨t452, A140, H⟩ := H
              replace H : (laws_FnDocElement.j1 kj2 a0 (!t452) a1_0 a1_1 a1_2 a1_3 a1_4 a1_5 l1_6 l1_7) = some r := H
              have A14 := Aside0.mk A140
              clear A140
              as_aux_lemma =>
                have H' := Aside0.mk H
                clear H
                go_wp2_with (first | (go_at_call 6; (with_reducible refine (spec_DocPlain.calls kj2 a0 true _ A12.out).mono ?_); rintro e w' ⟨rfl, ⟨nd, rfl⟩⟩; have hcz15_0 : wc.cell? ⟨gb449, 0, none⟩ = some (.int .i64 a1_0) := (blk_cell BK449.out 0).trans rfl; have hcz15_1 : wc.cell? ⟨gb449, 1, none⟩ = some (.string a1_1) := (blk_cell BK449.out 1).trans rfl; have hcz15_2 : wc.cell? ⟨gb449, 2, none⟩ = some (.string a1_2) := (blk_cell BK449.out 2).trans rfl; have hcz15_3 : wc.cell? ⟨gb449, 3, none⟩ = some (.int .i64 a1_3) := (blk_cell BK449.out 3).trans rfl; have hcz15_4 : wc.cell? ⟨gb449, 4, none⟩ = some (.int .u64 a1_4) := (blk_cell BK449.out 4).trans rfl; have hcz15_5 : wc.cell? ⟨gb449, 5, none⟩ = some (.int .u64 a1_5) := (blk_cell BK449.out 5).trans rfl; have hcz15_6 : wc.cell? ⟨gb449, 6, none⟩ = some (.slice A1_6 l1_6.length c1_6) := (blk_cell BK449.out 6).trans rfl; have hcz15_7 : wc.cell? ⟨gb449, 7, none⟩ = some (.slice A1_7 l1_7.length c1_7) := (blk_cell BK449.out 7).trans rfl; have hfz15_0 := blk_frozen BK449.out 0; have hfz15_1 := blk_frozen BK449.out 1; have hfz15_2 := blk_frozen BK449.out 2; have hfz15_3 := blk_frozen BK449.out 3; have hfz15_4 := blk_frozen BK449.out 4; have hfz15_5 := blk_frozen BK449.out 5; have hfz15_6 := blk_frozen BK449.out 6; have hfz15_7 := blk_frozen BK449.out 7) | (go_at_call 7; (with_reducible refine (laws_docFine.calls kj2 a1_0 a1_1 a1_2 a1_3 a1_4 a1_5 _ _ l1_6 _ _ l1_7 t452 _ ?side1 ?side2 ?side3 ?side4 A14.out).mono ?_); (case side1 => repeat (first | exact (Kd.C_below HR1_6.out (by repeat (first | (with_reducible first | exact HB.out | apply below_alloc | apply pw_below_drewN | apply below_drew1 | refine below_set ?_ GE449.out) | exact HB.out))) | (with_reducible refine Kd.C_alloc ?_ _) | (with_reducible refine Kd.C_drewN ?_ _) | (with_reducible refine Kd.C_drew ?_))); (case side2 => exact HC1_6.out); (case side3 => repeat (first | exact (Kd.C_below HR1_7.out (by repeat (first | (with_reducible first | exact HB.out | apply below_alloc | apply pw_below_drewN | apply below_drew1 | refine below_set ?_ GE449.out) | exact HB.out))) | (with_reducible refine Kd.C_alloc ?_ _) | (with_reducible refine Kd.C_drewN ?_ _) | (with_reducible refine Kd.C_drew ?_))); (case side4 => exact HC1_7.out); rintro e w16 ⟨rfl, hb⟩; have n0_ := Aside0.mk (blk_below (g := gb449) (o := .cells #[.int .i64 a1_0, .string a1_1, .string a1_2, .int .i64 a1_3, .int .u64 a1_4, .int .u64 a1_5, .slice A1_6 l1_6.length c1_6, .slice A1_7 l1_7.length c1_7] 26 (0, 0)) (by (with_reducible repeat (first | refine blk_drewN ?_ _ | refine blk_drew ?_ | refine blk_alloc ?_ _)); exact BK449.out) hb); have n1_ := Aside0.mk (below_step (by repeat (first | (with_reducible first | exact HB.out | apply below_alloc | apply pw_below_drewN | apply below_drew1 | refine below_set ?_ GE449.out) | exact HB.out)) hb); clear BK449; clear HB; have BK449 := n0_; have HB := n1_; clear n0_ n1_; (try clear hb); (try clear hb2); (try clear hk); (try clear hi)))
                go_meet
                case rel => exact ⟨_, (!t452), (by first | rfl | (simp; done) | (simp [*]; done)), H', ⟨by have := HJ2.out; first | omega | exact Nat.le_refl _⟩, ⟨by (with_reducible repeat (first | refine blk_drewN ?_ _ | refine blk_drew ?_ | refine blk_alloc ?_ _)); exact BK449.out⟩, ⟨by repeat (first | (with_reducible first | exact HB.out | apply below_alloc | apply pw_below_drewN | apply below_drew1 | refine below_set ?_ GE449.out) | exact HB.out)⟩⟩
            · replace c13 := Bool.eq_false_iff.mpr c13
              subst c13
              have H1 : (laws_FnDocElement.j1 kj2 a0 true a1_0 a1_1 a1_2 a1_3 a1_4 a1_5 l1_6 l1_7) = some r := by rw [if_neg (show ¬ (false = true) by decide)] at H; exact H
              clear H
              have H := H1
              clear H1
              as_aux_lemma =>
                have H' := Aside0.mk H
                clear H
                go_wp2_with (first | (go_at_call 6; (with_reducible refine (spec_DocPlain.calls kj2 a0 false _ A12.out).mono ?_); rintro e w' ⟨rfl, ⟨nd, rfl⟩⟩))
                go_meet
                case rel => exact ⟨_, (true), (by first | rfl | (simp; done) | (simp [*]; done)), H', ⟨by have := HJ2.out; first | omega | exact Nat.le_refl _⟩, ⟨by (with_reducible repeat (first | refine blk_drewN ?_ _ | refine blk_drew ?_ | refine blk_alloc ?_ _)); exact BK449.out⟩, ⟨by repeat (first | (with_reducible first | exact HB.out | apply below_alloc | apply pw_below_drewN | apply below_drew1 | refine below_set ?_ GE449.out) | exact HB.out)⟩⟩
        case rest =>
          clear HC10
          try clear c1
          try clear p2
          try clear c3
          try clear c5
          try clear c5b0
          try clear c5b1
          try clear c9
          try clear c11
          try clear c11b0
          try clear c11b1
          try clear c13
          try clear hcz15_0
          try clear hcz15_1
          try clear hcz15_2
          try clear hcz15_3
          try clear hcz15_4
          try clear hcz15_5
          try clear hcz15_6
          try clear hcz15_7
          try clear hcz7_0
          try clear hcz7_1
          try clear hcz7_2
          try clear hcz7_3
          try clear hcz7_4
          try clear hcz7_5
          try clear hcz7_6
          try clear hcz7_7
          try clear hfz15_0
          try clear hfz15_1
          try clear hfz15_2
          try clear hfz15_3
          try clear hfz15_4
          try clear hfz15_5
          try clear hfz15_6
          try clear hfz15_7
          try clear hfz7_0
          try clear hfz7_1
          try clear hfz7_2
          try clear hfz7_3
          try clear hfz7_4
          try clear hfz7_5
          try clear hfz7_6
          try clear hfz7_7
          try clear p2
          obtain ⟨kq, x32_9, rfl, HA, HJ9, BK449, HB⟩ := hcut
          cases kq with
          | zero => exact absurd HA.out (by simp [laws_FnDocElement.j1])
          | succ kj9 =>
            have H := HA.out
            clear HA
            simp only [laws_FnDocElement.j1] at H
            by_cases c17 : x32_9 = true
            · subst c17
              have H1 : (some true) = some r := by rw [if_pos rfl] at H; exact H
              clear H
              have H := H1
              clear H1
              as_aux_lemma =>
                obtain rfl := Option.some.inj H
                go_wp2
                go_ret
                exact ⟨by first | rfl | (simp [errW_none, errW_some] <;> rfl) | (simp [*, errW_none, errW_some] <;> rfl), by repeat (first | (with_reducible first | exact HB.out | apply below_alloc | apply pw_below_drewN | apply below_drew1 | refine below_set ?_ GE449.out) | exact HB.out)⟩
            · replace c17 := Bool.eq_false_iff.mpr c17
              subst c17
              have H1 : ((spec_DocElem.f kj9 a0 a1_0 a1_1 a1_2 a1_3 a1_4 a1_5 l1_6 l1_7).bind fun t453 => ((impl_ElementKey.f t453).bind fun bt456 => ((impl_ElementKeyBytes.f t453).bind fun bt458 => ((impl_ElementValue.f kj9 t453).bind fun bt462 => (if bt456.2 = 0 then (if bt458.2 = 0 then (if bt462.2.2 = 0 then (if bt456.1.toList = a0.toList then (if (strOfNums bt458.1).toList = a0.toList then ((spec_DocValue.f kj9 a1_0 a1_1 a1_2 a1_3 a1_4 a1_5 l1_6 l1_7).bind fun t468 => ((laws_docSameRaw.f bt462.1 bt462.2.1 a1_0 t468).bind fun t471 => (if t471 = true then (if a0.size < 140737488355328 then ((impl_CompareKey.f kj9 t453 (bytesOf a0)).bind fun t475 => (if t475 = true then ((some (bytesOf a0 : List Int)).bind fun y476 => ((some (([0] : List Int) : List Int)).bind fun y479 => (if y476.length + y479.length < 140737488355328 then ((impl_CompareKey.f kj9 t453 (y476 ++ y479)).bind fun t485 => (some t485)) else (none)))) else (none))) else (none)) else (none)))) else (none)) else (none)) else (none)) else (none)) else (none)))))) = some r := by rw [if_neg (show ¬ (false = true) by decide)] at H; exact H
              clear H
              have H := H1
              clear H1
              replace H := Option.bind_eq_some_iff.mp H
              obtain ⟨t453, A180, H⟩ := H
              replace H : ((impl_ElementKey.f t453).bind fun bt456 => ((impl_ElementKeyBytes.f t453).bind fun bt458 => ((impl_ElementValue.f kj9 t453).bind fun bt462 => (if bt456.2 = 0 then (if bt458.2 = 0 then (if bt462.2.2 = 0 then (if bt456.1.toList = a0.toList then (if (strOfNums bt458.1).toList = a0.toList then ((spec_DocValue.f kj9 a1_0 a1_1 a1_2 a1_3 a1_4 a1_5 l1_6 l1_7).bind fun t468 => ((laws_docSameRaw.f bt462.1 bt462.2.1 a1_0 t468).bind fun t471 => (if t471 = true then (if a0.size < 140737488355328 then ((impl_CompareKey.f kj9 t453 (bytesOf a0)).bind fun t475 => (if t475 = true then ((some (bytesOf a0 : List Int)).bind fun y476 => ((some (([0] : List Int) : List Int)).bind fun y479 => (if y476.length + y479.length < 140737488355328 then ((impl_CompareKey.f kj9 t453 (y476 ++ y479)).bind fun t485 => (some t485)) else (none)))) else (none))) else (none)) else (none)))) else (none)) else (none)) else (none)) else (none)) else (none))))) = some r := H
              have A18 := Aside0.mk A180
              clear A180
              replace H := Option.bind_eq_some_iff.mp H
              obtain ⟨⟨t456, t457⟩, A190, H⟩ := H
              replace H : ((impl_ElementKeyBytes.f t453).bind fun bt458 => ((impl_ElementValue.f kj9 t453).bind fun bt462 => (if t457 = 0 then (if bt458.2 = 0 then (if bt462.2.2 = 0 then (if t456.toList = a0.toList then (if (strOfNums bt458.1).toList = a0.toList then ((spec_DocValue.f kj9 a1_0 a1_1 a1_2 a1_3 a1_4 a1_5 l1_6 l1_7).bind fun t468 => ((laws_docSameRaw.f bt462.1 bt462.2.1 a1_0 t468).bind fun t471 => (if t471 = true then (if a0.size < 140737488355328 then ((impl_CompareKey.f kj9 t453 (bytesOf a0)).bind fun t475 => (if t475 = true then ((some (bytesOf a0 : List Int)).bind fun y476 => ((some (([0] : List Int) : List Int)).bind fun y479 => (if y476.length + y479.length < 140737488355328 then ((impl_CompareKey.f kj9 t453 (y476 ++ y479)).bind fun t485 => (some t485)) else (none)))) else (none))) else (none)) else (none)))) else (none)) else (none)) else (none)) else (none)) else (none)))) = some r := H
              have A19 := Aside0.mk A190
              clear A190
              replace H := Option.bind_eq_some_iff.mp H
              obtain ⟨⟨t458, t459⟩, A200, H⟩ := H
              replace H : ((impl_ElementValue.f kj9 t453).bind fun bt462 => (if t457 = 0 then (if t459 = 0 then (if bt462.2.2 = 0 then (if t456.toList = a0.toList then (if (strOfNums t458).toList = a0.toList then ((spec_DocValue.f kj9 a1_0 a1_1 a1_2 a1_3 a1_4 a1_5 l1_6 l1_7).bind fun t468 => ((laws_docSameRaw.f bt462.1 bt462.2.1 a1_0 t468).bind fun t471 => (if t471 = true then (if a0.size < 140737488355328 then ((impl_CompareKey.f kj9 t453 (bytesOf a0)).bind fun t475 => (if t475 = true then ((some (bytesOf a0 : List Int)).bind fun y476 => ((some (([0] : List Int) : List Int)).bind fun y479 => (if y476.length + y479.length < 140737488355328 then ((impl_CompareKey.f kj9 t453 (y476 ++ y479)).bind fun t485 => (some t485)) else (none)))) else (none))) else (none)) else (none)))) else (none)) else (none)) else (none)) else (none)) else (none))) = some r := H
              have A20 := Aside0.mk A200
              clear A200
              replace H := Option.bind_eq_some_iff.mp H
              obtain ⟨⟨t462, t463, t466⟩, A210, H⟩ := H
              replace H : (if t457 = 0 then (if t459 = 0 then (if t466 = 0 then (if t456.toList = a0.toList then (if (strOfNums t458).toList = a0.toList then ((spec_DocValue.f kj9 a1_0 a1_1 a1_2 a1_3 a1_4 a1_5 l1_6 l1_7).bind fun t468 => ((laws_docSameRaw.f t462 t463 a1_0 t468).bind fun t471 => (if t471 = true then (if a0.size < 140737488355328 then ((impl_CompareKey.f kj9 t453 (bytesOf a0)).bind fun t475 => (if t475 = true then ((some (bytesOf a0 : List Int)).bind fun y476 => ((some (([0] : List Int) : List Int)).bind fun y479 => (if y476.length + y479.length < 140737488355328 then ((impl_CompareKey.f kj9 t453 (y476 ++ y479)).bind fun t485 => (some t485)) else (none)))) else (none))) else (none)) else (none)))) else (none)) else (none)) else (none)) else (none)) else (none)) = some r := H
              have A21 := Aside0.mk A210
              clear A210
              by_cases c22 : t457 = 0
              · rw [if_pos c22] at H
                have c22b0 : (t457 == 0) = true := beq_iff_eq.mpr c22
                have c22b1 : (t457 != 0) = false := bne_eq_false_iff_eq.mpr c22
                clear c22
                by_cases c23 : t459 = 0
                · rw [if_pos c23] at H
                  have c23b0 : (t459 == 0) = true := beq_iff_eq.mpr c23
                  have c23b1 : (t459 != 0) = false := bne_eq_false_iff_eq.mpr c23
                  clear c23
                  by_cases c24 : t466 = 0
                  · rw [if_pos c24] at H
                    have c24b0 : (t466 == 0) = true := beq_iff_eq.mpr c24
                    have c24b1 : (t466 != 0) = false := bne_eq_false_iff_eq.mpr c24
                    clear c24
                    by_cases c25 : t456.toList = a0.toList
                    · rw [if_pos c25] at H
                      have c25b0 : (t456.toList == a0.toList) = true := beq_iff_eq.mpr c25
                      have c25b1 : (t456.toList != a0.toList) = false := bne_eq_false_iff_eq.mpr c25
                      clear c25
                      by_cases c26 : (strOfNums t458).toList = a0.toList
                      · rw [if_pos c26] at H
                        have c26b0 : ((strOfNums t458).toList == a0.toList) = true := beq_iff_eq.mpr c26
                        have c26b1 : ((strOfNums t458).toList != a0.toList) = false := bne_eq_false_iff_eq.mpr c26
                        clear c26
                        replace H := Option.bind_eq_some_iff.mp H
                        obtain ⟨t468, A270, H⟩ := H
                        replace H : ((laws_docSameRaw.f t462 t463 a1_0 t468).bind fun t471 => (if t471 = true then (if a0.size < 140737488355328 then ((impl_CompareKey.f kj9 t453 (bytesOf a0)).bind fun t475 => (if t475 = true then ((some (bytesOf a0 : List Int)).bind fun y476 => ((some (([0] : List Int) : List Int)).bind fun y479 => (if y476.length + y479.length < 140737488355328 then ((impl_CompareKey.f kj9 t453 (y476 ++ y479)).bind fun t485 => (some t485)) else (none)))) else (none))) else (none)) else (none))) = some r := H
                        have A27 := Aside0.mk A270
                        clear A270
                        replace H := Option.bind_eq_some_iff.mp H
                        obtain ⟨t471, A280, H⟩ := H
                        replace H : (if t471 = true then (if a0.size < 140737488355328 then ((impl_CompareKey.f kj9 t453 (bytesOf a0)).bind fun t475 => (if t475 = true then ((some (bytesOf a0 : List Int)).bind fun y476 => ((some (([0] : List Int) : List Int)).bind fun y479 => (if y476.length + y479.length < 140737488355328 then ((impl_CompareKey.f kj9 t453 (y476 ++ y479)).bind fun t485 => (some t485)) else (none)))) else (none))) else (none)) else (none)) = some r := H
                        have A28 := Aside0.mk A280
                        clear A280
                        by_cases c29 : t471 = true
                        · subst c29
                          have H1 : (if a0.size < 140737488355328 then ((impl_CompareKey.f kj9 t453 (bytesOf a0)).bind fun t475 => (if t475 = true then ((some (bytesOf a0 : List Int)).bind fun y476 => ((some (([0] : List Int) : List Int)).bind fun y479 => (if y476.length + y479.length < 140737488355328 then ((impl_CompareKey.f kj9 t453 (y476 ++ y479)).bind fun t485 => (some t485)) else (none)))) else (none))) else (none)) = some r := by rw [if_pos rfl] at H; exact H
                          clear H
                          have H := H1
                          clear H1
                          by_cases c30 : a0.size < 140737488355328
                          · rw [if_pos c30] at H
                            have LMc30 := Aside0.mk c30
                            clear c30
                            obtain ⟨y472, hy472⟩ : ∃ y_ : List Int, y_ = (bytesOf a0) := ⟨_, rfl⟩
                            replace H : ((impl_CompareKey.f kj9 t453 y472).bind fun t475 => (if t475 = true then ((some (bytesOf a0 : List Int)).bind fun y476 => ((some (([0] : List Int) : List Int)).bind fun y479 => (if y476.length + y479.length < 140737488355328 then ((impl_CompareKey.f kj9 t453 (y476 ++ y479)).bind fun t485 => (some t485)) else (none)))) else (none))) = some r := by first | (rw [hy472]; with_reducible exact H) | (have H2_ := (Option.bind_some _ _).symm.trans H; rw [hy472]; with_reducible exact H2_) | (have H2_ := (Option.bind_some _ _).symm.trans H; with_reducible exact H2_) | with_reducible exact H | (rw [hy472]; exact H) | exact H
                            have Ny472 := Aside0.mk hy472
                            clear hy472
                            replace H := Option.bind_eq_some_iff.mp H
                            obtain ⟨t475, A310, H⟩ := H
                            replace H : (if t475 = true then ((some (bytesOf a0 : List Int)).bind fun y476 => ((some (([0] : List Int) : List Int)).bind fun y479 => (if y476.length + y479.length < 140737488355328 then ((impl_CompareKey.f kj9 t453 (y476 ++ y479)).bind fun t485 => (some t485)) else (none)))) else (none)) = some r := H
                            have A31 := Aside0.mk A310
                            clear A310
                            by_cases c32 : t475 = true
                            · subst c32
                              have H1 : ((some (bytesOf a0 : List Int)).bind fun y476 => ((some (([0] : List Int) : List Int)).bind fun y479 => (if y476.length + y479.length < 140737488355328 then ((impl_CompareKey.f kj9 t453 (y476 ++ y479)).bind fun t485 => (some t485)) else (none)))) = some r := by rw [if_pos rfl] at H; exact H
                              clear H
                              have H := H1
                              clear H1
                              obtain ⟨y476, hy476⟩ : ∃ y_ : List Int, y_ = (bytesOf a0) := ⟨_, rfl⟩
                              replace H : ((some (([0] : List Int) : List Int)).bind fun y479 => (if y476.length + y479.length < 140737488355328 then ((impl_CompareKey.f kj9 t453 (y476 ++ y479)).bind fun t485 => (some t485)) else (none))) = some r := by first | (rw [hy476]; with_reducible exact H) | (have H2_ := (Option.bind_some _ _).symm.trans H; rw [hy476]; with_reducible exact H2_) | (have H2_ := (Option.bind_some _ _).symm.trans H; with_reducible exact H2_) | with_reducible exact H | (rw [hy476]; exact H) | exact H
                              have Ny476 := Aside0.mk hy476
                              clear hy476
                              obtain ⟨y479, hy479⟩ : ∃ y_ : List Int, y_ = (([0] : List Int)) := ⟨_, rfl⟩
                              replace H : (if y476.length + y479.length < 140737488355328 then ((impl_CompareKey.f kj9 t453 (y476 ++ y479)).bind fun t485 => (some t485)) else (none)) = some r := by first | (rw [hy479]; with_reducible exact H) | (have H2_ := (Option.bind_some _ _).symm.trans H; rw [hy479]; with_reducible exact H2_) | (have H2_ := (Option.bind_some _ _).symm.trans H; with_reducible exact H2_) | with_reducible exact H | (rw [hy479]; exact H) | exact H
                              have Ny479 := Aside0.mk hy479
                              clear hy479
                              by_cases c33 : y476.length + y479.length < 140737488355328
                              · rw [if_pos c33] at H
                                have LMc33 := Aside0.mk c33
                                clear c33
                                obtain ⟨y482, hy482⟩ : ∃ y_ : List Int, y_ = (y476 ++ y479) := ⟨_, rfl⟩
                                replace H : ((impl_CompareKey.f kj9 t453 y482).bind fun t485 => (some t485)) = some r := by first | (rw [hy482]; with_reducible exact H) | (have H2_ := (Option.bind_some _ _).symm.trans H; rw [hy482]; with_reducible exact H2_) | (have H2_ := (Option.bind_some _ _).symm.trans H; with_reducible exact H2_) | with_reducible exact H | (rw [hy482]; exact H) | exact H
                                have Ny482 := Aside0.mk hy482
                                clear hy482
                                replace H := Option.bind_eq_some_iff.mp H
                                obtain ⟨t485, A340, H⟩ := H
                                replace H : (some t485) = some r := H
                                have A34 := Aside0.mk A340
                                clear A340
                                focus
                                  obtain rfl := Option.some.inj H
                                  have hcz35_0 : wc.cell? ⟨gb449, 0, none⟩ = some (.int .i64 a1_0) := (blk_cell BK449.out 0).trans rfl
                                  have hcz35_1 : wc.cell? ⟨gb449, 1, none⟩ = some (.string a1_1) := (blk_cell BK449.out 1).trans rfl
                                  have hcz35_2 : wc.cell? ⟨gb449, 2, none⟩ = some (.string a1_2) := (blk_cell BK449.out 2).trans rfl
                                  have hcz35_3 : wc.cell? ⟨gb449, 3, none⟩ = some (.int .i64 a1_3) := (blk_cell BK449.out 3).trans rfl
                                  have hcz35_4 : wc.cell? ⟨gb449, 4, none⟩ = some (.int .u64 a1_4) := (blk_cell BK449.out 4).trans rfl
                                  have hcz35_5 : wc.cell? ⟨gb449, 5, none⟩ = some (.int .u64 a1_5) := (blk_cell BK449.out 5).trans rfl
                                  have hcz35_6 : wc.cell? ⟨gb449, 6, none⟩ = some (.slice A1_6 l1_6.length c1_6) := (blk_cell BK449.out 6).trans rfl
                                  have hcz35_7 : wc.cell? ⟨gb449, 7, none⟩ = some (.slice A1_7 l1_7.length c1_7) := (blk_cell BK449.out 7).trans rfl
                                  have hfz35_0 := blk_frozen BK449.out 0
                                  have hfz35_1 := blk_frozen BK449.out 1
                                  have hfz35_2 := blk_frozen BK449.out 2
                                  have hfz35_3 := blk_frozen BK449.out 3
                                  have hfz35_4 := blk_frozen BK449.out 4
                                  have hfz35_5 := blk_frozen BK449.out 5
                                  have hfz35_6 := blk_frozen BK449.out 6
                                  have hfz35_7 := blk_frozen BK449.out 7
                                  try go_wp2_with (first | ((with_reducible refine gate_callee (f := 8) rfl ?_); refine goesL_ (some 36) rfl rfl Tryd.func8 (by kernel_rfl) rfl #[.agg #[.string a0, .int .i64 a1_0, .string a1_1, .string a1_2, .int .i64 a1_3, .int .u64 a1_4, .int .u64 a1_5, .slice A1_6 l1_6.length c1_6, .slice A1_7 l1_7.length c1_7]] rfl (by (try simp only [List.map_toArray, List.map_cons, List.map_nil]); first | done | rfl | (simp only [List.length_drop, List.length_take]; rfl)) ?_; (with_reducible refine (spec_DocElem.calls kj9 a0 a1_0 a1_1 a1_2 a1_3 a1_4 a1_5 _ _ l1_6 _ _ l1_7 t453 _ ?side1 ?side2 ?side3 ?side4 A18.out).mono ?_); (case side1 => repeat (first | exact (Kd.C_below HR1_6.out HB.out) | (with_reducible refine Kd.C_alloc ?_ _) | (with_reducible refine Kd.C_drewN ?_ _) | (with_reducible refine Kd.C_drew ?_))); (case side2 => exact HC1_6.out); (case side3 => repeat (first | exact (Kd.C_below HR1_7.out HB.out) | (with_reducible refine Kd.C_alloc ?_ _) | (with_reducible refine Kd.C_drewN ?_ _) | (with_reducible refine Kd.C_drew ?_))); (case side4 => exact HC1_7.out); rintro e w36 ⟨v454, rfl, ho0, hb⟩; refine ⟨_, rfl, ?_⟩; have n0_ := Aside0.mk (Kd.R_lower ho0 (below_size (by repeat (first | (with_reducible first | exact HB.out | apply below_alloc | apply pw_below_drewN | apply below_drew1 | refine below_set ?_ GE449.out) | exact HB.out)))); have n1_ := Aside0.mk (blk_below (g := gb449) (o := .cells #[.int .i64 a1_0, .string a1_1, .string a1_2, .int .i64 a1_3, .int .u64 a1_4, .int .u64 a1_5, .slice A1_6 l1_6.length c1_6, .slice A1_7 l1_7.length c1_7] 26 (0, 0)) (by (with_reducible repeat (first | refine blk_drewN ?_ _ | refine blk_drew ?_ | refine blk_alloc ?_ _)); exact BK449.out) hb); have n2_ := Aside0.mk (below_step (by repeat (first | (with_reducible first | exact HB.out | apply below_alloc | apply pw_below_drewN | apply below_drew1 | refine below_set ?_ GE449.out) | exact HB.out)) hb); clear BK449; clear HB; have HO455 := n0_; have BK449 := n1_; have HB := n2_; clear n0_ n1_ n2_; (try clear hb); (try clear hb2); (try clear hk); (try clear hi); (try clear ho0); obtain ⟨Ao37, co37, eo37⟩ := Kd.R_slice HO455.out; subst eo37) | ((with_reducible refine gate_callee (f := 9) rfl ?_); refine goesL_ (some 39) rfl rfl Tryd.func9 (by kernel_rfl) rfl #[.slice Ao37 t453.length co37] rfl (by (try simp only [List.map_toArray, List.map_cons, List.map_nil]); first | done | rfl | (simp only [List.length_drop, List.length_take]; rfl)) ?_; (with_reducible refine (impl_ElementKey.calls _ _ t453 t456 t457 _ ?side1 ?side2 A19.out).mono ?_); (case side1 => repeat (first | exact (Kd.R_reads' HO455.out).2.2 | (with_reducible refine Kd.C_alloc ?_ _) | (with_reducible refine Kd.C_drewN ?_ _) | (with_reducible refine Kd.C_drew ?_))); (case side2 => exact (Kd.R_reads' HO455.out).2.1); rintro e w38 ⟨rfl, hb⟩; refine ⟨_, rfl, ?_⟩; have n0_ := Aside0.mk (Kd.R_below (by (with_reducible repeat (first | apply Kd.R_alloc | apply Kd.R_drewN | apply Kd.R_drew)); exact HO455.out) hb); have n1_ := Aside0.mk (blk_below (g := gb449) (o := .cells #[.int .i64 a1_0, .string a1_1, .string a1_2, .int .i64 a1_3, .int .u64 a1_4, .int .u64 a1_5, .slice A1_6 l1_6.length c1_6, .slice A1_7 l1_7.length c1_7] 26 (0, 0)) (by (with_reducible repeat (first | refine blk_drewN ?_ _ | refine blk_drew ?_ | refine blk_alloc ?_ _)); exact BK449.out) hb); have n2_ := Aside0.mk (below_step (by repeat (first | (with_reducible first | exact HB.out | apply below_alloc | apply pw_below_drewN | apply below_drew1 | refine below_set ?_ GE449.out) | exact HB.out)) hb); clear HO455; clear BK449; clear HB; have HO455 := n0_; have BK449 := n1_; have HB := n2_; clear n0_ n1_ n2_; (try clear hb); (try clear hb2); (try clear hk); (try clear hi)) | ((with_reducible refine gate_callee (f := 10) rfl ?_); refine goesL_ (some 44) rfl rfl Tryd.func10 (by kernel_rfl) rfl #[.slice Ao37 t453.length co37] rfl (by (try simp only [List.map_toArray, List.map_cons, List.map_nil]); first | done | rfl | (simp only [List.length_drop, List.length_take]; rfl)) ?_; (with_reducible refine (impl_ElementKeyBytes.calls _ _ t453 t458 t459 _ ?side1 ?side2 A20.out).mono ?_); (case side1 => repeat (first | exact (Kd.R_reads' HO455.out).2.2 | (with_reducible refine Kd.C_alloc ?_ _) | (with_reducible refine Kd.C_drewN ?_ _) | (with_reducible refine Kd.C_drew ?_))); (case side2 => exact (Kd.R_reads' HO455.out).2.1); rintro e w39 ⟨v460, rfl, ho0, hb⟩; refine ⟨_, rfl, ?_⟩; have n0_ := Aside0.mk (Kd.R_elder' (by (with_reducible repeat (first | apply Kd.R_alloc | apply Kd.R_drewN | apply Kd.R_drew)); exact HO455.out) (Kd.R_base ho0) hb); have n1_ := Aside0.mk (Kd.R_lower (Kd.R_new' ho0 (Kd.R_lt (by (with_reducible repeat (first | apply Kd.R_alloc | apply Kd.R_drewN | apply Kd.R_drew)); exact HO455.out))) (below_size (by repeat (first | (with_reducible first | exact HB.out | apply below_alloc | apply pw_below_drewN | apply below_drew1 | refine below_set ?_ GE449.out) | exact HB.out)))); have n2_ := Aside0.mk (blk_below (g := gb449) (o := .cells #[.int .i64 a1_0, .string a1_1, .string a1_2, .int .i64 a1_3, .int .u64 a1_4, .int .u64 a1_5, .slice A1_6 l1_6.length c1_6, .slice A1_7 l1_7.length c1_7] 26 (0, 0)) (by (with_reducible repeat (first | refine blk_drewN ?_ _ | refine blk_drew ?_ | refine blk_alloc ?_ _)); exact BK449.out) hb); have n3_ := Aside0.mk (below_step (by repeat (first | (with_reducible first | exact HB.out | apply below_alloc | apply pw_below_drewN | apply below_drew1 | refine below_set ?_ GE449.out) | exact HB.out)) hb); clear HO455; clear BK449; clear HB; have HO455 := n0_; have HO461 := n1_; have BK449 := n2_; have HB := n3_; clear n0_ n1_ n2_ n3_; (try clear hb); (try clear hb2); (try clear hk); (try clear hi); (try clear ho0)) | ((with_reducible refine gate_callee (f := 11) rfl ?_); refine goesL_ (some 49) rfl rfl Tryd.func11 (by kernel_rfl) rfl #[.slice Ao37 t453.length co37] rfl (by (try simp only [List.map_toArray, List.map_cons, List.map_nil]); first | done | rfl | (simp only [List.length_drop, List.length_take]; rfl)) ?_; (with_reducible refine (impl_ElementValue.calls kj9 _ _ t453 t462 t463 t466 _ ?side1 ?side2 A21.out).mono ?_); (case side1 => repeat (first | exact (Kd.R_reads' HO455.out).2.2 | (with_reducible refine Kd.C_alloc ?_ _) | (with_reducible refine Kd.C_drewN ?_ _) | (with_reducible refine Kd.C_drew ?_))); (case side2 => exact (Kd.R_reads' HO455.out).2.1); rintro e w40 ⟨v464, rfl, ho0, hb⟩; refine ⟨_, rfl, ?_⟩; have n0_ := Aside0.mk (Kd.R_elder' (by (with_reducible repeat (first | apply Kd.R_alloc | apply Kd.R_drewN | apply Kd.R_drew)); exact HO455.out) (Kd.R_base ho0) hb); have n1_ := Aside0.mk (Kd.R_elder' (by (with_reducible repeat (first | apply Kd.R_alloc | apply Kd.R_drewN | apply Kd.R_drew)); exact HO461.out) (Kd.R_base ho0) hb); have n2_ := Aside0.mk (Kd.R_lower (Kd.R_new' (Kd.R_new' ho0 (Kd.R_lt (by (with_reducible repeat (first | apply Kd.R_alloc | apply Kd.R_drewN | apply Kd.R_drew)); exact HO455.out))) (Kd.R_lt (by (with_reducible repeat (first | apply Kd.R_alloc | apply Kd.R_drewN | apply Kd.R_drew)); exact HO461.out))) (below_size (by repeat (first | (with_reducible first | exact HB.out | apply below_alloc | apply pw_below_drewN | apply below_drew1 | refine below_set ?_ GE449.out) | exact HB.out)))); have n3_ := Aside0.mk (blk_below (g := gb449) (o := .cells #[.int .i64 a1_0, .string a1_1, .string a1_2, .int .i64 a1_3, .int .u64 a1_4, .int .u64 a1_5, .slice A1_6 l1_6.length c1_6, .slice A1_7 l1_7.length c1_7] 26 (0, 0)) (by (with_reducible repeat (first | refine blk_drewN ?_ _ | refine blk_drew ?_ | refine blk_alloc ?_ _)); exact BK449.out) hb); have n4_ := Aside0.mk (below_step (by repeat (first | (with_reducible first | exact HB.out | apply below_alloc | apply pw_below_drewN | apply below_drew1 | refine below_set ?_ GE449.out) | exact HB.out)) hb); clear HO455; clear HO461; clear BK449; clear HB; have HO455 := n0_; have HO461 := n1_; have HO465 := n2_; have BK449 := n3_; have HB := n4_; clear n0_ n1_ n2_ n3_ n4_; (try clear hb); (try clear hb2); (try clear hk); (try clear hi); (try clear ho0)) | ((with_reducible refine gate_dst (N := 10) rfl ?_); (try (refine gate_guard (by rfl) ?_; dsimp only)); refine box_event ?hg (N := 10) ?hd (cs := #[.int .i64 0, .slice none 0 0]) (t := 37) ?hr ?_; (case hd => rfl); (case hg => rfl); (case hr => first | (go_simp; done) | (go_simp; rfl)); intro gb467 hg w41 hbox hb; have n0_ := Aside0.mk (Kd.R_below (by (with_reducible repeat (first | apply Kd.R_alloc | apply Kd.R_drewN | apply Kd.R_drew)); exact HO455.out) hb); have n1_ := Aside0.mk (Kd.R_below (by (with_reducible repeat (first | apply Kd.R_alloc | apply Kd.R_drewN | apply Kd.R_drew)); exact HO461.out) hb); have n2_ := Aside0.mk (Kd.R_below (by (with_reducible repeat (first | apply Kd.R_alloc | apply Kd.R_drewN | apply Kd.R_drew)); exact HO465.out) hb); have n3_ := Aside0.mk (blk_below (g := gb449) (o := .cells #[.int .i64 a1_0, .string a1_1, .string a1_2, .int .i64 a1_3, .int .u64 a1_4, .int .u64 a1_5, .slice A1_6 l1_6.length c1_6, .slice A1_7 l1_7.length c1_7] 26 (0, 0)) (by (with_reducible repeat (first | refine blk_drewN ?_ _ | refine blk_drew ?_ | refine blk_alloc ?_ _)); exact BK449.out) hb); have n4_ := Aside0.mk (below_step (by repeat (first | (with_reducible first | exact HB.out | apply below_alloc | apply pw_below_drewN | apply below_drew1 | refine below_set ?_ GE449.out) | exact HB.out)) hb); have n5_ := Aside0.mk (hbox); have n6_ := Aside0.mk ((by rw [hg]; exact (below_size (by repeat (first | (with_reducible first | exact HB.out | apply below_alloc | apply pw_below_drewN | apply below_drew1 | refine below_set ?_ GE449.out) | exact HB.out))) : w.heap.size ≤ gb467)); have n7_ := Aside0.mk ((by rw [hg]; exact (below_size (by repeat (first | (with_reducible first | exact HB.out | apply below_alloc | apply pw_below_drewN | apply below_drew1 | refine below_set ?_ GE449.out) | exact HB.out))) : w.heap.size ≤ gb467)); have n8_ := Aside0.mk ((by rw [hg]; exact Nat.ne_of_lt (blk_lt (g := gb449) (o := .cells #[.int .i64 a1_0, .string a1_1, .string a1_2, .int .i64 a1_3, .int .u64 a1_4, .int .u64 a1_5, .slice A1_6 l1_6.length c1_6, .slice A1_7 l1_7.length c1_7] 26 (0, 0)) (by (with_reducible repeat (first | refine blk_drewN ?_ _ | refine blk_drew ?_ | refine blk_alloc ?_ _)); exact BK449.out)) : gb449 ≠ gb467)); have n9_ := Aside0.mk ((by rw [hg]; exact Nat.ne_of_gt (blk_lt (g := gb449) (o := .cells #[.int .i64 a1_0, .string a1_1, .string a1_2, .int .i64 a1_3, .int .u64 a1_4, .int .u64 a1_5, .slice A1_6 l1_6.length c1_6, .slice A1_7 l1_7.length c1_7] 26 (0, 0)) (by (with_reducible repeat (first | refine blk_drewN ?_ _ | refine blk_drew ?_ | refine blk_alloc ?_ _)); exact BK449.out)) : gb467 ≠ gb449)); clear HO455; clear HO461; clear HO465; clear BK449; clear HB; have HO455 := n0_; have HO461 := n1_; have HO465 := n2_; have BK449 := n3_; have HB := n4_; have BK467 := n5_; have GW467 := n6_; have GE467 := n7_; have NB449_467 := n8_; have NB467_449 := n9_; clear n0_ n1_ n2_ n3_ n4_ n5_ n6_ n7_ n8_ n9_; clear hb hbox hg; have hnb42 := NB467_449.out; have hnc42 := NB449_467.out; have hcz43_0 : w41.cell? ⟨gb467, 0, none⟩ = some (.int .i64 0) := (blk_cell BK467.out 0).trans rfl; have hcz43_1 : w41.cell? ⟨gb467, 1, none⟩ = some (.slice none 0 0) := (blk_cell BK467.out 1).trans rfl; have hfz43_0 := blk_frozen BK467.out 0; have hfz43_1 := blk_frozen BK467.out 1; obtain ⟨Ao44, co44, eo44⟩ := Kd.R_slice HO465.out; subst eo44))
                                  have n0_ : Aside0 (Kd.R (Kd.int .u8) 5 ((w41.setCell ⟨gb467, 0, none⟩ (.int .i64 t462)).setCell ⟨gb467, 1, none⟩ (.slice Ao44 t463.length co44)) w.heap.size (fun k_ => some k_ ≠ (v460 : Value).ownBlock ∧ some k_ ≠ (.slice Ao44 t463.length co44 : Value).ownBlock) (.slice Ao37 t453.length co37) t453) := ⟨by (with_reducible repeat (first | apply Kd.R_alloc | apply Kd.R_drewN | apply Kd.R_drew)); exact Kd.R_mono (Kd.R_far (p := ⟨gb467, 1, none⟩) (Kd.R_far (p := ⟨gb467, 0, none⟩) (Kd.R_types HO455.out BK467.out (by decide)) (fun _ hk => hk.2) (.int .i64 t462)) (fun _ hk => hk.2) (.slice Ao44 t463.length co44)) (fun _ hk => ⟨hk.1.1.2, hk.1.2⟩)⟩
                                  have n1_ : Aside0 (Kd.R (Kd.int .u8) 5 ((w41.setCell ⟨gb467, 0, none⟩ (.int .i64 t462)).setCell ⟨gb467, 1, none⟩ (.slice Ao44 t463.length co44)) w.heap.size (fun k_ => some k_ ≠ (.slice Ao37 t453.length co37 : Value).ownBlock ∧ some k_ ≠ (.slice Ao44 t463.length co44 : Value).ownBlock) v460 t458) := ⟨by (with_reducible repeat (first | apply Kd.R_alloc | apply Kd.R_drewN | apply Kd.R_drew)); exact Kd.R_mono (Kd.R_far (p := ⟨gb467, 1, none⟩) (Kd.R_far (p := ⟨gb467, 0, none⟩) (Kd.R_types HO461.out BK467.out (by decide)) (fun _ hk => hk.2) (.int .i64 t462)) (fun _ hk => hk.2) (.slice Ao44 t463.length co44)) (fun _ hk => ⟨hk.1.1.2, hk.1.2⟩)⟩
                                  have n2_ : Aside0 (Kd.R (Kd.int .u8) 5 ((w41.setCell ⟨gb467, 0, none⟩ (.int .i64 t462)).setCell ⟨gb467, 1, none⟩ (.slice Ao44 t463.length co44)) w.heap.size (fun k_ => some k_ ≠ (.slice Ao37 t453.length co37 : Value).ownBlock ∧ some k_ ≠ (v460 : Value).ownBlock) (.slice Ao44 t463.length co44) t463) := ⟨by (with_reducible repeat (first | apply Kd.R_alloc | apply Kd.R_drewN | apply Kd.R_drew)); exact Kd.R_mono (Kd.R_far (p := ⟨gb467, 1, none⟩) (Kd.R_far (p := ⟨gb467, 0, none⟩) (Kd.R_types HO465.out BK467.out (by decide)) (fun _ hk => hk.2) (.int .i64 t462)) (fun _ hk => hk.2) (.slice Ao44 t463.length co44)) (fun _ hk => ⟨hk.1.1.2, hk.1.2⟩)⟩
                                  have n3_ : Aside0 (((w41.setCell ⟨gb467, 0, none⟩ (.int .i64 t462)).setCell ⟨gb467, 1, none⟩ (.slice Ao44 t463.length co44)).heap[gb449]? = some (.cells #[.int .i64 a1_0, .string a1_1, .string a1_2, .int .i64 a1_3, .int .u64 a1_4, .int .u64 a1_5, .slice A1_6 l1_6.length c1_6, .slice A1_7 l1_7.length c1_7] 26 (0, 0))) := ⟨by (with_reducible repeat (first | refine blk_drewN ?_ _ | refine blk_drew ?_ | refine blk_alloc ?_ _)); refine blk_far ?_ NB449_467.out _; (with_reducible repeat (first | refine blk_drewN ?_ _ | refine blk_drew ?_ | refine blk_alloc ?_ _)); refine blk_far ?_ NB449_467.out _; (with_reducible repeat (first | refine blk_drewN ?_ _ | refine blk_drew ?_ | refine blk_alloc ?_ _)); exact BK449.out⟩
                                  have n4_ : Aside0 (((w41.setCell ⟨gb467, 0, none⟩ (.int .i64 t462)).setCell ⟨gb467, 1, none⟩ (.slice Ao44 t463.length co44)).heap[gb467]? = some (.cells #[.int .i64 t462, .slice Ao44 t463.length co44] 37 (0, 0))) := ⟨by (with_reducible repeat (first | refine blk_drewN ?_ _ | refine blk_drew ?_ | refine blk_alloc ?_ _)); refine blk_put (cs := #[.int .i64 t462, .slice none 0 0]) ?_ 1 _ rfl; (with_reducible repeat (first | refine blk_drewN ?_ _ | refine blk_drew ?_ | refine blk_alloc ?_ _)); refine blk_put (cs := #[.int .i64 0, .slice none 0 0]) ?_ 0 _ rfl; (with_reducible repeat (first | refine blk_drewN ?_ _ | refine blk_drew ?_ | refine blk_alloc ?_ _)); exact BK467.out⟩
                                  have n5_ : Aside0 (Below w.heap.size w ((w41.setCell ⟨gb467, 0, none⟩ (.int .i64 t462)).setCell ⟨gb467, 1, none⟩ (.slice Ao44 t463.length co44))) := ⟨by repeat (first | (with_reducible first | exact HB.out | apply below_alloc | apply pw_below_drewN | apply below_drew1 | refine below_set ?_ GE449.out | refine below_set ?_ GE467.out) | exact HB.out)⟩
                                  (try clear HO455)
                                  (try clear HO461)
                                  (try clear HO465)
                                  (try clear BK449)
                                  (try clear BK467)
                                  (try clear HB)
                                  generalize ((w41.setCell ⟨gb467, 0, none⟩ (.int .i64 t462)).setCell ⟨gb467, 1, none⟩ (.slice Ao44 t463.length co44)) = w45 at n0_ n1_ n2_ n3_ n4_ n5_ ⊢
                                  have HO455 := n0_
                                  have HO461 := n1_
                                  have HO465 := n2_
                                  have BK449 := n3_
                                  have BK467 := n4_
                                  have HB := n5_
                                  clear n0_ n1_ n2_ n3_ n4_ n5_
                                  have n0_ := Aside0.mk (Kd.R_drew HO455.out)
                                  have n1_ := Aside0.mk (Kd.R_drew HO461.out)
                                  have n2_ := Aside0.mk (Kd.R_drew HO465.out)
                                  have n3_ := Aside0.mk (blk_drew BK449.out)
                                  have n4_ := Aside0.mk (blk_drew BK467.out)
                                  have n5_ := Aside0.mk (below_drew1 HB.out)
                                  clear HO455
                                  clear HO461
                                  clear HO465
                                  clear BK449
                                  clear BK467
                                  clear HB
                                  have HO455 := n0_
                                  have HO461 := n1_
                                  have HO465 := n2_
                                  have BK449 := n3_
                                  have BK467 := n4_
                                  have HB := n5_
                                  clear n0_ n1_ n2_ n3_ n4_ n5_
                                  have hcv47 := own_string (P := Tryd.prog) Tryd.underlying23 Tryd.underlying5 Tryd.underlying9 (Kd.own_of_R HO461.out)
                                  refine start_ (n := 44) (S := fun w' => w'.cell? ⟨gb467, 0, none⟩ = some (.int .i64 t462) ∧ w'.cell? ⟨gb467, 1, none⟩ = some (.slice Ao44 t463.length co44) ∧ w'.cell? ⟨gb449, 0, none⟩ = some (.int .i64 a1_0) ∧ w'.cell? ⟨gb449, 1, none⟩ = some (.string a1_1) ∧ w'.cell? ⟨gb449, 2, none⟩ = some (.string a1_2) ∧ w'.cell? ⟨gb449, 3, none⟩ = some (.int .i64 a1_3) ∧ w'.cell? ⟨gb449, 4, none⟩ = some (.int .u64 a1_4) ∧ w'.cell? ⟨gb449, 5, none⟩ = some (.int .u64 a1_5) ∧ w'.cell? ⟨gb449, 6, none⟩ = some (.slice A1_6 l1_6.length c1_6) ∧ w'.cell? ⟨gb449, 7, none⟩ = some (.slice A1_7 l1_7.length c1_7)) (ds := []) #[false, false, false, false, false, false, false, false, false, false, false, false, false, false, false, false, false, false, false, false, false, false, false, false, false, false, false, false, false, false, false, false, false, false, false, false, false, false, false, false, false, false, false, false] (by kernel_rfl) rfl rfl ⟨(blk_cell BK467.out 0).trans rfl, (blk_cell BK467.out 1).trans rfl, (blk_cell BK449.out 0).trans rfl, (blk_cell BK449.out 1).trans rfl, (blk_cell BK449.out 2).trans rfl, (blk_cell BK449.out 3).trans rfl, (blk_cell BK449.out 4).trans rfl, (blk_cell BK449.out 5).trans rfl, (blk_cell BK449.out 6).trans rfl, (blk_cell BK449.out 7).trans rfl⟩ (fun hHeld => ?_); refine with_tabW laws_FnDocElement.tab9 laws_FnDocElement.bits9 (fun HT_ HW_ => ?_)
                                  generalize w45.drew = w46 at HO455 HO461 HO465 BK449 BK467 HB hHeld ⊢
                                  refine pure_ (i := 0) (N := some 52) (v := ?_) (a' := ?_) #[true, false, false, false, false, false, false, false, false, false, false, false, false, false, false, false, false, false, false, false, false, false, false, false, false, false, false, false, false, false, false, false, false, false, false, false, false, false, false, false, false, false, false, false] rfl rfl (any_of HT_.out (by kernel_rfl)) (fun _ _ _ h => h) (Or.inl ⟨by rfl, ?_⟩) ?_ ?_
                                  rotate_left
                                  · intro w'
                                    go_simp
                                    with_reducible rfl
                                  rotate_left
                                  · simp only [Act.put, List.setIfInBounds_toArray, List.set_cons_zero, List.set_cons_succ, i64_w, i32_w]
                                    rfl
                                  refine pure_ (i := 1) (N := some 53) (v := ?_) (a' := ?_) #[true, true, false, false, false, false, false, false, false, false, false, false, false, false, false, false, false, false, false, false, false, false, false, false, false, false, false, false, false, false, false, false, false, false, false, false, false, false, false, false, false, false, false, false] rfl rfl (any_of HT_.out (by kernel_rfl)) (fun _ _ _ h => h) (Or.inl ⟨by rfl, ?_⟩) ?_ ?_
                                  rotate_left
                                  · intro w'
                                    go_simp
                                    with_reducible rfl
                                  rotate_left
                                  · simp only [Act.put, List.setIfInBounds_toArray, List.set_cons_zero, List.set_cons_succ, i64_w, i32_w]
                                    rfl
                                  refine pure_ (i := 2) (N := some 54) (v := ?_) (a' := ?_) #[true, true, true, false, false, false, false, false, false, false, false, false, false, false, false, false, false, false, false, false, false, false, false, false, false, false, false, false, false, false, false, false, false, false, false, false, false, false, false, false, false, false, false, false] rfl rfl (any_of HT_.out (by kernel_rfl)) (fun _ _ _ h => h) (Or.inl ⟨by rfl, ?_⟩) ?_ ?_
                                  rotate_left
                                  · intro w'
                                    go_simp
                                    with_reducible rfl
                                  rotate_left
                                  · simp only [Act.put, List.setIfInBounds_toArray, List.set_cons_zero, List.set_cons_succ, i64_w, i32_w]
                                    rfl
                                  refine pure_ (i := 3) (N := some 55) (v := ?_) (a' := ?_) #[true, true, true, true, false, false, false, false, false, false, false, false, false, false, false, false, false, false, false, false, false, false, false, false, false, false, false, false, false, false, false, false, false, false, false, false, false, false, false, false, false, false, false, false] rfl rfl (any_of HT_.out (by kernel_rfl)) (fun _ _ _ h => h) (Or.inl ⟨by rfl, ?_⟩) ?_ ?_
                                  rotate_left
                                  · intro w'
                                    go_simp
                                    with_reducible rfl
                                  rotate_left
                                  · simp only [Act.put, List.setIfInBounds_toArray, List.set_cons_zero, List.set_cons_succ, i64_w, i32_w]
                                    rfl
                                  refine pure_ (i := 4) (N := some 56) (v := ?_) (a' := ?_) #[true, true, true, true, true, false, false, false, false, false, false, false, false, false, false, false, false, false, false, false, false, false, false, false, false, false, false, false, false, false, false, false, false, false, false, false, false, false, false, false, false, false, false, false] rfl rfl (any_of HT_.out (by kernel_rfl)) (fun _ _ _ h => h) (Or.inl ⟨by rfl, ?_⟩) ?_ ?_
                                  rotate_left
                                  · intro w'
                                    go_simp
                                    with_reducible rfl
                                  rotate_left
                                  · simp only [Act.put, List.setIfInBounds_toArray, List.set_cons_zero, List.set_cons_succ, i64_w, i32_w]
                                    rfl
                                  refine pure_ (i := 5) (N := some 57) (v := ?_) (a' := ?_) #[true, true, true, true, true, true, false, false, false, false, false, false, false, false, false, false, false, false, false, false, false, false, false, false, false, false, false, false, false, false, false, false, false, false, false, false, false, false, false, false, false, false, false, false] rfl rfl (any_of HT_.out (by kernel_rfl)) (fun _ _ _ h => h) (Or.inl ⟨by rfl, ?_⟩) ?_ ?_
                                  rotate_left
                                  · intro w'
                                    go_simp
                                    with_reducible rfl
                                  rotate_left
                                  · simp only [Act.put, List.setIfInBounds_toArray, List.set_cons_zero, List.set_cons_succ, i64_w, i32_w]
                                    rfl
                                  refine pure_ (i := 6) (N := some 58) (v := ?_) (a' := ?_) #[true, true, true, true, true, true, true, false, false, false, false, false, false, false, false, false, false, false, false, false, false, false, false, false, false, false, false, false, false, false, false, false, false, false, false, false, false, false, false, false, false, false, false, false] rfl rfl (any_of HT_.out (by kernel_rfl)) (fun _ _ _ h => h) (Or.inl ⟨by rfl, ?_⟩) ?_ ?_
                                  rotate_left
                                  · intro w'
                                    go_simp
                                    with_reducible rfl
                                  rotate_left
                                  · simp only [Act.put, List.setIfInBounds_toArray, List.set_cons_zero, List.set_cons_succ, i64_w, i32_w]
                                    rfl
                                  refine pure_ (i := 7) (N := some 59) (v := ?_) (a' := ?_) #[true, true, true, true, true, true, true, true, false, false, false, false, false, false, false, false, false, false, false, false, false, false, false, false, false, false, false, false, false, false, false, false, false, false, false, false, false, false, false, false, false, false, false, false] rfl rfl (any_of HT_.out (by kernel_rfl)) (fun _ _ _ h => h) (Or.inl ⟨by rfl, ?_⟩) ?_ ?_
                                  rotate_left
                                  · intro w'
                                    go_simp
                                    with_reducible rfl
                                  rotate_left
                                  · simp only [Act.put, List.setIfInBounds_toArray, List.set_cons_zero, List.set_cons_succ, i64_w, i32_w]
                                    rfl
                                  refine pure_ (i := 8) (N := some 60) (v := ?_) (a' := ?_) #[true, true, true, true, true, true, true, true, true, false, false, false, false, false, false, false, false, false, false, false, false, false, false, false, false, false, false, false, false, false, false, false, false, false, false, false, false, false, false, false, false, false, false, false] rfl rfl (any_of HT_.out (by kernel_rfl)) (fun _ _ _ h => h) (Or.inl ⟨by rfl, ?_⟩) ?_ ?_
                                  rotate_left
                                  · intro w'
                                    go_simp
                                    with_reducible rfl
                                  rotate_left
                                  · simp only [Act.put, List.setIfInBounds_toArray, List.set_cons_zero, List.set_cons_succ, i64_w, i32_w]
                                    rfl
                                  refine pure_ (i := 9) (N := some 61) (v := ?_) (a' := ?_) #[true, true, true, true, true, true, true, true, true, true, false, false, false, false, false, false, false, false, false, false, false, false, false, false, false, false, false, false, false, false, false, false, false, false, false, false, false, false, false, false, false, false, false, false] rfl rfl (any_of HT_.out (by kernel_rfl)) (fun _ _ _ h => h) (Or.inl ⟨by rfl, ?_⟩) ?_ ?_
                                  rotate_left
                                  · intro w'
                                    go_simp
                                    with_reducible rfl
                                  rotate_left
                                  · simp only [Act.put, List.setIfInBounds_toArray, List.set_cons_zero, List.set_cons_succ, i64_w, i32_w]
                                    rfl
                                  refine pure_ (i := 10) (N := some 62) (v := ?_) (a' := ?_) #[true, true, true, true, true, true, true, true, true, true, true, false, false, false, false, false, false, false, false, false, false, false, false, false, false, false, false, false, false, false, false, false, false, false, false, false, false, false, false, false, false, false, false, false] rfl rfl (any_of HT_.out (by kernel_rfl)) (fun _ _ _ h => h) (Or.inl ⟨by rfl, ?_⟩) ?_ ?_
                                  rotate_left
                                  · intro w'
                                    go_simp
                                    with_reducible rfl
                                  rotate_left
                                  · simp only [Act.put, List.setIfInBounds_toArray, List.set_cons_zero, List.set_cons_succ, i64_w, i32_w]
                                    rfl
                                  refine pure_ (i := 11) (N := some 63) (v := ?_) (a' := ?_) #[true, true, true, true, true, true, true, true, true, true, true, true, false, false, false, false, false, false, false, false, false, false, false, false, false, false, false, false, false, false, false, false, false, false, false, false, false, false, false, false, false, false, false, false] rfl rfl (any_of HT_.out (by kernel_rfl)) (fun _ _ _ h => h) (Or.inl ⟨by rfl, ?_⟩) ?_ ?_
                                  rotate_left
                                  · intro w'
                                    go_simp
                                    with_reducible rfl
                                  rotate_left
                                  · simp only [Act.put, List.setIfInBounds_toArray, List.set_cons_zero, List.set_cons_succ, i64_w, i32_w]
                                    rfl
                                  refine pure_ (i := 12) (N := some 64) (v := ?_) (a' := ?_) #[true, true, true, true, true, true, true, true, true, true, true, true, true, false, false, false, false, false, false, false, false, false, false, false, false, false, false, false, false, false, false, false, false, false, false, false, false, false, false, false, false, false, false, false] rfl rfl (any_of HT_.out (by kernel_rfl)) (fun _ _ _ h => h) (Or.inl ⟨by rfl, ?_⟩) ?_ ?_
                                  rotate_left
                                  · intro w'
                                    go_simp
                                    with_reducible rfl
                                  rotate_left
                                  · simp only [Act.put, List.setIfInBounds_toArray, List.set_cons_zero, List.set_cons_succ, i64_w, i32_w]
                                    rfl
                                  refine pure_ (i := 13) (N := some 65) (v := ?_) (a' := ?_) #[true, true, true, true, true, true, true, true, true, true, true, true, true, true, false, false, false, false, false, false, false, false, false, false, false, false, false, false, false, false, false, false, false, false, false, false, false, false, false, false, false, false, false, false] rfl rfl (any_of HT_.out (by kernel_rfl)) (fun _ _ _ h => h) (Or.inl ⟨by rfl, ?_⟩) ?_ ?_
                                  rotate_left
                                  · intro w'
                                    go_simp
                                    with_reducible rfl
                                  rotate_left
                                  · simp only [Act.put, List.setIfInBounds_toArray, List.set_cons_zero, List.set_cons_succ, i64_w, i32_w]
                                    rfl
                                  refine pure_ (i := 14) (N := some 66) (v := ?_) (a' := ?_) #[true, true, true, true, true, true, true, true, true, true, true, true, true, true, true, false, false, false, false, false, false, false, false, false, false, false, false, false, false, false, false, false, false, false, false, false, false, false, false, false, false, false, false, false] rfl rfl (any_of HT_.out (by kernel_rfl)) (fun _ _ _ h => h) (Or.inl ⟨by rfl, ?_⟩) ?_ ?_
                                  rotate_left
                                  · intro w'
                                    go_simp
                                    with_reducible rfl
                                  rotate_left
                                  · simp only [Act.put, List.setIfInBounds_toArray, List.set_cons_zero, List.set_cons_succ, i64_w, i32_w]
                                    rfl
                                  refine pure_ (i := 15) (N := some 67) (v := ?_) (a' := ?_) #[true, true, true, true, true, true, true, true, true, true, true, true, true, true, true, true, false, false, false, false, false, false, false, false, false, false, false, false, false, false, false, false, false, false, false, false, false, false, false, false, false, false, false, false] rfl rfl (any_of HT_.out (by kernel_rfl)) (fun _ _ _ h => h) (Or.inl ⟨by rfl, ?_⟩) ?_ ?_
                                  rotate_left
                                  · intro w'
                                    go_simp
                                    with_reducible rfl
                                  rotate_left
                                  · simp only [Act.put, List.setIfInBounds_toArray, List.set_cons_zero, List.set_cons_succ, i64_w, i32_w]
                                    rfl
                                  refine pure_ (i := 16) (N := some 68) (v := ?_) (a' := ?_) #[true, true, true, true, true, true, true, true, true, true, true, true, true, true, true, true, true, false, false, false, false, false, false, false, false, false, false, false, false, false, false, false, false, false, false, false, false, false, false, false, false, false, false, false] rfl rfl (any_of HT_.out (by kernel_rfl)) (fun _ _ _ h => h) (Or.inl ⟨by rfl, ?_⟩) ?_ ?_
                                  rotate_left
                                  · intro w'
                                    go_simp
                                    with_reducible rfl
                                  rotate_left
                                  · simp only [Act.put, List.setIfInBounds_toArray, List.set_cons_zero, List.set_cons_succ, i64_w, i32_w]
                                    rfl
                                  refine pure_ (i := 18) (N := some 70) (v := ?_) (a' := ?_) #[true, true, true, true, true, true, true, true, true, true, true, true, true, true, true, true, true, false, true, false, false, false, false, false, false, false, false, false, false, false, false, false, false, false, false, false, false, false, false, false, false, false, false, false] rfl rfl (any_of HT_.out (by kernel_rfl)) (fun _ _ _ h => h) (Or.inl ⟨by rfl, ?_⟩) ?_ ?_
                                  rotate_left
                                  · intro w'
                                    go_simp
                                    with_reducible rfl
                                  rotate_left
                                  · simp only [Act.put, List.setIfInBounds_toArray, List.set_cons_zero, List.set_cons_succ, i64_w, i32_w]
                                    rfl
                                  refine one_ (i := 17) (N := some 69) #[true, true, true, true, true, true, true, true, true, true, true, true, true, true, true, true, true, true, true, false, false, false, false, false, false, false, false, false, false, false, false, false, false, false, false, false, false, false, false, false, false, false, false, false] rfl rfl (one_of HT_.out (by kernel_rfl)) (by decide) (fun K hK => ?_)
                                  have hcv := own_string (P := Tryd.prog) Tryd.underlying23 Tryd.underlying5 Tryd.underlying9 (Kd.own_of_R HO461.out)
                                  refine value_ (v := .string (strOfNums t458)) (w1 := w46) (by rfl) rfl ?_ ?_
                                  · go_simp
                                  refine hK.out _ _ hHeld (fun hHeld => ?_)
                                  clear hK K hcv
                                  refine norm_ (a' := ?_) ?_ ?_
                                  rotate_left
                                  · show Act.put _ (some 69) _ = _
                                    simp only [Act.put, List.setIfInBounds_toArray, List.set_cons_zero, List.set_cons_succ, i64_w, i32_w]
                                    rfl
                                  refine pure_ (i := 19) (N := some 71) (v := ?_) (a' := ?_) #[true, true, true, true, true, true, true, true, true, true, true, true, true, true, true, true, true, true, true, true, false, false, false, false, false, false, false, false, false, false, false, false, false, false, false, false, false, false, false, false, false, false, false, false] rfl rfl (any_of HT_.out (by kernel_rfl)) (fun _ _ _ h => h) (Or.inl ⟨by rfl, ?_⟩) ?_ ?_
                                  rotate_left
                                  · intro w'
                                    go_simp
                                    with_reducible rfl
                                  rotate_left
                                  · simp only [Act.put, List.setIfInBounds_toArray, List.set_cons_zero, List.set_cons_succ, i64_w, i32_w]
                                    rfl
                                  refine pure_ (i := 20) (N := some 72) (v := ?_) (a' := ?_) #[true, true, true, true, true, true, true, true, true, true, true, true, true, true, true, true, true, true, true, true, true, false, false, false, false, false, false, false, false, false, false, false, false, false, false, false, false, false, false, false, false, false, false, false] rfl rfl (any_of HT_.out (by kernel_rfl)) (fun _ _ _ h => h) (Or.inl ⟨by rfl, ?_⟩) ?_ ?_
                                  rotate_left
                                  · intro w'
                                    go_simp
                                    with_reducible rfl
                                  rotate_left
                                  · simp only [Act.put, List.setIfInBounds_toArray, List.set_cons_zero, List.set_cons_succ, i64_w, i32_w]
                                    rfl
                                  refine pure_ (i := 21) (N := some 73) (v := ?_) (a' := ?_) #[true, true, true, true, true, true, true, true, true, true, true, true, true, true, true, true, true, true, true, true, true, true, false, false, false, false, false, false, false, false, false, false, false, false, false, false, false, false, false, false, false, false, false, false] rfl rfl (any_of HT_.out (by kernel_rfl)) (fun _ _ _ h => h) (Or.inl ⟨by rfl, ?_⟩) ?_ ?_
                                  rotate_left
                                  · intro w'
                                    go_simp
                                    with_reducible rfl
                                  rotate_left
                                  · simp only [Act.put, List.setIfInBounds_toArray, List.set_cons_zero, List.set_cons_succ, i64_w, i32_w]
                                    rfl
                                  refine pure_ (i := 23) (N := some 75) (v := ?_) (a' := ?_) #[true, true, true, true, true, true, true, true, true, true, true, true, true, true, true, true, true, true, true, true, true, true, false, true, false, false, false, false, false, false, false, false, false, false, false, false, false, false, false, false, false, false, false, false] rfl rfl (any_of HT_.out (by kernel_rfl)) (fun _ _ _ h => h) (Or.inl ⟨by rfl, ?_⟩) ?_ ?_
                                  rotate_left
                                  · intro w'
                                    go_simp
                                    with_reducible rfl
                                  rotate_left
                                  · simp only [Act.put, List.setIfInBounds_toArray, List.set_cons_zero, List.set_cons_succ, i64_w, i32_w]
                                    rfl
                                  refine take_ (i := 22) (N := some 74) (v := ?_) (a' := ?_) #[true, true, true, true, true, true, true, true, true, true, true, true, true, true, true, true, true, true, true, true, true, true, true, true, false, false, false, false, false, false, false, false, false, false, false, false, false, false, false, false, false, false, false, false] rfl rfl (take_ofW HT_.out HW_.out (by kernel_rfl)) (fun _ _ _ h => h) (Or.inl ⟨by rfl, ?_⟩) hHeld ?_ ?_
                                  rotate_left
                                  · rintro w' ⟨s0, s1, s2, s3, s4, s5, s6, s7, s8, s9⟩
                                    go_simp
                                    with_reducible rfl
                                  rotate_left
                                  · simp only [Act.put, List.setIfInBounds_toArray, List.set_cons_zero, List.set_cons_succ, i64_w, i32_w]
                                    rfl
                                  refine take_ (i := 24) (N := some 76) (v := ?_) (a' := ?_) #[true, true, true, true, true, true, true, true, true, true, true, true, true, true, true, true, true, true, true, true, true, true, true, true, true, false, false, false, false, false, false, false, false, false, false, false, false, false, false, false, false, false, false, false] rfl rfl (take_ofW HT_.out HW_.out (by kernel_rfl)) (fun _ _ _ h => h) (Or.inl ⟨by rfl, ?_⟩) hHeld ?_ ?_
                                  rotate_left
                                  · rintro w' ⟨s0, s1, s2, s3, s4, s5, s6, s7, s8, s9⟩
                                    go_simp
                                    with_reducible rfl
                                  rotate_left
                                  · simp only [Act.put, List.setIfInBounds_toArray, List.set_cons_zero, List.set_cons_succ, i64_w, i32_w]
                                    rfl
                                  refine take_ (i := 25) (N := some 77) (v := ?_) (a' := ?_) #[true, true, true, true, true, true, true, true, true, true, true, true, true, true, true, true, true, true, true, true, true, true, true, true, true, true, false, false, false, false, false, false, false, false, false, false, false, false, false, false, false, false, false, false] rfl rfl (take_ofW HT_.out HW_.out (by kernel_rfl)) (fun _ _ _ h => h) (Or.inl ⟨by rfl, ?_⟩) hHeld ?_ ?_
                                  rotate_left
                                  · rintro w' ⟨s0, s1, s2, s3, s4, s5, s6, s7, s8, s9⟩
                                    go_simp
                                    with_reducible rfl
                                  rotate_left
                                  · simp only [Act.put, List.setIfInBounds_toArray, List.set_cons_zero, List.set_cons_succ, i64_w, i32_w]
                                    rfl
                                  refine one_ (i := 26) (N := some 78) #[true, true, true, true, true, true, true, true, true, true, true, true, true, true, true, true, true, true, true, true, true, true, true, true, true, true, true, false, false, false, false, false, false, false, false, false, false, false, false, false, false, false, false, false] rfl rfl (one_of HT_.out (by kernel_rfl)) (by decide) (fun K hK => ?_)
                                  refine goes_ Tryd.func13 (by kernel_rfl) rfl #[.agg #[.int .i64 a1_0, .string a1_1, .string a1_2, .int .i64 a1_3, .int .u64 a1_4, .int .u64 a1_5, .slice A1_6 l1_6.length c1_6, .slice A1_7 l1_7.length c1_7]] (by rfl) rfl rfl (by (try simp only [List.map_toArray, List.map_cons, List.map_nil]); first | done | rfl | (simp only [List.length_drop, List.length_take]; rfl)) ?_
                                  with_reducible refine (spec_DocValue.calls kj9 a1_0 a1_1 a1_2 a1_3 a1_4 a1_5 _ _ l1_6 _ _ l1_7 t468 _ ?side1 ?side2 ?side3 ?side4 A27.out).mono ?_
                                  (case side1 => repeat (first | exact (Kd.C_below HR1_6.out HB.out) | (with_reducible refine Kd.C_alloc ?_ _) | (with_reducible refine Kd.C_drewN ?_ _) | (with_reducible refine Kd.C_drew ?_)))
                                  (case side2 => exact HC1_6.out)
                                  (case side3 => repeat (first | exact (Kd.C_below HR1_7.out HB.out) | (with_reducible refine Kd.C_alloc ?_ _) | (with_reducible refine Kd.C_drewN ?_ _) | (with_reducible refine Kd.C_drew ?_)))
                                  (case side4 => exact HC1_7.out)
                                  rintro e w48 ⟨v469, rfl, ho0, hb⟩
                                  refine ⟨_, rfl, ?_⟩
                                  have n0_ := Aside0.mk (Kd.R_elder' (by (with_reducible repeat (first | apply Kd.R_alloc | apply Kd.R_drewN | apply Kd.R_drew)); exact HO455.out) (Kd.R_base ho0) hb)
                                  have n1_ := Aside0.mk (Kd.R_elder' (by (with_reducible repeat (first | apply Kd.R_alloc | apply Kd.R_drewN | apply Kd.R_drew)); exact HO461.out) (Kd.R_base ho0) hb)
                                  have n2_ := Aside0.mk (Kd.R_elder' (by (with_reducible repeat (first | apply Kd.R_alloc | apply Kd.R_drewN | apply Kd.R_drew)); exact HO465.out) (Kd.R_base ho0) hb)
                                  have n3_ := Aside0.mk (Kd.R_lower (Kd.R_new' (Kd.R_new' (Kd.R_new' ho0 (Kd.R_lt (by (with_reducible repeat (first | apply Kd.R_alloc | apply Kd.R_drewN | apply Kd.R_drew)); exact HO455.out))) (Kd.R_lt (by (with_reducible repeat (first | apply Kd.R_alloc | apply Kd.R_drewN | apply Kd.R_drew)); exact HO461.out))) (Kd.R_lt (by (with_reducible repeat (first | apply Kd.R_alloc | apply Kd.R_drewN | apply Kd.R_drew)); exact HO465.out))) (below_size (by repeat (first | (with_reducible first | exact HB.out | apply below_alloc | apply pw_below_drewN | apply below_drew1 | refine below_set ?_ GE449.out | refine below_set ?_ GE467.out) | exact HB.out))))
                                  have n4_ := Aside0.mk (blk_below (g := gb449) (o := .cells #[.int .i64 a1_0, .string a1_1, .string a1_2, .int .i64 a1_3, .int .u64 a1_4, .int .u64 a1_5, .slice A1_6 l1_6.length c1_6, .slice A1_7 l1_7.length c1_7] 26 (0, 0)) (by (with_reducible repeat (first | refine blk_drewN ?_ _ | refine blk_drew ?_ | refine blk_alloc ?_ _)); exact BK449.out) hb)
                                  have n5_ := Aside0.mk (blk_below (g := gb467) (o := .cells #[.int .i64 t462, .slice Ao44 t463.length co44] 37 (0, 0)) (by (with_reducible repeat (first | refine blk_drewN ?_ _ | refine blk_drew ?_ | refine blk_alloc ?_ _)); exact BK467.out) hb)
                                  have n6_ := Aside0.mk (below_step (by repeat (first | (with_reducible first | exact HB.out | apply below_alloc | apply pw_below_drewN | apply below_drew1 | refine below_set ?_ GE449.out | refine below_set ?_ GE467.out) | exact HB.out)) hb)
                                  clear HO455
                                  clear HO461
                                  clear HO465
                                  clear BK449
                                  clear BK467
                                  clear HB
                                  have HO455 := n0_
                                  have HO461 := n1_
                                  have HO465 := n2_
                                  have HO470 := n3_
                                  have BK449 := n4_
                                  have BK467 := n5_
                                  have HB := n6_
                                  clear n0_ n1_ n2_ n3_ n4_ n5_ n6_
                                  (try clear hb)
                                  (try clear hb2)
                                  (try clear hk)
                                  (try clear hi)
                                  (try clear ho0)
                                  obtain ⟨Ao49, co49, eo49⟩ := Kd.R_slice HO470.out
                                  (first | subst eo49 | (injection eo49 with f1_ f2_ f3_; have f4_ := f1_.symm; have f5_ := f3_.symm; clear f1_ f2_ f3_; subst f4_; subst f5_))
                                  refine hK.out _ _ ⟨(blk_cell BK467.out 0).trans rfl, (blk_cell BK467.out 1).trans rfl, (blk_cell BK449.out 0).trans rfl, (blk_cell BK449.out 1).trans rfl, (blk_cell BK449.out 2).trans rfl, (blk_cell BK449.out 3).trans rfl, (blk_cell BK449.out 4).trans rfl, (blk_cell BK449.out 5).trans rfl, (blk_cell BK449.out 6).trans rfl, (blk_cell BK449.out 7).trans rfl⟩ (fun hHeld => ?_)
                                  clear hK K
                                  refine norm_ (a' := ?_) ?_ ?_
                                  rotate_left
                                  · show Act.put _ (some 78) _ = _
                                    simp only [Act.put, List.setIfInBounds_toArray, List.set_cons_zero, List.set_cons_succ, i64_w, i32_w]
                                    rfl
                                  refine one_ (i := 27) (N := some 79) #[true, true, true, true, true, true, true, true, true, true, true, true, true, true, true, true, true, true, true, true, true, true, true, true, true, true, true, true, false, false, false, false, false, false, false, false, false, false, false, false, false, false, false, false] rfl rfl (one_of HT_.out (by kernel_rfl)) (by decide) (fun K hK => ?_)
                                  refine goes_ Tryd.func12 (by kernel_rfl) rfl #[.agg #[.int .i64 t462, .slice Ao44 t463.length co44], .int .i64 a1_0, .slice Ao49 t468.length co49] (by rfl) rfl rfl (by (try simp only [List.map_toArray, List.map_cons, List.map_nil]); first | done | rfl | (simp only [List.length_drop, List.length_take]; rfl)) ?_
                                  with_reducible refine (laws_docSameRaw.calls t462 _ _ t463 a1_0 _ _ t468 true _ ?side1 ?side2 ?side3 ?side4 A28.out).mono ?_
                                  (case side1 => repeat (first | exact (Kd.R_reads' HO465.out).2.2 | (with_reducible refine Kd.C_alloc ?_ _) | (with_reducible refine Kd.C_drewN ?_ _) | (with_reducible refine Kd.C_drew ?_)))
                                  (case side2 => exact (Kd.R_reads' HO465.out).2.1)
                                  (case side3 => repeat (first | exact (Kd.R_reads' HO470.out).2.2 | (with_reducible refine Kd.C_alloc ?_ _) | (with_reducible refine Kd.C_drewN ?_ _) | (with_reducible refine Kd.C_drew ?_)))
                                  (case side4 => exact (Kd.R_reads' HO470.out).2.1)
                                  rintro e w50 ⟨rfl, hb⟩
                                  refine ⟨_, rfl, ?_⟩
                                  have n0_ := Aside0.mk (Kd.R_below (by (with_reducible repeat (first | apply Kd.R_alloc | apply Kd.R_drewN | apply Kd.R_drew)); exact HO455.out) hb)
                                  have n1_ := Aside0.mk (Kd.R_below (by (with_reducible repeat (first | apply Kd.R_alloc | apply Kd.R_drewN | apply Kd.R_drew)); exact HO461.out) hb)
                                  have n2_ := Aside0.mk (Kd.R_below (by (with_reducible repeat (first | apply Kd.R_alloc | apply Kd.R_drewN | apply Kd.R_drew)); exact HO465.out) hb)
                                  have n3_ := Aside0.mk (Kd.R_below (by (with_reducible repeat (first | apply Kd.R_alloc | apply Kd.R_drewN | apply Kd.R_drew)); exact HO470.out) hb)
                                  have n4_ := Aside0.mk (blk_below (g := gb449) (o := .cells #[.int .i64 a1_0, .string a1_1, .string a1_2, .int .i64 a1_3, .int .u64 a1_4, .int .u64 a1_5, .slice A1_6 l1_6.length c1_6, .slice A1_7 l1_7.length c1_7] 26 (0, 0)) (by (with_reducible repeat (first | refine blk_drewN ?_ _ | refine blk_drew ?_ | refine blk_alloc ?_ _)); exact BK449.out) hb)
                                  have n5_ := Aside0.mk (blk_below (g := gb467) (o := .cells #[.int .i64 t462, .slice Ao44 t463.length co44] 37 (0, 0)) (by (with_reducible repeat (first | refine blk_drewN ?_ _ | refine blk_drew ?_ | refine blk_alloc ?_ _)); exact BK467.out) hb)
                                  have n6_ := Aside0.mk (below_step (by repeat (first | (with_reducible first | exact HB.out | apply below_alloc | apply pw_below_drewN | apply below_drew1 | refine below_set ?_ GE449.out | refine below_set ?_ GE467.out) | exact HB.out)) hb)
                                  clear HO455
                                  clear HO461
                                  clear HO465
                                  clear HO470
                                  clear BK449
                                  clear BK467
                                  clear HB
                                  have HO455 := n0_
                                  have HO461 := n1_
                                  have HO465 := n2_
                                  have HO470 := n3_
                                  have BK449 := n4_
                                  have BK467 := n5_
                                  have HB := n6_
                                  clear n0_ n1_ n2_ n3_ n4_ n5_ n6_
                                  (try clear hb)
                                  (try clear hb2)
                                  (try clear hk)
                                  (try clear hi)
                                  refine hK.out _ _ ⟨(blk_cell BK467.out 0).trans rfl, (blk_cell BK467.out 1).trans rfl, (blk_cell BK449.out 0).trans rfl, (blk_cell BK449.out 1).trans rfl, (blk_cell BK449.out 2).trans rfl, (blk_cell BK449.out 3).trans rfl, (blk_cell BK449.out 4).trans rfl, (blk_cell BK449.out 5).trans rfl, (blk_cell BK449.out 6).trans rfl, (blk_cell BK449.out 7).trans rfl⟩ (fun hHeld => ?_)
                                  clear hK K
                                  refine norm_ (a' := ?_) ?_ ?_
                                  rotate_left
                                  · show Act.put _ (some 79) _ = _
                                    simp only [Act.put, List.setIfInBounds_toArray, List.set_cons_zero, List.set_cons_succ, i64_w, i32_w]
                                    rfl
                                  refine pure_ (i := 28) (N := some 80) (v := ?_) (a' := ?_) #[true, true, true, true, true, true, true, true, true, true, true, true, true, true, true, true, true, true, true, true, true, true, true, true, true, true, true, true, true, false, false, false, false, false, false, false, false, false, false, false, false, false, false, false] rfl rfl (any_of HT_.out (by kernel_rfl)) (fun _ _ _ h => h) (Or.inl ⟨by rfl, ?_⟩) ?_ ?_
                                  rotate_left
                                  · intro w'
                                    go_simp
                                    with_reducible rfl
                                  rotate_left
                                  · simp only [Act.put, List.setIfInBounds_toArray, List.set_cons_zero, List.set_cons_succ, i64_w, i32_w]
                                    rfl
                                  refine pure_ (i := 29) (N := some 81) (v := ?_) (a' := ?_) #[true, true, true, true, true, true, true, true, true, true, true, true, true, true, true, true, true, true, true, true, true, true, true, true, true, true, true, true, true, true, false, false, false, false, false, false, false, false, false, false, false, false, false, false] rfl rfl (any_of HT_.out (by kernel_rfl)) (fun _ _ _ h => h) (Or.inl ⟨by rfl, ?_⟩) ?_ ?_
                                  rotate_left
                                  · intro w'
                                    go_simp
                                    with_reducible rfl
                                  rotate_left
                                  · simp only [Act.put, List.setIfInBounds_toArray, List.set_cons_zero, List.set_cons_succ, i64_w, i32_w]
                                    rfl
                                  refine pure_ (i := 30) (N := some 82) (v := ?_) (a' := ?_) #[true, true, true, true, true, true, true, true, true, true, true, true, true, true, true, true, true, true, true, true, true, true, true, true, true, true, true, true, true, true, true, false, false, false, false, false, false, false, false, false, false, false, false, false] rfl rfl (any_of HT_.out (by kernel_rfl)) (fun _ _ _ h => h) (Or.inl ⟨by rfl, ?_⟩) ?_ ?_
                                  rotate_left
                                  · intro w'
                                    go_simp
                                    with_reducible rfl
                                  rotate_left
                                  · simp only [Act.put, List.setIfInBounds_toArray, List.set_cons_zero, List.set_cons_succ, i64_w, i32_w]
                                    rfl
                                  refine pure_ (i := 31) (N := some 83) (v := ?_) (a' := ?_) #[true, true, true, true, true, true, true, true, true, true, true, true, true, true, true, true, true, true, true, true, true, true, true, true, true, true, true, true, true, true, true, true, false, false, false, false, false, false, false, false, false, false, false, false] rfl rfl (any_of HT_.out (by kernel_rfl)) (fun _ _ _ h => h) (Or.inl ⟨by rfl, ?_⟩) ?_ ?_
                                  rotate_left
                                  · intro w'
                                    go_simp
                                    with_reducible rfl
                                  rotate_left
                                  · simp only [Act.put, List.setIfInBounds_toArray, List.set_cons_zero, List.set_cons_succ, i64_w, i32_w]
                                    rfl
                                  refine one_ (i := 32) (N := some 84) #[true, true, true, true, true, true, true, true, true, true, true, true, true, true, true, true, true, true, true, true, true, true, true, true, true, true, true, true, true, true, true, true, true, false, false, false, false, false, false, false, false, false, false, false] rfl rfl (one_of HT_.out (by kernel_rfl)) (by decide) (fun K hK => ?_)
                                  refine HW.conv_step (w0 := w) w.heap.size (by rfl) (.tmp 83) 9 23 5 rfl Tryd.underlying9 Tryd.underlying23 Tryd.underlying5 a0 (fun k_ => some k_ ≠ (.slice Ao37 t453.length co37 : Value).ownBlock ∧ some k_ ≠ (v460 : Value).ownBlock ∧ some k_ ≠ (.slice Ao44 t463.length co44 : Value).ownBlock ∧ some k_ ≠ (.slice Ao49 t468.length co49 : Value).ownBlock) rfl ?aF ?aB ?aS ?aL ?_
                                  (case aB => exact (by repeat (first | (with_reducible first | exact HB.out | apply below_alloc | apply pw_below_drewN | apply below_drew1 | refine below_set ?_ GE449.out | refine below_set ?_ GE467.out) | exact HB.out)))
                                  (case aF => exact (fun k_ hk => ⟨Kd.fresh' (Kd.R_lt (by (with_reducible repeat (first | apply Kd.R_alloc | apply Kd.R_drewN | apply Kd.R_drew)); exact HO455.out)) k_ hk, Kd.fresh' (Kd.R_lt (by (with_reducible repeat (first | apply Kd.R_alloc | apply Kd.R_drewN | apply Kd.R_drew)); exact HO461.out)) k_ hk, Kd.fresh' (Kd.R_lt (by (with_reducible repeat (first | apply Kd.R_alloc | apply Kd.R_drewN | apply Kd.R_drew)); exact HO465.out)) k_ hk, Kd.fresh' (Kd.R_lt (by (with_reducible repeat (first | apply Kd.R_alloc | apply Kd.R_drewN | apply Kd.R_drew)); exact HO470.out)) k_ hk⟩))
                                  (case aS => exact (below_size (by repeat (first | (with_reducible first | exact HB.out | apply below_alloc | apply pw_below_drewN | apply below_drew1 | refine below_set ?_ GE449.out | refine below_set ?_ GE467.out) | exact HB.out))))
                                  (case aL => have := LMc30.out; omega)
                                  intro v473 w51 ho hb hg hat
                                  rw [← Ny472.out] at ho
                                  have n0_ := Aside0.mk (blk_grown (g := gb449) (o := .cells #[.int .i64 a1_0, .string a1_1, .string a1_2, .int .i64 a1_3, .int .u64 a1_4, .int .u64 a1_5, .slice A1_6 l1_6.length c1_6, .slice A1_7 l1_7.length c1_7] 26 (0, 0)) (by (with_reducible repeat (first | refine blk_drewN ?_ _ | refine blk_drew ?_ | refine blk_alloc ?_ _)); exact BK449.out) hg (by simp [Value.ownBlock]))
                                  have n1_ := Aside0.mk (Kd.R_after (Kd.R_apart_nil (by (with_reducible repeat (first | apply Kd.R_alloc | apply Kd.R_drewN | apply Kd.R_drew)); exact HO455.out)) hg hat)
                                  have n2_ := Aside0.mk (Kd.R_after (Kd.R_apart_nil (by (with_reducible repeat (first | apply Kd.R_alloc | apply Kd.R_drewN | apply Kd.R_drew)); exact HO461.out)) hg hat)
                                  have n3_ := Aside0.mk (Kd.R_after (Kd.R_apart_nil (by (with_reducible repeat (first | apply Kd.R_alloc | apply Kd.R_drewN | apply Kd.R_drew)); exact HO465.out)) hg hat)
                                  have n4_ := Aside0.mk (blk_grown (g := gb467) (o := .cells #[.int .i64 t462, .slice Ao44 t463.length co44] 37 (0, 0)) (by (with_reducible repeat (first | refine blk_drewN ?_ _ | refine blk_drew ?_ | refine blk_alloc ?_ _)); exact BK467.out) hg (by simp [Value.ownBlock]))
                                  have n5_ := Aside0.mk (Kd.R_after (Kd.R_apart_nil (by (with_reducible repeat (first | apply Kd.R_alloc | apply Kd.R_drewN | apply Kd.R_drew)); exact HO470.out)) hg hat)
                                  have n6_ := Aside0.mk (hb)
                                  have n7_ := Aside0.mk (ho)
                                  clear BK449
                                  clear HO455
                                  clear HO461
                                  clear HO465
                                  clear BK467
                                  clear HO470
                                  clear HB
                                  have BK449 := n0_
                                  have HO455 := n1_
                                  have HO461 := n2_
                                  have HO465 := n3_
                                  have BK467 := n4_
                                  have HO470 := n5_
                                  have HB := n6_
                                  have HO474 := n7_
                                  clear n0_ n1_ n2_ n3_ n4_ n5_ n6_ n7_
                                  clear ho hb hg hat
                                  obtain ⟨Ao52, co52, eo52⟩ := HW.M_slice HO474.out
                                  (first | subst eo52 | (injection eo52 with f1_ f2_ f3_; have f4_ := f1_.symm; have f5_ := f3_.symm; clear f1_ f2_ f3_; subst f4_; subst f5_))
                                  refine hK.out _ _ ⟨(blk_cell BK467.out 0).trans rfl, (blk_cell BK467.out 1).trans rfl, (blk_cell BK449.out 0).trans rfl, (blk_cell BK449.out 1).trans rfl, (blk_cell BK449.out 2).trans rfl, (blk_cell BK449.out 3).trans rfl, (blk_cell BK449.out 4).trans rfl, (blk_cell BK449.out 5).trans rfl, (blk_cell BK449.out 6).trans rfl, (blk_cell BK449.out 7).trans rfl⟩ (fun hHeld => ?_)
                                  clear hK K
                                  refine norm_ (a' := ?_) ?_ ?_
                                  rotate_left
                                  · show Act.put _ (some 84) _ = _
                                    simp only [Act.put, List.setIfInBounds_toArray, List.set_cons_zero, List.set_cons_succ, i64_w, i32_w]
                                    rfl
                                  refine one_ (i := 33) (N := some 85) #[true, true, true, true, true, true, true, true, true, true, true, true, true, true, true, true, true, true, true, true, true, true, true, true, true, true, true, true, true, true, true, true, true, true, false, false, false, false, false, false, false, false, false, false] rfl rfl (one_of HT_.out (by kernel_rfl)) (by decide) (fun K hK => ?_)
                                  refine goes_ Tryd.func14 (by kernel_rfl) rfl #[.slice Ao37 t453.length co37, .slice Ao52 y472.length co52] (by rfl) rfl rfl (by (try simp only [List.map_toArray, List.map_cons, List.map_nil]); first | done | rfl | (simp only [List.length_drop, List.length_take]; rfl)) ?_
                                  with_reducible refine (impl_CompareKey.calls kj9 _ _ t453 _ _ y472 true _ ?side1 ?side2 ?side3 ?side4 A31.out).mono ?_
                                  (case side1 => repeat (first | exact (Kd.R_reads' HO455.out).2.2 | (with_reducible refine Kd.C_alloc ?_ _) | (with_reducible refine Kd.C_drewN ?_ _) | (with_reducible refine Kd.C_drew ?_)))
                                  (case side2 => exact (Kd.R_reads' HO455.out).2.1)
                                  (case side3 => repeat (first | exact (HW.M_reads' HO474.out).2.2 | (with_reducible refine Kd.C_alloc ?_ _) | (with_reducible refine Kd.C_drewN ?_ _) | (with_reducible refine Kd.C_drew ?_)))
                                  (case side4 => exact (HW.M_reads' HO474.out).2.1)
                                  rintro e w53 ⟨rfl, hb⟩
                                  refine ⟨_, rfl, ?_⟩
                                  have n0_ := Aside0.mk (Kd.R_below (by (with_reducible repeat (first | apply Kd.R_alloc | apply Kd.R_drewN | apply Kd.R_drew)); exact HO455.out) hb)
                                  have n1_ := Aside0.mk (Kd.R_below (by (with_reducible repeat (first | apply Kd.R_alloc | apply Kd.R_drewN | apply Kd.R_drew)); exact HO461.out) hb)
                                  have n2_ := Aside0.mk (Kd.R_below (by (with_reducible repeat (first | apply Kd.R_alloc | apply Kd.R_drewN | apply Kd.R_drew)); exact HO465.out) hb)
                                  have n3_ := Aside0.mk (Kd.R_below (by (with_reducible repeat (first | apply Kd.R_alloc | apply Kd.R_drewN | apply Kd.R_drew)); exact HO470.out) hb)
                                  have n4_ := Aside0.mk (HW.M_below (by (with_reducible repeat (first | apply HW.M_alloc | apply HW.M_drewN | apply HW.M_drew)); exact HO474.out) hb)
                                  have n5_ := Aside0.mk (blk_below (g := gb449) (o := .cells #[.int .i64 a1_0, .string a1_1, .string a1_2, .int .i64 a1_3, .int .u64 a1_4, .int .u64 a1_5, .slice A1_6 l1_6.length c1_6, .slice A1_7 l1_7.length c1_7] 26 (0, 0)) (by (with_reducible repeat (first | refine blk_drewN ?_ _ | refine blk_drew ?_ | refine blk_alloc ?_ _)); exact BK449.out) hb)
                                  have n6_ := Aside0.mk (blk_below (g := gb467) (o := .cells #[.int .i64 t462, .slice Ao44 t463.length co44] 37 (0, 0)) (by (with_reducible repeat (first | refine blk_drewN ?_ _ | refine blk_drew ?_ | refine blk_alloc ?_ _)); exact BK467.out) hb)
                                  have n7_ := Aside0.mk (below_step (by repeat (first | (with_reducible first | exact HB.out | apply below_alloc | apply pw_below_drewN | apply below_drew1 | refine below_set ?_ GE449.out | refine below_set ?_ GE467.out) | exact HB.out)) hb)
                                  clear HO455
                                  clear HO461
                                  clear HO465
                                  clear HO470
                                  clear HO474
                                  clear BK449
                                  clear BK467
                                  clear HB
                                  have HO455 := n0_
                                  have HO461 := n1_
                                  have HO465 := n2_
                                  have HO470 := n3_
                                  have HO474 := n4_
                                  have BK449 := n5_
                                  have BK467 := n6_
                                  have HB := n7_
                                  clear n0_ n1_ n2_ n3_ n4_ n5_ n6_ n7_
                                  (try clear hb)
                                  (try clear hb2)
                                  (try clear hk)
                                  (try clear hi)
                                  refine hK.out _ _ ⟨(blk_cell BK467.out 0).trans rfl, (blk_cell BK467.out 1).trans rfl, (blk_cell BK449.out 0).trans rfl, (blk_cell BK449.out 1).trans rfl, (blk_cell BK449.out 2).trans rfl, (blk_cell BK449.out 3).trans rfl, (blk_cell BK449.out 4).trans rfl, (blk_cell BK449.out 5).trans rfl, (blk_cell BK449.out 6).trans rfl, (blk_cell BK449.out 7).trans rfl⟩ (fun hHeld => ?_)
                                  clear hK K
                                  refine norm_ (a' := ?_) ?_ ?_
                                  rotate_left
                                  · show Act.put _ (some 85) _ = _
                                    simp only [Act.put, List.setIfInBounds_toArray, List.set_cons_zero, List.set_cons_succ, i64_w, i32_w]
                                    rfl
                                  refine pure_ (i := 34) (N := some 86) (v := ?_) (a' := ?_) #[true, true, true, true, true, true, true, true, true, true, true, true, true, true, true, true, true, true, true, true, true, true, true, true, true, true, true, true, true, true, true, true, true, true, true, false, false, false, false, false, false, false, false, false] rfl rfl (any_of HT_.out (by kernel_rfl)) (fun _ _ _ h => h) (Or.inl ⟨by rfl, ?_⟩) ?_ ?_
                                  rotate_left
                                  · intro w'
                                    go_simp
                                    with_reducible rfl
                                  rotate_left
                                  · simp only [Act.put, List.setIfInBounds_toArray, List.set_cons_zero, List.set_cons_succ, i64_w, i32_w]
                                    rfl
                                  refine pure_ (i := 35) (N := some 87) (v := ?_) (a' := ?_) #[true, true, true, true, true, true, true, true, true, true, true, true, true, true, true, true, true, true, true, true, true, true, true, true, true, true, true, true, true, true, true, true, true, true, true, true, false, false, false, false, false, false, false, false] rfl rfl (any_of HT_.out (by kernel_rfl)) (fun _ _ _ h => h) (Or.inl ⟨by rfl, ?_⟩) ?_ ?_
                                  rotate_left
                                  · intro w'
                                    go_simp
                                    with_reducible rfl
                                  rotate_left
                                  · simp only [Act.put, List.setIfInBounds_toArray, List.set_cons_zero, List.set_cons_succ, i64_w, i32_w]
                                    rfl
                                  refine pure_ (i := 36) (N := some 88) (v := ?_) (a' := ?_) #[true, true, true, true, true, true, true, true, true, true, true, true, true, true, true, true, true, true, true, true, true, true, true, true, true, true, true, true, true, true, true, true, true, true, true, true, true, false, false, false, false, false, false, false] rfl rfl (any_of HT_.out (by kernel_rfl)) (fun _ _ _ h => h) (Or.inl ⟨by rfl, ?_⟩) ?_ ?_
                                  rotate_left
                                  · intro w'
                                    go_simp
                                    with_reducible rfl
                                  rotate_left
                                  · simp only [Act.put, List.setIfInBounds_toArray, List.set_cons_zero, List.set_cons_succ, i64_w, i32_w]
                                    rfl
                                  refine pure_ (i := 37) (N := some 89) (v := ?_) (a' := ?_) #[true, true, true, true, true, true, true, true, true, true, true, true, true, true, true, true, true, true, true, true, true, true, true, true, true, true, true, true, true, true, true, true, true, true, true, true, true, true, false, false, false, false, false, false] rfl rfl (any_of HT_.out (by kernel_rfl)) (fun _ _ _ h => h) (Or.inl ⟨by rfl, ?_⟩) ?_ ?_
                                  rotate_left
                                  · intro w'
                                    go_simp
                                    with_reducible rfl
                                  rotate_left
                                  · simp only [Act.put, List.setIfInBounds_toArray, List.set_cons_zero, List.set_cons_succ, i64_w, i32_w]
                                    rfl
                                  refine join_ (σ := Value × Value) 4 #[true, true, true, true, true, true, true, true, true, true, true, true, true, true, true, true, true, true, true, true, true, true, true, true, true, true, true, true, true, true, true, true, true, true, true, true, true, true, true, true, false, false, false, false] (fun s_ => [(90, s_.1), (91, s_.2)]) (fun s_ w' => (w'.cell? ⟨gb467, 0, none⟩ = some (.int .i64 t462) ∧ w'.cell? ⟨gb467, 1, none⟩ = some (.slice Ao44 t463.length co44) ∧ w'.cell? ⟨gb449, 0, none⟩ = some (.int .i64 a1_0) ∧ w'.cell? ⟨gb449, 1, none⟩ = some (.string a1_1) ∧ w'.cell? ⟨gb449, 2, none⟩ = some (.string a1_2) ∧ w'.cell? ⟨gb449, 3, none⟩ = some (.int .i64 a1_3) ∧ w'.cell? ⟨gb449, 4, none⟩ = some (.int .u64 a1_4) ∧ w'.cell? ⟨gb449, 5, none⟩ = some (.int .u64 a1_5) ∧ w'.cell? ⟨gb449, 6, none⟩ = some (.slice A1_6 l1_6.length c1_6) ∧ w'.cell? ⟨gb449, 7, none⟩ = some (.slice A1_7 l1_7.length c1_7)) ∧ (Kd.R (Kd.int .u8) 5 w' w.heap.size (fun k_ => some k_ ≠ (v460 : Value).ownBlock ∧ some k_ ≠ (.slice Ao44 t463.length co44 : Value).ownBlock ∧ some k_ ≠ (.slice Ao49 t468.length co49 : Value).ownBlock ∧ some k_ ≠ (.slice Ao52 y472.length co52 : Value).ownBlock ∧ some k_ ≠ (s_.1 : Value).ownBlock ∧ some k_ ≠ (s_.2 : Value).ownBlock) (.slice Ao37 t453.length co37) t453) ∧ (Kd.R (Kd.int .u8) 5 w' w.heap.size (fun k_ => some k_ ≠ (.slice Ao37 t453.length co37 : Value).ownBlock ∧ some k_ ≠ (.slice Ao44 t463.length co44 : Value).ownBlock ∧ some k_ ≠ (.slice Ao49 t468.length co49 : Value).ownBlock ∧ some k_ ≠ (.slice Ao52 y472.length co52 : Value).ownBlock ∧ some k_ ≠ (s_.1 : Value).ownBlock ∧ some k_ ≠ (s_.2 : Value).ownBlock) v460 t458) ∧ (Kd.R (Kd.int .u8) 5 w' w.heap.size (fun k_ => some k_ ≠ (.slice Ao37 t453.length co37 : Value).ownBlock ∧ some k_ ≠ (v460 : Value).ownBlock ∧ some k_ ≠ (.slice Ao49 t468.length co49 : Value).ownBlock ∧ some k_ ≠ (.slice Ao52 y472.length co52 : Value).ownBlock ∧ some k_ ≠ (s_.1 : Value).ownBlock ∧ some k_ ≠ (s_.2 : Value).ownBlock) (.slice Ao44 t463.length co44) t463) ∧ (Kd.R (Kd.int .u8) 5 w' w.heap.size (fun k_ => some k_ ≠ (.slice Ao37 t453.length co37 : Value).ownBlock ∧ some k_ ≠ (v460 : Value).ownBlock ∧ some k_ ≠ (.slice Ao44 t463.length co44 : Value).ownBlock ∧ some k_ ≠ (.slice Ao52 y472.length co52 : Value).ownBlock ∧ some k_ ≠ (s_.1 : Value).ownBlock ∧ some k_ ≠ (s_.2 : Value).ownBlock) (.slice Ao49 t468.length co49) t468) ∧ (HW.MR (Kd.int .u8) 5 w' w.heap.size (fun k_ => some k_ ≠ (.slice Ao37 t453.length co37 : Value).ownBlock ∧ some k_ ≠ (v460 : Value).ownBlock ∧ some k_ ≠ (.slice Ao44 t463.length co44 : Value).ownBlock ∧ some k_ ≠ (.slice Ao49 t468.length co49 : Value).ownBlock ∧ some k_ ≠ (s_.1 : Value).ownBlock ∧ some k_ ≠ (s_.2 : Value).ownBlock) (.slice Ao52 y472.length co52) y472) ∧ (HW.MR (Kd.int .u8) 5 w' w.heap.size (fun k_ => some k_ ≠ (.slice Ao37 t453.length co37 : Value).ownBlock ∧ some k_ ≠ (v460 : Value).ownBlock ∧ some k_ ≠ (.slice Ao44 t463.length co44 : Value).ownBlock ∧ some k_ ≠ (.slice Ao49 t468.length co49 : Value).ownBlock ∧ some k_ ≠ (.slice Ao52 y472.length co52 : Value).ownBlock ∧ some k_ ≠ (s_.2 : Value).ownBlock) s_.1 y476) ∧ (Kd.R (Kd.int .u8) 5 w' w.heap.size (fun k_ => some k_ ≠ (.slice Ao37 t453.length co37 : Value).ownBlock ∧ some k_ ≠ (v460 : Value).ownBlock ∧ some k_ ≠ (.slice Ao44 t463.length co44 : Value).ownBlock ∧ some k_ ≠ (.slice Ao49 t468.length co49 : Value).ownBlock ∧ some k_ ≠ (.slice Ao52 y472.length co52 : Value).ownBlock ∧ some k_ ≠ (s_.1 : Value).ownBlock) s_.2 y479) ∧ (w'.heap[gb449]? = some (.cells #[.int .i64 a1_0, .string a1_1, .string a1_2, .int .i64 a1_3, .int .u64 a1_4, .int .u64 a1_5, .slice A1_6 l1_6.length c1_6, .slice A1_7 l1_7.length c1_7] 26 (0, 0))) ∧ (w'.heap[gb467]? = some (.cells #[.int .i64 t462, .slice Ao44 t463.length co44] 37 (0, 0))) ∧ (Below w.heap.size w w')) ?_ ?_
                                  rotate_left
                                  · intro hCont
                                    refine two_ (i := 38) (j := 39) (Ni := some 90) (Nj := some 91) #[true, true, true, true, true, true, true, true, true, true, true, true, true, true, true, true, true, true, true, true, true, true, true, true, true, true, true, true, true, true, true, true, true, true, true, true, true, true, true, false, false, false, false, false] #[true, true, true, true, true, true, true, true, true, true, true, true, true, true, true, true, true, true, true, true, true, true, true, true, true, true, true, true, true, true, true, true, true, true, true, true, true, true, false, true, false, false, false, false] rfl rfl rfl rfl (two_of HT_.out (by kernel_rfl)) (by decide) (by decide) (fun K hK => ?_) (fun K hK => ?_)
                                    · skip
                                      refine HW.conv_step (w0 := w) w.heap.size (by rfl) (.tmp 89) 9 23 5 rfl Tryd.underlying9 Tryd.underlying23 Tryd.underlying5 a0 (fun k_ => some k_ ≠ (.slice Ao37 t453.length co37 : Value).ownBlock ∧ some k_ ≠ (v460 : Value).ownBlock ∧ some k_ ≠ (.slice Ao44 t463.length co44 : Value).ownBlock ∧ some k_ ≠ (.slice Ao49 t468.length co49 : Value).ownBlock ∧ some k_ ≠ (.slice Ao52 y472.length co52 : Value).ownBlock) rfl ?aF ?aB ?aS ?aL ?_
                                      (case aB => exact (by repeat (first | (with_reducible first | exact HB.out | apply below_alloc | apply pw_below_drewN | apply below_drew1 | refine below_set ?_ GE449.out | refine below_set ?_ GE467.out) | exact HB.out)))
                                      (case aF => exact (fun k_ hk => ⟨Kd.fresh' (Kd.R_lt (by (with_reducible repeat (first | apply Kd.R_alloc | apply Kd.R_drewN | apply Kd.R_drew)); exact HO455.out)) k_ hk, Kd.fresh' (Kd.R_lt (by (with_reducible repeat (first | apply Kd.R_alloc | apply Kd.R_drewN | apply Kd.R_drew)); exact HO461.out)) k_ hk, Kd.fresh' (Kd.R_lt (by (with_reducible repeat (first | apply Kd.R_alloc | apply Kd.R_drewN | apply Kd.R_drew)); exact HO465.out)) k_ hk, Kd.fresh' (Kd.R_lt (by (with_reducible repeat (first | apply Kd.R_alloc | apply Kd.R_drewN | apply Kd.R_drew)); exact HO470.out)) k_ hk, Kd.fresh' (HW.M_lt (by (with_reducible repeat (first | apply HW.M_alloc | apply HW.M_drewN | apply HW.M_drew)); exact HO474.out)) k_ hk⟩))
                                      (case aS => exact (below_size (by repeat (first | (with_reducible first | exact HB.out | apply below_alloc | apply pw_below_drewN | apply below_drew1 | refine below_set ?_ GE449.out | refine below_set ?_ GE467.out) | exact HB.out))))
                                      (case aL => have := LMc30.out; omega)
                                      intro v477 w54 ho hb hg hat
                                      rw [← Ny476.out] at ho
                                      have n0_ := Aside0.mk (blk_grown (g := gb449) (o := .cells #[.int .i64 a1_0, .string a1_1, .string a1_2, .int .i64 a1_3, .int .u64 a1_4, .int .u64 a1_5, .slice A1_6 l1_6.length c1_6, .slice A1_7 l1_7.length c1_7] 26 (0, 0)) (by (with_reducible repeat (first | refine blk_drewN ?_ _ | refine blk_drew ?_ | refine blk_alloc ?_ _)); exact BK449.out) hg (by simp [Value.ownBlock]))
                                      have n1_ := Aside0.mk (Kd.R_after (Kd.R_apart_nil (by (with_reducible repeat (first | apply Kd.R_alloc | apply Kd.R_drewN | apply Kd.R_drew)); exact HO455.out)) hg hat)
                                      have n2_ := Aside0.mk (Kd.R_after (Kd.R_apart_nil (by (with_reducible repeat (first | apply Kd.R_alloc | apply Kd.R_drewN | apply Kd.R_drew)); exact HO461.out)) hg hat)
                                      have n3_ := Aside0.mk (Kd.R_after (Kd.R_apart_nil (by (with_reducible repeat (first | apply Kd.R_alloc | apply Kd.R_drewN | apply Kd.R_drew)); exact HO465.out)) hg hat)
                                      have n4_ := Aside0.mk (blk_grown (g := gb467) (o := .cells #[.int .i64 t462, .slice Ao44 t463.length co44] 37 (0, 0)) (by (with_reducible repeat (first | refine blk_drewN ?_ _ | refine blk_drew ?_ | refine blk_alloc ?_ _)); exact BK467.out) hg (by simp [Value.ownBlock]))
                                      have n5_ := Aside0.mk (Kd.R_after (Kd.R_apart_nil (by (with_reducible repeat (first | apply Kd.R_alloc | apply Kd.R_drewN | apply Kd.R_drew)); exact HO470.out)) hg hat)
                                      have n6_ := Aside0.mk (HW.M_after (HW.M_apart_nil (by (with_reducible repeat (first | apply HW.M_alloc | apply HW.M_drewN | apply HW.M_drew)); exact HO474.out)) hg hat)
                                      have n7_ := Aside0.mk (hb)
                                      have n8_ := Aside0.mk (ho)
                                      clear BK449
                                      clear HO455
                                      clear HO461
                                      clear HO465
                                      clear BK467
                                      clear HO470
                                      clear HO474
                                      clear HB
                                      have BK449 := n0_
                                      have HO455 := n1_
                                      have HO461 := n2_
                                      have HO465 := n3_
                                      have BK467 := n4_
                                      have HO470 := n5_
                                      have HO474 := n6_
                                      have HB := n7_
                                      have HO478 := n8_
                                      clear n0_ n1_ n2_ n3_ n4_ n5_ n6_ n7_ n8_
                                      clear ho hb hg hat
                                      refine hK.out _ _ ⟨(blk_cell BK467.out 0).trans rfl, (blk_cell BK467.out 1).trans rfl, (blk_cell BK449.out 0).trans rfl, (blk_cell BK449.out 1).trans rfl, (blk_cell BK449.out 2).trans rfl, (blk_cell BK449.out 3).trans rfl, (blk_cell BK449.out 4).trans rfl, (blk_cell BK449.out 5).trans rfl, (blk_cell BK449.out 6).trans rfl, (blk_cell BK449.out 7).trans rfl⟩ (fun hHeld => ?_)
                                      clear hK K
                                      refine norm_ (a' := ?_) ?_ ?_
                                      rotate_left
                                      · show Act.put _ (some 90) _ = _
                                        simp only [Act.put, List.setIfInBounds_toArray, List.set_cons_zero, List.set_cons_succ, i64_w, i32_w]
                                        rfl
                                      refine one_ (i := 39) (N := some 91) #[true, true, true, true, true, true, true, true, true, true, true, true, true, true, true, true, true, true, true, true, true, true, true, true, true, true, true, true, true, true, true, true, true, true, true, true, true, true, true, true, false, false, false, false] rfl rfl (one_of HT_.out (by kernel_rfl)) (by decide) (fun K hK => ?_)
                                      refine Kd.R_lit_step (Kd.int .u8) _ 5 ?hg (N := 91) ?hd (xs := ([0] : List Int)) (inner := [.int .u8 0]) (ok := fun _ => True) (okp := fun _ => True) ?hr ?hp (fun _ hk => hk) trivial (Below.refl _ _) (Nat.le_refl _) (by simp) ?_; (case hd => rfl); (case hg => rfl); (case hr => first | (go_simp; done) | (go_simp; rfl)); (case hp => exact (Reps.one (show Kd.M (Kd.int .u8) _ _ _ 0 [.int .u8 0] from rfl) (Reps.none _ _)))
                                      intro v480 w55 ho56 hb hg_ hnew_
                                      clear hg_ hnew_
                                      (first | rw [← Ny479.out] at ho56 | (simp only [Int.reduceToNat] at ho56; rw [← Ny479.out] at ho56))
                                      have n0_ := Aside0.mk (Kd.R_elder' (by (with_reducible repeat (first | apply Kd.R_alloc | apply Kd.R_drewN | apply Kd.R_drew)); exact HO455.out) (Kd.R_base ho56) hb)
                                      have n1_ := Aside0.mk (Kd.R_elder' (by (with_reducible repeat (first | apply Kd.R_alloc | apply Kd.R_drewN | apply Kd.R_drew)); exact HO461.out) (Kd.R_base ho56) hb)
                                      have n2_ := Aside0.mk (Kd.R_elder' (by (with_reducible repeat (first | apply Kd.R_alloc | apply Kd.R_drewN | apply Kd.R_drew)); exact HO465.out) (Kd.R_base ho56) hb)
                                      have n3_ := Aside0.mk (Kd.R_elder' (by (with_reducible repeat (first | apply Kd.R_alloc | apply Kd.R_drewN | apply Kd.R_drew)); exact HO470.out) (Kd.R_base ho56) hb)
                                      have n4_ := Aside0.mk (HW.M_elder' (by (with_reducible repeat (first | apply HW.M_alloc | apply HW.M_drewN | apply HW.M_drew)); exact HO474.out) (Kd.R_base ho56) hb)
                                      have n5_ := Aside0.mk (HW.M_elder' (by (with_reducible repeat (first | apply HW.M_alloc | apply HW.M_drewN | apply HW.M_drew)); exact HO478.out) (Kd.R_base ho56) hb)
                                      have n6_ := Aside0.mk (Kd.R_lower (Kd.R_new' (Kd.R_new' (Kd.R_new' (Kd.R_new' (Kd.R_new' (Kd.R_new' ho56 (Kd.R_lt (by (with_reducible repeat (first | apply Kd.R_alloc | apply Kd.R_drewN | apply Kd.R_drew)); exact HO455.out))) (Kd.R_lt (by (with_reducible repeat (first | apply Kd.R_alloc | apply Kd.R_drewN | apply Kd.R_drew)); exact HO461.out))) (Kd.R_lt (by (with_reducible repeat (first | apply Kd.R_alloc | apply Kd.R_drewN | apply Kd.R_drew)); exact HO465.out))) (Kd.R_lt (by (with_reducible repeat (first | apply Kd.R_alloc | apply Kd.R_drewN | apply Kd.R_drew)); exact HO470.out))) (HW.M_lt (by (with_reducible repeat (first | apply HW.M_alloc | apply HW.M_drewN | apply HW.M_drew)); exact HO474.out))) (HW.M_lt (by (with_reducible repeat (first | apply HW.M_alloc | apply HW.M_drewN | apply HW.M_drew)); exact HO478.out))) (below_size (by repeat (first | (with_reducible first | exact HB.out | apply below_alloc | apply pw_below_drewN | apply below_drew1 | refine below_set ?_ GE449.out | refine below_set ?_ GE467.out) | exact HB.out))))
                                      have n7_ := Aside0.mk (blk_below (g := gb449) (o := .cells #[.int .i64 a1_0, .string a1_1, .string a1_2, .int .i64 a1_3, .int .u64 a1_4, .int .u64 a1_5, .slice A1_6 l1_6.length c1_6, .slice A1_7 l1_7.length c1_7] 26 (0, 0)) (by (with_reducible repeat (first | refine blk_drewN ?_ _ | refine blk_drew ?_ | refine blk_alloc ?_ _)); exact BK449.out) hb)
                                      have n8_ := Aside0.mk (blk_below (g := gb467) (o := .cells #[.int .i64 t462, .slice Ao44 t463.length co44] 37 (0, 0)) (by (with_reducible repeat (first | refine blk_drewN ?_ _ | refine blk_drew ?_ | refine blk_alloc ?_ _)); exact BK467.out) hb)
                                      have n9_ := Aside0.mk (below_step (by repeat (first | (with_reducible first | exact HB.out | apply below_alloc | apply pw_below_drewN | apply below_drew1 | refine below_set ?_ GE449.out | refine below_set ?_ GE467.out) | exact HB.out)) hb)
                                      clear HO455
                                      clear HO461
                                      clear HO465
                                      clear HO470
                                      clear HO474
                                      clear HO478
                                      clear BK449
                                      clear BK467
                                      clear HB
                                      have HO455 := n0_
                                      have HO461 := n1_
                                      have HO465 := n2_
                                      have HO470 := n3_
                                      have HO474 := n4_
                                      have HO478 := n5_
                                      have HO481 := n6_
                                      have BK449 := n7_
                                      have BK467 := n8_
                                      have HB := n9_
                                      clear n0_ n1_ n2_ n3_ n4_ n5_ n6_ n7_ n8_ n9_
                                      clear hb ho56
                                      refine hK.out _ _ ⟨(blk_cell BK467.out 0).trans rfl, (blk_cell BK467.out 1).trans rfl, (blk_cell BK449.out 0).trans rfl, (blk_cell BK449.out 1).trans rfl, (blk_cell BK449.out 2).trans rfl, (blk_cell BK449.out 3).trans rfl, (blk_cell BK449.out 4).trans rfl, (blk_cell BK449.out 5).trans rfl, (blk_cell BK449.out 6).trans rfl, (blk_cell BK449.out 7).trans rfl⟩ (fun hHeld => ?_)
                                      clear hK K
                                      refine norm_ (a' := ?_) ?_ ?_
                                      rotate_left
                                      · show Act.put _ (some 91) _ = _
                                        simp only [Act.put, List.setIfInBounds_toArray, List.set_cons_zero, List.set_cons_succ, i64_w, i32_w]
                                        rfl
                                      exact norm_ (by simp only [putAll, Act.put, List.setIfInBounds_toArray, List.set_cons_zero, List.set_cons_succ]) (hCont (v477, v480) _ ⟨hHeld, (by (with_reducible repeat (first | apply Kd.R_alloc | apply Kd.R_drewN | apply Kd.R_drew)); exact Kd.R_mono HO455.out (fun _ hk => ⟨hk.1.1.1.1.1, ⟨hk.1.1.1.1.2, ⟨hk.1.1.1.2, ⟨hk.1.1.2, ⟨hk.1.2, hk.2⟩⟩⟩⟩⟩)), (by (with_reducible repeat (first | apply Kd.R_alloc | apply Kd.R_drewN | apply Kd.R_drew)); exact Kd.R_mono HO461.out (fun _ hk => ⟨hk.1.1.1.1.1, ⟨hk.1.1.1.1.2, ⟨hk.1.1.1.2, ⟨hk.1.1.2, ⟨hk.1.2, hk.2⟩⟩⟩⟩⟩)), (by (with_reducible repeat (first | apply Kd.R_alloc | apply Kd.R_drewN | apply Kd.R_drew)); exact Kd.R_mono HO465.out (fun _ hk => ⟨hk.1.1.1.1.1, ⟨hk.1.1.1.1.2, ⟨hk.1.1.1.2, ⟨hk.1.1.2, ⟨hk.1.2, hk.2⟩⟩⟩⟩⟩)), (by (with_reducible repeat (first | apply Kd.R_alloc | apply Kd.R_drewN | apply Kd.R_drew)); exact Kd.R_mono HO470.out (fun _ hk => ⟨hk.1.1.1.1.1.2, ⟨hk.1.1.1.1.2, ⟨hk.1.1.1.2, ⟨hk.1.1.2, ⟨hk.1.2, hk.2⟩⟩⟩⟩⟩)), (by (with_reducible repeat (first | apply HW.M_alloc | apply HW.M_drewN | apply HW.M_drew)); exact HW.M_mono HO474.out (fun _ hk => ⟨hk.1.1.1, ⟨hk.1.1.2.1, ⟨hk.1.1.2.2.1, ⟨hk.1.1.2.2.2, ⟨hk.1.2, hk.2⟩⟩⟩⟩⟩)), (by (with_reducible repeat (first | apply HW.M_alloc | apply HW.M_drewN | apply HW.M_drew)); exact HW.M_mono HO478.out (fun _ hk => ⟨hk.1.1, ⟨hk.1.2.1, ⟨hk.1.2.2.1, ⟨hk.1.2.2.2.1, ⟨hk.1.2.2.2.2, hk.2⟩⟩⟩⟩⟩)), (by (with_reducible repeat (first | apply Kd.R_alloc | apply Kd.R_drewN | apply Kd.R_drew)); exact Kd.R_mono HO481.out (fun _ hk => ⟨hk.1.1.1.1.1.2, ⟨hk.1.1.1.1.2, ⟨hk.1.1.1.2, ⟨hk.1.1.2, ⟨hk.1.2, hk.2⟩⟩⟩⟩⟩)), (by (with_reducible repeat (first | refine blk_drewN ?_ _ | refine blk_drew ?_ | refine blk_alloc ?_ _)); exact BK449.out), (by (with_reducible repeat (first | refine blk_drewN ?_ _ | refine blk_drew ?_ | refine blk_alloc ?_ _)); exact BK467.out), (by repeat (first | (with_reducible first | exact HB.out | apply below_alloc | apply pw_below_drewN | apply below_drew1 | refine below_set ?_ GE449.out | refine below_set ?_ GE467.out) | exact HB.out))⟩)
                                    · skip
                                      refine Kd.R_lit_step (Kd.int .u8) _ 5 ?hg (N := 91) ?hd (xs := ([0] : List Int)) (inner := [.int .u8 0]) (ok := fun _ => True) (okp := fun _ => True) ?hr ?hp (fun _ hk => hk) trivial (Below.refl _ _) (Nat.le_refl _) (by simp) ?_; (case hd => rfl); (case hg => rfl); (case hr => first | (go_simp; done) | (go_simp; rfl)); (case hp => exact (Reps.one (show Kd.M (Kd.int .u8) _ _ _ 0 [.int .u8 0] from rfl) (Reps.none _ _)))
                                      intro v480 w54 ho55 hb hg_ hnew_
                                      clear hg_ hnew_
                                      (first | rw [← Ny479.out] at ho55 | (simp only [Int.reduceToNat] at ho55; rw [← Ny479.out] at ho55))
                                      have n0_ := Aside0.mk (Kd.R_elder' (by (with_reducible repeat (first | apply Kd.R_alloc | apply Kd.R_drewN | apply Kd.R_drew)); exact HO455.out) (Kd.R_base ho55) hb)
                                      have n1_ := Aside0.mk (Kd.R_elder' (by (with_reducible repeat (first | apply Kd.R_alloc | apply Kd.R_drewN | apply Kd.R_drew)); exact HO461.out) (Kd.R_base ho55) hb)
                                      have n2_ := Aside0.mk (Kd.R_elder' (by (with_reducible repeat (first | apply Kd.R_alloc | apply Kd.R_drewN | apply Kd.R_drew)); exact HO465.out) (Kd.R_base ho55) hb)
                                      have n3_ := Aside0.mk (Kd.R_elder' (by (with_reducible repeat (first | apply Kd.R_alloc | apply Kd.R_drewN | apply Kd.R_drew)); exact HO470.out) (Kd.R_base ho55) hb)
                                      have n4_ := Aside0.mk (HW.M_elder' (by (with_reducible repeat (first | apply HW.M_alloc | apply HW.M_drewN | apply HW.M_drew)); exact HO474.out) (Kd.R_base ho55) hb)
                                      have n5_ := Aside0.mk (Kd.R_lower (Kd.R_new' (Kd.R_new' (Kd.R_new' (Kd.R_new' (Kd.R_new' ho55 (Kd.R_lt (by (with_reducible repeat (first | apply Kd.R_alloc | apply Kd.R_drewN | apply Kd.R_drew)); exact HO455.out))) (Kd.R_lt (by (with_reducible repeat (first | apply Kd.R_alloc | apply Kd.R_drewN | apply Kd.R_drew)); exact HO461.out))) (Kd.R_lt (by (with_reducible repeat (first | apply Kd.R_alloc | apply Kd.R_drewN | apply Kd.R_drew)); exact HO465.out))) (Kd.R_lt (by (with_reducible repeat (first | apply Kd.R_alloc | apply Kd.R_drewN | apply Kd.R_drew)); exact HO470.out))) (HW.M_lt (by (with_reducible repeat (first | apply HW.M_alloc | apply HW.M_drewN | apply HW.M_drew)); exact HO474.out))) (below_size (by repeat (first | (with_reducible first | exact HB.out | apply below_alloc | apply pw_below_drewN | apply below_drew1 | refine below_set ?_ GE449.out | refine below_set ?_ GE467.out) | exact HB.out))))
                                      have n6_ := Aside0.mk (blk_below (g := gb449) (o := .cells #[.int .i64 a1_0, .string a1_1, .string a1_2, .int .i64 a1_3, .int .u64 a1_4, .int .u64 a1_5, .slice A1_6 l1_6.length c1_6, .slice A1_7 l1_7.length c1_7] 26 (0, 0)) (by (with_reducible repeat (first | refine blk_drewN ?_ _ | refine blk_drew ?_ | refine blk_alloc ?_ _)); exact BK449.out) hb)
                                      have n7_ := Aside0.mk (blk_below (g := gb467) (o := .cells #[.int .i64 t462, .slice Ao44 t463.length co44] 37 (0, 0)) (by (with_reducible repeat (first | refine blk_drewN ?_ _ | refine blk_drew ?_ | refine blk_alloc ?_ _)); exact BK467.out) hb)
                                      have n8_ := Aside0.mk (below_step (by repeat (first | (with_reducible first | exact HB.out | apply below_alloc | apply pw_below_drewN | apply below_drew1 | refine below_set ?_ GE449.out | refine below_set ?_ GE467.out) | exact HB.out)) hb)
                                      clear HO455
                                      clear HO461
                                      clear HO465
                                      clear HO470
                                      clear HO474
                                      clear BK449
                                      clear BK467
                                      clear HB
                                      have HO455 := n0_
                                      have HO461 := n1_
                                      have HO465 := n2_
                                      have HO470 := n3_
                                      have HO474 := n4_
                                      have HO481 := n5_
                                      have BK449 := n6_
                                      have BK467 := n7_
                                      have HB := n8_
                                      clear n0_ n1_ n2_ n3_ n4_ n5_ n6_ n7_ n8_
                                      clear hb ho55
                                      refine hK.out _ _ ⟨(blk_cell BK467.out 0).trans rfl, (blk_cell BK467.out 1).trans rfl, (blk_cell BK449.out 0).trans rfl, (blk_cell BK449.out 1).trans rfl, (blk_cell BK449.out 2).trans rfl, (blk_cell BK449.out 3).trans rfl, (blk_cell BK449.out 4).trans rfl, (blk_cell BK449.out 5).trans rfl, (blk_cell BK449.out 6).trans rfl, (blk_cell BK449.out 7).trans rfl⟩ (fun hHeld => ?_)
                                      clear hK K
                                      refine norm_ (a' := ?_) ?_ ?_
                                      rotate_left
                                      · show Act.put _ (some 91) _ = _
                                        simp only [Act.put, List.setIfInBounds_toArray, List.set_cons_zero, List.set_cons_succ, i64_w, i32_w]
                                        rfl
                                      refine one_ (i := 38) (N := some 90) #[true, true, true, true, true, true, true, true, true, true, true, true, true, true, true, true, true, true, true, true, true, true, true, true, true, true, true, true, true, true, true, true, true, true, true, true, true, true, true, true, false, false, false, false] rfl rfl (one_of HT_.out (by kernel_rfl)) (by decide) (fun K hK => ?_)
                                      refine HW.conv_step (w0 := w) w.heap.size (by rfl) (.tmp 89) 9 23 5 rfl Tryd.underlying9 Tryd.underlying23 Tryd.underlying5 a0 (fun k_ => some k_ ≠ (.slice Ao37 t453.length co37 : Value).ownBlock ∧ some k_ ≠ (v460 : Value).ownBlock ∧ some k_ ≠ (.slice Ao44 t463.length co44 : Value).ownBlock ∧ some k_ ≠ (.slice Ao49 t468.length co49 : Value).ownBlock ∧ some k_ ≠ (.slice Ao52 y472.length co52 : Value).ownBlock ∧ some k_ ≠ (v480 : Value).ownBlock) rfl ?aF ?aB ?aS ?aL ?_
                                      (case aB => exact (by repeat (first | (with_reducible first | exact HB.out | apply below_alloc | apply pw_below_drewN | apply below_drew1 | refine below_set ?_ GE449.out | refine below_set ?_ GE467.out) | exact HB.out)))
                                      (case aF => exact (fun k_ hk => ⟨Kd.fresh' (Kd.R_lt (by (with_reducible repeat (first | apply Kd.R_alloc | apply Kd.R_drewN | apply Kd.R_drew)); exact HO455.out)) k_ hk, Kd.fresh' (Kd.R_lt (by (with_reducible repeat (first | apply Kd.R_alloc | apply Kd.R_drewN | apply Kd.R_drew)); exact HO461.out)) k_ hk, Kd.fresh' (Kd.R_lt (by (with_reducible repeat (first | apply Kd.R_alloc | apply Kd.R_drewN | apply Kd.R_drew)); exact HO465.out)) k_ hk, Kd.fresh' (Kd.R_lt (by (with_reducible repeat (first | apply Kd.R_alloc | apply Kd.R_drewN | apply Kd.R_drew)); exact HO470.out)) k_ hk, Kd.fresh' (HW.M_lt (by (with_reducible repeat (first | apply HW.M_alloc | apply HW.M_drewN | apply HW.M_drew)); exact HO474.out)) k_ hk, Kd.fresh' (Kd.R_lt (by (with_reducible repeat (first | apply Kd.R_alloc | apply Kd.R_drewN | apply Kd.R_drew)); exact HO481.out)) k_ hk⟩))
                                      (case aS => exact (below_size (by repeat (first | (with_reducible first | exact HB.out | apply below_alloc | apply pw_below_drewN | apply below_drew1 | refine below_set ?_ GE449.out | refine below_set ?_ GE467.out) | exact HB.out))))
                                      (case aL => have := LMc30.out; omega)
                                      intro v477 w56 ho hb hg hat
                                      rw [← Ny476.out] at ho
                                      have n0_ := Aside0.mk (blk_grown (g := gb449) (o := .cells #[.int .i64 a1_0, .string a1_1, .string a1_2, .int .i64 a1_3, .int .u64 a1_4, .int .u64 a1_5, .slice A1_6 l1_6.length c1_6, .slice A1_7 l1_7.length c1_7] 26 (0, 0)) (by (with_reducible repeat (first | refine blk_drewN ?_ _ | refine blk_drew ?_ | refine blk_alloc ?_ _)); exact BK449.out) hg (by simp [Value.ownBlock]))
                                      have n1_ := Aside0.mk (Kd.R_after (Kd.R_apart_nil (by (with_reducible repeat (first | apply Kd.R_alloc | apply Kd.R_drewN | apply Kd.R_drew)); exact HO455.out)) hg hat)
                                      have n2_ := Aside0.mk (Kd.R_after (Kd.R_apart_nil (by (with_reducible repeat (first | apply Kd.R_alloc | apply Kd.R_drewN | apply Kd.R_drew)); exact HO461.out)) hg hat)
                                      have n3_ := Aside0.mk (Kd.R_after (Kd.R_apart_nil (by (with_reducible repeat (first | apply Kd.R_alloc | apply Kd.R_drewN | apply Kd.R_drew)); exact HO465.out)) hg hat)
                                      have n4_ := Aside0.mk (blk_grown (g := gb467) (o := .cells #[.int .i64 t462, .slice Ao44 t463.length co44] 37 (0, 0)) (by (with_reducible repeat (first | refine blk_drewN ?_ _ | refine blk_drew ?_ | refine blk_alloc ?_ _)); exact BK467.out) hg (by simp [Value.ownBlock]))
                                      have n5_ := Aside0.mk (Kd.R_after (Kd.R_apart_nil (by (with_reducible repeat (first | apply Kd.R_alloc | apply Kd.R_drewN | apply Kd.R_drew)); exact HO470.out)) hg hat)
                                      have n6_ := Aside0.mk (HW.M_after (HW.M_apart_nil (by (with_reducible repeat (first | apply HW.M_alloc | apply HW.M_drewN | apply HW.M_drew)); exact HO474.out)) hg hat)
                                      have n7_ := Aside0.mk (Kd.R_after (Kd.R_apart_nil (by (with_reducible repeat (first | apply Kd.R_alloc | apply Kd.R_drewN | apply Kd.R_drew)); exact HO481.out)) hg hat)
                                      have n8_ := Aside0.mk (hb)
                                      have n9_ := Aside0.mk (ho)
                                      clear BK449
                                      clear HO455
                                      clear HO461
                                      clear HO465
                                      clear BK467
                                      clear HO470
                                      clear HO474
                                      clear HO481
                                      clear HB
                                      have BK449 := n0_
                                      have HO455 := n1_
                                      have HO461 := n2_
                                      have HO465 := n3_
                                      have BK467 := n4_
                                      have HO470 := n5_
                                      have HO474 := n6_
                                      have HO481 := n7_
                                      have HB := n8_
                                      have HO478 := n9_
                                      clear n0_ n1_ n2_ n3_ n4_ n5_ n6_ n7_ n8_ n9_
                                      clear ho hb hg hat
                                      refine hK.out _ _ ⟨(blk_cell BK467.out 0).trans rfl, (blk_cell BK467.out 1).trans rfl, (blk_cell BK449.out 0).trans rfl, (blk_cell BK449.out 1).trans rfl, (blk_cell BK449.out 2).trans rfl, (blk_cell BK449.out 3).trans rfl, (blk_cell BK449.out 4).trans rfl, (blk_cell BK449.out 5).trans rfl, (blk_cell BK449.out 6).trans rfl, (blk_cell BK449.out 7).trans rfl⟩ (fun hHeld => ?_)
                                      clear hK K
                                      refine norm_ (a' := ?_) ?_ ?_
                                      rotate_left
                                      · show Act.put _ (some 90) _ = _
                                        simp only [Act.put, List.setIfInBounds_toArray, List.set_cons_zero, List.set_cons_succ, i64_w, i32_w]
                                        rfl
                                      exact norm_ (by simp only [putAll, Act.put, List.setIfInBounds_toArray, List.set_cons_zero, List.set_cons_succ]) (hCont (v477, v480) _ ⟨hHeld, (by (with_reducible repeat (first | apply Kd.R_alloc | apply Kd.R_drewN | apply Kd.R_drew)); exact Kd.R_mono HO455.out (fun _ hk => ⟨hk.1.1.1.1.1, ⟨hk.1.1.1.1.2, ⟨hk.1.1.1.2, ⟨hk.1.1.2, ⟨hk.2, hk.1.2⟩⟩⟩⟩⟩)), (by (with_reducible repeat (first | apply Kd.R_alloc | apply Kd.R_drewN | apply Kd.R_drew)); exact Kd.R_mono HO461.out (fun _ hk => ⟨hk.1.1.1.1.1, ⟨hk.1.1.1.1.2, ⟨hk.1.1.1.2, ⟨hk.1.1.2, ⟨hk.2, hk.1.2⟩⟩⟩⟩⟩)), (by (with_reducible repeat (first | apply Kd.R_alloc | apply Kd.R_drewN | apply Kd.R_drew)); exact Kd.R_mono HO465.out (fun _ hk => ⟨hk.1.1.1.1.1, ⟨hk.1.1.1.1.2, ⟨hk.1.1.1.2, ⟨hk.1.1.2, ⟨hk.2, hk.1.2⟩⟩⟩⟩⟩)), (by (with_reducible repeat (first | apply Kd.R_alloc | apply Kd.R_drewN | apply Kd.R_drew)); exact Kd.R_mono HO470.out (fun _ hk => ⟨hk.1.1.1.1.1.2, ⟨hk.1.1.1.1.2, ⟨hk.1.1.1.2, ⟨hk.1.1.2, ⟨hk.2, hk.1.2⟩⟩⟩⟩⟩)), (by (with_reducible repeat (first | apply HW.M_alloc | apply HW.M_drewN | apply HW.M_drew)); exact HW.M_mono HO474.out (fun _ hk => ⟨hk.1.1.1, ⟨hk.1.1.2.1, ⟨hk.1.1.2.2.1, ⟨hk.1.1.2.2.2, ⟨hk.2, hk.1.2⟩⟩⟩⟩⟩)), (by (with_reducible repeat (first | apply HW.M_alloc | apply HW.M_drewN | apply HW.M_drew)); exact HO478.out), (by (with_reducible repeat (first | apply Kd.R_alloc | apply Kd.R_drewN | apply Kd.R_drew)); exact Kd.R_mono HO481.out (fun _ hk => ⟨hk.1.1.1.1.1.2, ⟨hk.1.1.1.1.2, ⟨hk.1.1.1.2, ⟨hk.1.1.2, ⟨hk.1.2, hk.2⟩⟩⟩⟩⟩)), (by (with_reducible repeat (first | refine blk_drewN ?_ _ | refine blk_drew ?_ | refine blk_alloc ?_ _)); exact BK449.out), (by (with_reducible repeat (first | refine blk_drewN ?_ _ | refine blk_drew ?_ | refine blk_alloc ?_ _)); exact BK467.out), (by repeat (first | (with_reducible first | exact HB.out | apply below_alloc | apply pw_below_drewN | apply below_drew1 | refine below_set ?_ GE449.out | refine below_set ?_ GE467.out) | exact HB.out))⟩)
                                  rintro ⟨v477, v480⟩ w57 ⟨hS_, h0_, h1_, h2_, h3_, h4_, h5_, h6_, h7_, h8_, h9_⟩
                                  have n0_ : Aside0 (Kd.R (Kd.int .u8) 5 w57 w.heap.size (fun k_ => some k_ ≠ (v460 : Value).ownBlock ∧ some k_ ≠ (.slice Ao44 t463.length co44 : Value).ownBlock ∧ some k_ ≠ (.slice Ao49 t468.length co49 : Value).ownBlock ∧ some k_ ≠ (.slice Ao52 y472.length co52 : Value).ownBlock ∧ some k_ ≠ (v477 : Value).ownBlock ∧ some k_ ≠ (v480 : Value).ownBlock) (.slice Ao37 t453.length co37) t453) := ⟨h0_⟩
                                  have n1_ : Aside0 (Kd.R (Kd.int .u8) 5 w57 w.heap.size (fun k_ => some k_ ≠ (.slice Ao37 t453.length co37 : Value).ownBlock ∧ some k_ ≠ (.slice Ao44 t463.length co44 : Value).ownBlock ∧ some k_ ≠ (.slice Ao49 t468.length co49 : Value).ownBlock ∧ some k_ ≠ (.slice Ao52 y472.length co52 : Value).ownBlock ∧ some k_ ≠ (v477 : Value).ownBlock ∧ some k_ ≠ (v480 : Value).ownBlock) v460 t458) := ⟨h1_⟩
                                  have n2_ : Aside0 (Kd.R (Kd.int .u8) 5 w57 w.heap.size (fun k_ => some k_ ≠ (.slice Ao37 t453.length co37 : Value).ownBlock ∧ some k_ ≠ (v460 : Value).ownBlock ∧ some k_ ≠ (.slice Ao49 t468.length co49 : Value).ownBlock ∧ some k_ ≠ (.slice Ao52 y472.length co52 : Value).ownBlock ∧ some k_ ≠ (v477 : Value).ownBlock ∧ some k_ ≠ (v480 : Value).ownBlock) (.slice Ao44 t463.length co44) t463) := ⟨h2_⟩
                                  have n3_ : Aside0 (Kd.R (Kd.int .u8) 5 w57 w.heap.size (fun k_ => some k_ ≠ (.slice Ao37 t453.length co37 : Value).ownBlock ∧ some k_ ≠ (v460 : Value).ownBlock ∧ some k_ ≠ (.slice Ao44 t463.length co44 : Value).ownBlock ∧ some k_ ≠ (.slice Ao52 y472.length co52 : Value).ownBlock ∧ some k_ ≠ (v477 : Value).ownBlock ∧ some k_ ≠ (v480 : Value).ownBlock) (.slice Ao49 t468.length co49) t468) := ⟨h3_⟩
                                  have n4_ : Aside0 (HW.MR (Kd.int .u8) 5 w57 w.heap.size (fun k_ => some k_ ≠ (.slice Ao37 t453.length co37 : Value).ownBlock ∧ some k_ ≠ (v460 : Value).ownBlock ∧ some k_ ≠ (.slice Ao44 t463.length co44 : Value).ownBlock ∧ some k_ ≠ (.slice Ao49 t468.length co49 : Value).ownBlock ∧ some k_ ≠ (v477 : Value).ownBlock ∧ some k_ ≠ (v480 : Value).ownBlock) (.slice Ao52 y472.length co52) y472) := ⟨h4_⟩
                                  have n5_ : Aside0 (HW.MR (Kd.int .u8) 5 w57 w.heap.size (fun k_ => some k_ ≠ (.slice Ao37 t453.length co37 : Value).ownBlock ∧ some k_ ≠ (v460 : Value).ownBlock ∧ some k_ ≠ (.slice Ao44 t463.length co44 : Value).ownBlock ∧ some k_ ≠ (.slice Ao49 t468.length co49 : Value).ownBlock ∧ some k_ ≠ (.slice Ao52 y472.length co52 : Value).ownBlock ∧ some k_ ≠ (v480 : Value).ownBlock) v477 y476) := ⟨h5_⟩
                                  have n6_ : Aside0 (Kd.R (Kd.int .u8) 5 w57 w.heap.size (fun k_ => some k_ ≠ (.slice Ao37 t453.length co37 : Value).ownBlock ∧ some k_ ≠ (v460 : Value).ownBlock ∧ some k_ ≠ (.slice Ao44 t463.length co44 : Value).ownBlock ∧ some k_ ≠ (.slice Ao49 t468.length co49 : Value).ownBlock ∧ some k_ ≠ (.slice Ao52 y472.length co52 : Value).ownBlock ∧ some k_ ≠ (v477 : Value).ownBlock) v480 y479) := ⟨h6_⟩
                                  have n7_ : Aside0 (w57.heap[gb449]? = some (.cells #[.int .i64 a1_0, .string a1_1, .string a1_2, .int .i64 a1_3, .int .u64 a1_4, .int .u64 a1_5, .slice A1_6 l1_6.length c1_6, .slice A1_7 l1_7.length c1_7] 26 (0, 0))) := ⟨h7_⟩
                                  have n8_ : Aside0 (w57.heap[gb467]? = some (.cells #[.int .i64 t462, .slice Ao44 t463.length co44] 37 (0, 0))) := ⟨h8_⟩
                                  have n9_ : Aside0 (Below w.heap.size w w57) := ⟨h9_⟩
                                  clear HO455
                                  clear HO461
                                  clear HO465
                                  clear BK449
                                  clear BK467
                                  clear HB
                                  clear h0_ h1_ h2_ h3_ h4_ h5_ h6_ h7_ h8_ h9_
                                  have HO455 := n0_
                                  have HO461 := n1_
                                  have HO465 := n2_
                                  have HO470 := n3_
                                  have HO474 := n4_
                                  have HO478 := n5_
                                  have HO481 := n6_
                                  have BK449 := n7_
                                  have BK467 := n8_
                                  have HB := n9_
                                  clear n0_ n1_ n2_ n3_ n4_ n5_ n6_ n7_ n8_ n9_
                                  have hHeld : w57.cell? ⟨gb467, 0, none⟩ = some (.int .i64 t462) ∧ w57.cell? ⟨gb467, 1, none⟩ = some (.slice Ao44 t463.length co44) ∧ w57.cell? ⟨gb449, 0, none⟩ = some (.int .i64 a1_0) ∧ w57.cell? ⟨gb449, 1, none⟩ = some (.string a1_1) ∧ w57.cell? ⟨gb449, 2, none⟩ = some (.string a1_2) ∧ w57.cell? ⟨gb449, 3, none⟩ = some (.int .i64 a1_3) ∧ w57.cell? ⟨gb449, 4, none⟩ = some (.int .u64 a1_4) ∧ w57.cell? ⟨gb449, 5, none⟩ = some (.int .u64 a1_5) ∧ w57.cell? ⟨gb449, 6, none⟩ = some (.slice A1_6 l1_6.length c1_6) ∧ w57.cell? ⟨gb449, 7, none⟩ = some (.slice A1_7 l1_7.length c1_7) := hS_
                                  obtain ⟨Ao59, co59, eo59⟩ := Kd.R_slice HO481.out
                                  (first | subst eo59 | (injection eo59 with f1_ f2_ f3_; have f4_ := f1_.symm; have f5_ := f3_.symm; clear f1_ f2_ f3_; subst f4_; subst f5_))
                                  refine norm_ (a' := ?_) ?_ ?_
                                  rotate_left
                                  · simp only [putAll, Act.put, List.setIfInBounds_toArray, List.set_cons_zero, List.set_cons_succ]
                                    rfl
                                  refine one_ (i := 40) (N := some 92) #[true, true, true, true, true, true, true, true, true, true, true, true, true, true, true, true, true, true, true, true, true, true, true, true, true, true, true, true, true, true, true, true, true, true, true, true, true, true, true, true, true, false, false, false] rfl rfl (one_of HT_.out (by kernel_rfl)) (by decide) (fun K hK => ?_)
                                  refine HW.M_append_rows_step (Rr := fun _ _ => True) (Kd.int .u8) (w0 := w) w.heap.size (by rfl) (.tmp 90) (.tmp 91) 23 5 rfl Tryd.underlying23 info5 v477 y476 y479 _ _ _ (fun k_ => some k_ ≠ (.slice Ao37 t453.length co37 : Value).ownBlock ∧ some k_ ≠ (v460 : Value).ownBlock ∧ some k_ ≠ (.slice Ao44 t463.length co44 : Value).ownBlock ∧ some k_ ≠ (.slice Ao49 t468.length co49 : Value).ownBlock ∧ some k_ ≠ (.slice Ao52 y472.length co52 : Value).ownBlock ∧ some k_ ≠ (.slice Ao59 y479.length co59 : Value).ownBlock) rfl rfl ?aO ?aR ?aP ?aF ?aB ?aS ?aL ?_
                                  (case aP => exact (by rw [Ny479.out]; decide))
                                  (case aR => repeat (first | exact (Kd.R_reads' HO481.out).2.2 | (with_reducible refine Kd.C_alloc ?_ _) | (with_reducible refine Kd.C_drewN ?_ _) | (with_reducible refine Kd.C_drew ?_)))
                                  (case aB => exact (by repeat (first | (with_reducible first | exact HB.out | apply below_alloc | apply pw_below_drewN | apply below_drew1 | refine below_set ?_ GE449.out | refine below_set ?_ GE467.out) | exact HB.out)))
                                  (case aF => exact (fun k_ hk => ⟨Kd.fresh' (Kd.R_lt (by (with_reducible repeat (first | apply Kd.R_alloc | apply Kd.R_drewN | apply Kd.R_drew)); exact HO455.out)) k_ hk, Kd.fresh' (Kd.R_lt (by (with_reducible repeat (first | apply Kd.R_alloc | apply Kd.R_drewN | apply Kd.R_drew)); exact HO461.out)) k_ hk, Kd.fresh' (Kd.R_lt (by (with_reducible repeat (first | apply Kd.R_alloc | apply Kd.R_drewN | apply Kd.R_drew)); exact HO465.out)) k_ hk, Kd.fresh' (Kd.R_lt (by (with_reducible repeat (first | apply Kd.R_alloc | apply Kd.R_drewN | apply Kd.R_drew)); exact HO470.out)) k_ hk, Kd.fresh' (HW.M_lt (by (with_reducible repeat (first | apply HW.M_alloc | apply HW.M_drewN | apply HW.M_drew)); exact HO474.out)) k_ hk, Kd.fresh' (Kd.R_lt (by (with_reducible repeat (first | apply Kd.R_alloc | apply Kd.R_drewN | apply Kd.R_drew)); exact HO481.out)) k_ hk⟩))
                                  (case aO => exact (by (with_reducible repeat (first | apply HW.M_alloc | apply HW.M_drewN | apply HW.M_drew)); exact HO478.out))
                                  (case aS => exact (below_size (by repeat (first | (with_reducible first | exact HB.out | apply below_alloc | apply pw_below_drewN | apply below_drew1 | refine below_set ?_ GE449.out | refine below_set ?_ GE467.out) | exact HB.out))))
                                  (case aL => have := LMc33.out; omega)
                                  intro v483 w58 ho hb hg hat
                                  rw [← Ny482.out] at ho
                                  have n0_ := Aside0.mk (blk_grown (g := gb449) (o := .cells #[.int .i64 a1_0, .string a1_1, .string a1_2, .int .i64 a1_3, .int .u64 a1_4, .int .u64 a1_5, .slice A1_6 l1_6.length c1_6, .slice A1_7 l1_7.length c1_7] 26 (0, 0)) (by (with_reducible repeat (first | refine blk_drewN ?_ _ | refine blk_drew ?_ | refine blk_alloc ?_ _)); exact BK449.out) hg (HW.M_ne HO478.out BK449.out (by decide)))
                                  have n1_ := Aside0.mk (Kd.R_after (ok := (fun k_ => some k_ ≠ (v460 : Value).ownBlock ∧ some k_ ≠ (.slice Ao44 t463.length co44 : Value).ownBlock ∧ some k_ ≠ (.slice Ao49 t468.length co49 : Value).ownBlock ∧ some k_ ≠ (.slice Ao52 y472.length co52 : Value).ownBlock ∧ some k_ ≠ (.slice Ao59 y479.length co59 : Value).ownBlock)) (by (with_reducible repeat (first | apply Kd.R_alloc | apply Kd.R_drewN | apply Kd.R_drew)); exact Kd.R_mono HO455.out (fun _ hk => ⟨⟨hk.1, ⟨hk.2.1, ⟨hk.2.2.1, ⟨hk.2.2.2.1, hk.2.2.2.2.2⟩⟩⟩⟩, hk.2.2.2.2.1⟩)) hg hat)
                                  have n2_ := Aside0.mk (Kd.R_after (ok := (fun k_ => some k_ ≠ (.slice Ao37 t453.length co37 : Value).ownBlock ∧ some k_ ≠ (.slice Ao44 t463.length co44 : Value).ownBlock ∧ some k_ ≠ (.slice Ao49 t468.length co49 : Value).ownBlock ∧ some k_ ≠ (.slice Ao52 y472.length co52 : Value).ownBlock ∧ some k_ ≠ (.slice Ao59 y479.length co59 : Value).ownBlock)) (by (with_reducible repeat (first | apply Kd.R_alloc | apply Kd.R_drewN | apply Kd.R_drew)); exact Kd.R_mono HO461.out (fun _ hk => ⟨⟨hk.1, ⟨hk.2.1, ⟨hk.2.2.1, ⟨hk.2.2.2.1, hk.2.2.2.2.2⟩⟩⟩⟩, hk.2.2.2.2.1⟩)) hg hat)
                                  have n3_ := Aside0.mk (Kd.R_after (ok := (fun k_ => some k_ ≠ (.slice Ao37 t453.length co37 : Value).ownBlock ∧ some k_ ≠ (v460 : Value).ownBlock ∧ some k_ ≠ (.slice Ao49 t468.length co49 : Value).ownBlock ∧ some k_ ≠ (.slice Ao52 y472.length co52 : Value).ownBlock ∧ some k_ ≠ (.slice Ao59 y479.length co59 : Value).ownBlock)) (by (with_reducible repeat (first | apply Kd.R_alloc | apply Kd.R_drewN | apply Kd.R_drew)); exact Kd.R_mono HO465.out (fun _ hk => ⟨⟨hk.1, ⟨hk.2.1, ⟨hk.2.2.1, ⟨hk.2.2.2.1, hk.2.2.2.2.2⟩⟩⟩⟩, hk.2.2.2.2.1⟩)) hg hat)
                                  have n4_ := Aside0.mk (blk_grown (g := gb467) (o := .cells #[.int .i64 t462, .slice Ao44 t463.length co44] 37 (0, 0)) (by (with_reducible repeat (first | refine blk_drewN ?_ _ | refine blk_drew ?_ | refine blk_alloc ?_ _)); exact BK467.out) hg (HW.M_ne HO478.out BK467.out (by decide)))
                                  have n5_ := Aside0.mk (Kd.R_after (ok := (fun k_ => some k_ ≠ (.slice Ao37 t453.length co37 : Value).ownBlock ∧ some k_ ≠ (v460 : Value).ownBlock ∧ some k_ ≠ (.slice Ao44 t463.length co44 : Value).ownBlock ∧ some k_ ≠ (.slice Ao52 y472.length co52 : Value).ownBlock ∧ some k_ ≠ (.slice Ao59 y479.length co59 : Value).ownBlock)) (by (with_reducible repeat (first | apply Kd.R_alloc | apply Kd.R_drewN | apply Kd.R_drew)); exact Kd.R_mono HO470.out (fun _ hk => ⟨⟨hk.1, ⟨hk.2.1, ⟨hk.2.2.1, ⟨hk.2.2.2.1, hk.2.2.2.2.2⟩⟩⟩⟩, hk.2.2.2.2.1⟩)) hg hat)
                                  have n6_ := Aside0.mk (HW.M_after (ok := (fun k_ => some k_ ≠ (.slice Ao37 t453.length co37 : Value).ownBlock ∧ some k_ ≠ (v460 : Value).ownBlock ∧ some k_ ≠ (.slice Ao44 t463.length co44 : Value).ownBlock ∧ some k_ ≠ (.slice Ao49 t468.length co49 : Value).ownBlock ∧ some k_ ≠ (.slice Ao59 y479.length co59 : Value).ownBlock)) (by (with_reducible repeat (first | apply HW.M_alloc | apply HW.M_drewN | apply HW.M_drew)); exact HW.M_mono HO474.out (fun _ hk => ⟨⟨hk.1, ⟨hk.2.1, ⟨hk.2.2.1, ⟨hk.2.2.2.1, hk.2.2.2.2.2⟩⟩⟩⟩, hk.2.2.2.2.1⟩)) hg hat)
                                  have n7_ := Aside0.mk (Kd.R_after (ok := (fun k_ => some k_ ≠ (.slice Ao37 t453.length co37 : Value).ownBlock ∧ some k_ ≠ (v460 : Value).ownBlock ∧ some k_ ≠ (.slice Ao44 t463.length co44 : Value).ownBlock ∧ some k_ ≠ (.slice Ao49 t468.length co49 : Value).ownBlock ∧ some k_ ≠ (.slice Ao52 y472.length co52 : Value).ownBlock)) (by (with_reducible repeat (first | apply Kd.R_alloc | apply Kd.R_drewN | apply Kd.R_drew)); exact Kd.R_mono HO481.out (fun _ hk => ⟨⟨hk.1, ⟨hk.2.1, ⟨hk.2.2.1, ⟨hk.2.2.2.1, hk.2.2.2.2.1⟩⟩⟩⟩, hk.2.2.2.2.2⟩)) hg hat)
                                  have n8_ := Aside0.mk (hb)
                                  have n9_ := Aside0.mk (ho)
                                  clear BK449
                                  clear HO455
                                  clear HO461
                                  clear HO465
                                  clear BK467
                                  clear HO470
                                  clear HO474
                                  clear HO481
                                  clear HB
                                  clear HO478
                                  have BK449 := n0_
                                  have HO455 := n1_
                                  have HO461 := n2_
                                  have HO465 := n3_
                                  have BK467 := n4_
                                  have HO470 := n5_
                                  have HO474 := n6_
                                  have HO481 := n7_
                                  have HB := n8_
                                  have HO484 := n9_
                                  clear n0_ n1_ n2_ n3_ n4_ n5_ n6_ n7_ n8_ n9_
                                  clear ho hb hg hat
                                  obtain ⟨Ao60, co60, eo60⟩ := HW.M_slice HO484.out
                                  (first | subst eo60 | (injection eo60 with f1_ f2_ f3_; have f4_ := f1_.symm; have f5_ := f3_.symm; clear f1_ f2_ f3_; subst f4_; subst f5_))
                                  refine hK.out _ _ ⟨(blk_cell BK467.out 0).trans rfl, (blk_cell BK467.out 1).trans rfl, (blk_cell BK449.out 0).trans rfl, (blk_cell BK449.out 1).trans rfl, (blk_cell BK449.out 2).trans rfl, (blk_cell BK449.out 3).trans rfl, (blk_cell BK449.out 4).trans rfl, (blk_cell BK449.out 5).trans rfl, (blk_cell BK449.out 6).trans rfl, (blk_cell BK449.out 7).trans rfl⟩ (fun hHeld => ?_)
                                  clear hK K
                                  refine norm_ (a' := ?_) ?_ ?_
                                  rotate_left
                                  · show Act.put _ (some 92) _ = _
                                    simp only [Act.put, List.setIfInBounds_toArray, List.set_cons_zero, List.set_cons_succ, i64_w, i32_w]
                                    rfl
                                  refine one_ (i := 41) (N := some 93) #[true, true, true, true, true, true, true, true, true, true, true, true, true, true, true, true, true, true, true, true, true, true, true, true, true, true, true, true, true, true, true, true, true, true, true, true, true, true, true, true, true, true, false, false] rfl rfl (one_of HT_.out (by kernel_rfl)) (by decide) (fun K hK => ?_)
                                  refine goes_ Tryd.func14 (by kernel_rfl) rfl #[.slice Ao37 t453.length co37, .slice Ao60 y482.length co60] (by rfl) rfl rfl (by (try simp only [List.map_toArray, List.map_cons, List.map_nil]); first | done | rfl | (simp only [List.length_drop, List.length_take]; rfl)) ?_
                                  with_reducible refine (impl_CompareKey.calls kj9 _ _ t453 _ _ y482 t485 _ ?side1 ?side2 ?side3 ?side4 A34.out).mono ?_
                                  (case side1 => repeat (first | exact (Kd.R_reads' HO455.out).2.2 | (with_reducible refine Kd.C_alloc ?_ _) | (with_reducible refine Kd.C_drewN ?_ _) | (with_reducible refine Kd.C_drew ?_)))
                                  (case side2 => exact (Kd.R_reads' HO455.out).2.1)
                                  (case side3 => repeat (first | exact (HW.M_reads' HO484.out).2.2 | (with_reducible refine Kd.C_alloc ?_ _) | (with_reducible refine Kd.C_drewN ?_ _) | (with_reducible refine Kd.C_drew ?_)))
                                  (case side4 => exact (HW.M_reads' HO484.out).2.1)
                                  rintro e w61 ⟨rfl, hb⟩
                                  refine ⟨_, rfl, ?_⟩
                                  have n0_ := Aside0.mk (Kd.R_below (by (with_reducible repeat (first | apply Kd.R_alloc | apply Kd.R_drewN | apply Kd.R_drew)); exact HO455.out) hb)
                                  have n1_ := Aside0.mk (Kd.R_below (by (with_reducible repeat (first | apply Kd.R_alloc | apply Kd.R_drewN | apply Kd.R_drew)); exact HO461.out) hb)
                                  have n2_ := Aside0.mk (Kd.R_below (by (with_reducible repeat (first | apply Kd.R_alloc | apply Kd.R_drewN | apply Kd.R_drew)); exact HO465.out) hb)
                                  have n3_ := Aside0.mk (Kd.R_below (by (with_reducible repeat (first | apply Kd.R_alloc | apply Kd.R_drewN | apply Kd.R_drew)); exact HO470.out) hb)
                                  have n4_ := Aside0.mk (HW.M_below (by (with_reducible repeat (first | apply HW.M_alloc | apply HW.M_drewN | apply HW.M_drew)); exact HO474.out) hb)
                                  have n5_ := Aside0.mk (Kd.R_below (by (with_reducible repeat (first | apply Kd.R_alloc | apply Kd.R_drewN | apply Kd.R_drew)); exact HO481.out) hb)
                                  have n6_ := Aside0.mk (HW.M_below (by (with_reducible repeat (first | apply HW.M_alloc | apply HW.M_drewN | apply HW.M_drew)); exact HO484.out) hb)
                                  have n7_ := Aside0.mk (blk_below (g := gb449) (o := .cells #[.int .i64 a1_0, .string a1_1, .string a1_2, .int .i64 a1_3, .int .u64 a1_4, .int .u64 a1_5, .slice A1_6 l1_6.length c1_6, .slice A1_7 l1_7.length c1_7] 26 (0, 0)) (by (with_reducible repeat (first | refine blk_drewN ?_ _ | refine blk_drew ?_ | refine blk_alloc ?_ _)); exact BK449.out) hb)
                                  have n8_ := Aside0.mk (blk_below (g := gb467) (o := .cells #[.int .i64 t462, .slice Ao44 t463.length co44] 37 (0, 0)) (by (with_reducible repeat (first | refine blk_drewN ?_ _ | refine blk_drew ?_ | refine blk_alloc ?_ _)); exact BK467.out) hb)
                                  have n9_ := Aside0.mk (below_step (by repeat (first | (with_reducible first | exact HB.out | apply below_alloc | apply pw_below_drewN | apply below_drew1 | refine below_set ?_ GE449.out | refine below_set ?_ GE467.out) | exact HB.out)) hb)
                                  clear HO455
                                  clear HO461
                                  clear HO465
                                  clear HO470
                                  clear HO474
                                  clear HO481
                                  clear HO484
                                  clear BK449
                                  clear BK467
                                  clear HB
                                  have HO455 := n0_
                                  have HO461 := n1_
                                  have HO465 := n2_
                                  have HO470 := n3_
                                  have HO474 := n4_
                                  have HO481 := n5_
                                  have HO484 := n6_
                                  have BK449 := n7_
                                  have BK467 := n8_
                                  have HB := n9_
                                  clear n0_ n1_ n2_ n3_ n4_ n5_ n6_ n7_ n8_ n9_
                                  (try clear hb)
                                  (try clear hb2)
                                  (try clear hk)
                                  (try clear hi)
                                  refine hK.out _ _ ⟨(blk_cell BK467.out 0).trans rfl, (blk_cell BK467.out 1).trans rfl, (blk_cell BK449.out 0).trans rfl, (blk_cell BK449.out 1).trans rfl, (blk_cell BK449.out 2).trans rfl, (blk_cell BK449.out 3).trans rfl, (blk_cell BK449.out 4).trans rfl, (blk_cell BK449.out 5).trans rfl, (blk_cell BK449.out 6).trans rfl, (blk_cell BK449.out 7).trans rfl⟩ (fun hHeld => ?_)
                                  clear hK K
                                  refine norm_ (a' := ?_) ?_ ?_
                                  rotate_left
                                  · show Act.put _ (some 93) _ = _
                                    simp only [Act.put, List.setIfInBounds_toArray, List.set_cons_zero, List.set_cons_succ, i64_w, i32_w]
                                    rfl
                                  refine pure_ (i := 42) (N := some 94) (v := ?_) (a' := ?_) #[true, true, true, true, true, true, true, true, true, true, true, true, true, true, true, true, true, true, true, true, true, true, true, true, true, true, true, true, true, true, true, true, true, true, true, true, true, true, true, true, true, true, true, false] rfl rfl (any_of HT_.out (by kernel_rfl)) (fun _ _ _ h => h) (Or.inl ⟨by rfl, ?_⟩) ?_ ?_
                                  rotate_left
                                  · intro w'
                                    go_simp
                                    with_reducible rfl
                                  rotate_left
                                  · simp only [Act.put, List.setIfInBounds_toArray, List.set_cons_zero, List.set_cons_succ, i64_w, i32_w]
                                    rfl
                                  refine pure_ (i := 43) (N := some 4) (v := ?_) (a' := ?_) #[true, true, true, true, true, true, true, true, true, true, true, true, true, true, true, true, true, true, true, true, true, true, true, true, true, true, true, true, true, true, true, true, true, true, true, true, true, true, true, true, true, true, true, true] rfl rfl (any_of HT_.out (by kernel_rfl)) (fun _ _ _ h => h) (Or.inl ⟨by rfl, ?_⟩) ?_ ?_
                                  rotate_left
                                  · intro w'
                                    go_simp
                                    with_reducible rfl
                                  rotate_left
                                  · simp only [Act.put, List.setIfInBounds_toArray, List.set_cons_zero, List.set_cons_succ, i64_w, i32_w]
                                    rfl
                                  refine done_ (done_of HT_.out (by kernel_rfl)) ?_
                                  try go_wp2
                                  go_ret
                                  exact ⟨by first | rfl | (simp [errW_none, errW_some] <;> rfl) | (simp [*, errW_none, errW_some] <;> rfl), by repeat (first | (with_reducible first | exact HB.out | apply below_alloc | apply pw_below_drewN | apply below_drew1 | refine below_set ?_ GE449.out | refine below_set ?_ GE467.out) | exact HB.out)⟩
                              · rw [if_neg c33] at H
                                exact absurd H (by simp)
                            · replace c32 := Bool.eq_false_iff.mpr c32
                              subst c32
                              have H1 : (none) = some r := by rw [if_neg (show ¬ (false = true) by decide)] at H; exact H
                              clear H
                              have H := H1
                              clear H1
                              exact absurd H (by simp)
                          · rw [if_neg c30] at H
                            exact absurd H (by simp)
                        · replace c29 := Bool.eq_false_iff.mpr c29
                          subst c29
                          have H1 : (none) = some r := by rw [if_neg (show ¬ (false = true) by decide)] at H; exact H
                          clear H
                          have H := H1
                          clear H1
                          exact absurd H (by simp)
                      · rw [if_neg c26] at H
                        exact absurd H (by simp)
                    · rw [if_neg c25] at H
                      exact absurd H (by simp)
                  · rw [if_neg c24] at H
                    exact absurd H (by simp)
                · rw [if_neg c23] at H
                  exact absurd H (by simp)
              · rw [if_neg c22] at H
                exact absurd H (by simp)

end Go.Proofs.YtndpbbgniflckaaDoor.PEl
