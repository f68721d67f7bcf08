import Derived.Test.YtanecebppagakaaGreatDoorPSxx0
import Derived.Test.YtanecebppagakaaGreatDoorPSxx1
import Derived.Test.YtanecebppagakaaGreatDoorPSxx3
import Derived.Test.YtanecebppagakaaGreatDoorPSxx8
import Derived.Test.YtanecebppagakaaGreatDoorPSxx11
import Derived.Test.YtanecebppagakaaGreatDoorPSxx12
import Derived.Test.YtanecebppagakaaGreatDoorPSxx14
namespace Go.Proofs.YtanecebppagakaaGreatDoor.PSx
open Go.Proofs.YtanecebppagakaaGreatDoor.HW (tt ff)
open Go.RowKit Go.Proofs.YtanecebppagakaaGreatDoorW.PrintWords Go.Proofs.YtanecebppagakaaGreatDoorW.PrintLast Go.Proofs.YtanecebppagakaaGreatDoorW.PrintMore
attribute [local go_sem] max2_int min2_int max_two min_two max_three min_three max_four min_four
set_option linter.unusedVariables false
set_option maxHeartbeats 8000000
set_option maxRecDepth 100000
set_option linter.unusedSimpArgs false
mutual
def laws_FnDocShort.j0 : Nat → ByteArray → Int → Bool → Int → ByteArray → ByteArray → Int → Int → Int → List Int → List (S95) → Option (Bool)
  | 0, _, _, _, _, _, _, _, _, _, _, _ => none
  | k + 1, x0, x2, x24, x842000, x842001, x842002, x842003, x842004, x842005, x842006, x842007 => if x24 = true then (some true) else (if (x0.size : Int) > 200 then (laws_FnDocShort.j1 k x0 x2 true x842000 x842001 x842002 x842003 x842004 x842005 x842006 x842007) else ((spec_DocPlain.f k x0).bind fun t843 => (if t843 = true then ((laws_docFine.f k x842000 x842001 x842002 x842003 x842004 x842005 x842006 x842007).bind fun t844 => (laws_FnDocShort.j1 k x0 x2 (!t844) x842000 x842001 x842002 x842003 x842004 x842005 x842006 x842007)) else (laws_FnDocShort.j1 k x0 x2 true x842000 x842001 x842002 x842003 x842004 x842005 x842006 x842007))))
def laws_FnDocShort.j1 : Nat → ByteArray → Int → Bool → Int → ByteArray → ByteArray → Int → Int → Int → List Int → List (S95) → Option (Bool)
  | 0, _, _, _, _, _, _, _, _, _, _, _ => none
  | k + 1, x0, x2, x37, x842000, x842001, x842002, x842003, x842004, x842005, x842006, x842007 => if x37 = true then (some true) else ((spec_DocValue.f k x842000 x842001 x842002 x842003 x842004 x842005 x842006 x842007).bind fun t845 => (if (t845.length : Int) = 0 then (some true) else (if x2 < 0 then (laws_FnDocShort.j2 k x0 x2 t845 true x842000 x842001 x842002 x842003 x842004 x842005 x842006 x842007) else (laws_FnDocShort.j2 k x0 x2 t845 (decide (x2 ≥ (t845.length : Int))) x842000 x842001 x842002 x842003 x842004 x842005 x842006 x842007))))
def laws_FnDocShort.j2 : Nat → ByteArray → Int → List Int → Bool → Int → ByteArray → ByteArray → Int → Int → Int → List Int → List (S95) → Option (Bool)
  | 0, _, _, _, _, _, _, _, _, _, _, _, _ => none
  | k + 1, x0, x2, x7, x50, x842000, x842001, x842002, x842003, x842004, x842005, x842006, x842007 => if x50 = true then (laws_FnDocShort.j3 k x0 (wrap64 ((x7.length : Int) - 1)) x7 x842000 x842001 x842002 x842003 x842004 x842005 x842006 x842007) else (laws_FnDocShort.j3 k x0 x2 x7 x842000 x842001 x842002 x842003 x842004 x842005 x842006 x842007)
def laws_FnDocShort.j3 : Nat → ByteArray → Int → List Int → Int → ByteArray → ByteArray → Int → Int → Int → List Int → List (S95) → Option (Bool)
  | 0, _, _, _, _, _, _, _, _, _, _, _ => none
  | k + 1, x0, x2, x7, x842000, x842001, x842002, x842003, x842004, x842005, x842006, x842007 => if 0 ≤ x2 then (if x2 ≤ (x7.length : Int) then ((laws_docCopy.f (x7.take (x2 : Int).toNat)).bind fun t852 => ((impl_Read.f k x842000 t852).bind fun bt855 => ((laws_docCopy.f (x7.take (x2 : Int).toNat)).bind fun t876 => ((impl_ReadValue.f k x842000 t876).bind fun bt879 => ((spec_DocHead.f x842000 x0).bind fun t888 => ((some (x7.take (x2 : Int).toNat : List Int)).bind fun y891 => (if t888.length + y891.length < 140737488355328 then ((impl_ReadElement.f k (t888 ++ y891)).bind fun bt898 => ((laws_docAwake.f k).bind fun t905 => (if t905 = true then (if bt855.2.2.2.2.2.2.2.2.2 = true then (none) else (if bt879.2.2.2 = true then (none) else (if bt898.2.2 = true then (none) else ((laws_docCopy.f (x7.take (x2 : Int).toNat)).bind fun t910 => ((impl_ValidateValue.f k x842000 t910).bind fun t913 => (some (t913 != 0))))))) else (none)))) else (none)))))))) else (none)) else (none)
end
def laws_FnDocShort.f (k : Nat) (a0 : ByteArray) (a1_0 : Int) (a1_1 : ByteArray) (a1_2 : ByteArray) (a1_3 : Int) (a1_4 : Int) (a1_5 : Int) (l1_6 : List Int) (l1_7 : List (S95)) (a2 : Int) : Option (Bool) := if (a0.size : Int) > 2147483647 then (laws_FnDocShort.j0 k a0 a2 true a1_0 a1_1 a1_2 a1_3 a1_4 a1_5 l1_6 l1_7) else ((laws_zzFits1.f a1_0 a1_1 a1_2 a1_3 a1_4 a1_5 l1_6 l1_7).bind fun t842 => (laws_FnDocShort.j0 k a0 a2 (!t842) a1_0 a1_1 a1_2 a1_3 a1_4 a1_5 l1_6 l1_7))
theorem laws_FnDocShort.mono_l : ∀ k, (∀ y0 y1 y2 y3 y4 y5 y6 y7 y8 y9 y10, LeO (laws_FnDocShort.j0 k y0 y1 y2 y3 y4 y5 y6 y7 y8 y9 y10) (laws_FnDocShort.j0 (k + 1) y0 y1 y2 y3 y4 y5 y6 y7 y8 y9 y10)) ∧ (∀ y0 y1 y2 y3 y4 y5 y6 y7 y8 y9 y10, LeO (laws_FnDocShort.j1 k y0 y1 y2 y3 y4 y5 y6 y7 y8 y9 y10) (laws_FnDocShort.j1 (k + 1) y0 y1 y2 y3 y4 y5 y6 y7 y8 y9 y10)) ∧ (∀ y0 y1 y2 y3 y4 y5 y6 y7 y8 y9 y10 y11, LeO (laws_FnDocShort.j2 k y0 y1 y2 y3 y4 y5 y6 y7 y8 y9 y10 y11) (laws_FnDocShort.j2 (k + 1) y0 y1 y2 y3 y4 y5 y6 y7 y8 y9 y10 y11)) ∧ (∀ y0 y1 y2 y3 y4 y5 y6 y7 y8 y9 y10, LeO (laws_FnDocShort.j3 k y0 y1 y2 y3 y4 y5 y6 y7 y8 y9 y10) (laws_FnDocShort.j3 (k + 1) y0 y1 y2 y3 y4 y5 y6 y7 y8 y9 y10))
  | 0 => ⟨fun _ _ _ _ _ _ _ _ _ _ _ r h => by simp [laws_FnDocShort.j0] at h, fun _ _ _ _ _ _ _ _ _ _ _ r h => by simp [laws_FnDocShort.j1] at h, fun _ _ _ _ _ _ _ _ _ _ _ _ r h => by simp [laws_FnDocShort.j2] at h, fun _ _ _ _ _ _ _ _ _ _ _ r h => by simp [laws_FnDocShort.j3] at h⟩
  | k + 1 => by
    obtain ⟨ih0, ih1, ih2, ih3⟩ := laws_FnDocShort.mono_l k
    refine ⟨?_, ?_, ?_, ?_⟩
    · intro y0 y1 y2 y3 y4 y5 y6 y7 y8 y9 y10
      unfold laws_FnDocShort.j0
      repeat' first
      | (with_reducible exact LeO.refl _)
      | (with_reducible exact LeO.none _)
      | (with_reducible refine LeO.ite ?_ ?_)
      | (with_reducible refine LeO.bind ?_ (fun _ => ?_))
      | exact ih0 _ _ _ _ _ _ _ _ _ _ _
      | exact ih1 _ _ _ _ _ _ _ _ _ _ _
      | exact ih2 _ _ _ _ _ _ _ _ _ _ _ _
      | exact ih3 _ _ _ _ _ _ _ _ _ _ _
      | exact impl_Read.mono _ _ _
      | exact impl_ReadElement.mono _ _
      | exact impl_ReadValue.mono _ _ _
      | exact impl_ValidateValue.mono _ _ _
      | exact laws_docAwake.mono _
      | exact laws_docFine.mono _ _ _ _ _ _ _ _ _
      | exact spec_DocPlain.mono _ _
      | exact spec_DocValue.mono _ _ _ _ _ _ _ _ _
      | exact LeO.none _
      | refine LeO.ite ?_ ?_
      | refine LeO.bind ?_ (fun _ => ?_)
    · intro y0 y1 y2 y3 y4 y5 y6 y7 y8 y9 y10
      unfold laws_FnDocShort.j1
      repeat' first
      | (with_reducible exact LeO.refl _)
      | (with_reducible exact LeO.none _)
      | (with_reducible refine LeO.ite ?_ ?_)
      | (with_reducible refine LeO.bind ?_ (fun _ => ?_))
      | exact ih0 _ _ _ _ _ _ _ _ _ _ _
      | exact ih1 _ _ _ _ _ _ _ _ _ _ _
      | exact ih2 _ _ _ _ _ _ _ _ _ _ _ _
      | exact ih3 _ _ _ _ _ _ _ _ _ _ _
      | exact impl_Read.mono _ _ _
      | exact impl_ReadElement.mono _ _
      | exact impl_ReadValue.mono _ _ _
      | exact impl_ValidateValue.mono _ _ _
      | exact laws_docAwake.mono _
      | exact laws_docFine.mono _ _ _ _ _ _ _ _ _
      | exact spec_DocPlain.mono _ _
      | exact spec_DocValue.mono _ _ _ _ _ _ _ _ _
      | exact LeO.none _
      | refine LeO.ite ?_ ?_
      | refine LeO.bind ?_ (fun _ => ?_)
    · intro y0 y1 y2 y3 y4 y5 y6 y7 y8 y9 y10 y11
      unfold laws_FnDocShort.j2
      repeat' first
      | (with_reducible exact LeO.refl _)
      | (with_reducible exact LeO.none _)
      | (with_reducible refine LeO.ite ?_ ?_)
      | (with_reducible refine LeO.bind ?_ (fun _ => ?_))
      | exact ih0 _ _ _ _ _ _ _ _ _ _ _
      | exact ih1 _ _ _ _ _ _ _ _ _ _ _
      | exact ih2 _ _ _ _ _ _ _ _ _ _ _ _
      | exact ih3 _ _ _ _ _ _ _ _ _ _ _
      | exact impl_Read.mono _ _ _
      | exact impl_ReadElement.mono _ _
      | exact impl_ReadValue.mono _ _ _
      | exact impl_ValidateValue.mono _ _ _
      | exact laws_docAwake.mono _
      | exact laws_docFine.mono _ _ _ _ _ _ _ _ _
      | exact spec_DocPlain.mono _ _
      | exact spec_DocValue.mono _ _ _ _ _ _ _ _ _
      | exact LeO.none _
      | refine LeO.ite ?_ ?_
      | refine LeO.bind ?_ (fun _ => ?_)
    · intro y0 y1 y2 y3 y4 y5 y6 y7 y8 y9 y10
      unfold laws_FnDocShort.j3
      repeat' first
      | (with_reducible exact LeO.refl _)
      | (with_reducible exact LeO.none _)
      | (with_reducible refine LeO.ite ?_ ?_)
      | (with_reducible refine LeO.bind ?_ (fun _ => ?_))
      | exact ih0 _ _ _ _ _ _ _ _ _ _ _
      | exact ih1 _ _ _ _ _ _ _ _ _ _ _
      | exact ih2 _ _ _ _ _ _ _ _ _ _ _ _
      | exact ih3 _ _ _ _ _ _ _ _ _ _ _
      | exact impl_Read.mono _ _ _
      | exact impl_ReadElement.mono _ _
      | exact impl_ReadValue.mono _ _ _
      | exact impl_ValidateValue.mono _ _ _
      | exact laws_docAwake.mono _
      | exact laws_docFine.mono _ _ _ _ _ _ _ _ _
      | exact spec_DocPlain.mono _ _
      | exact spec_DocValue.mono _ _ _ _ _ _ _ _ _
      | exact LeO.none _
      | refine LeO.ite ?_ ?_
      | refine LeO.bind ?_ (fun _ => ?_)
theorem laws_FnDocShort.mono : ∀ a0 a1 a2 a3 a4 a5 a6 a7 a8 a9 k, LeO (laws_FnDocShort.f k a0 a1 a2 a3 a4 a5 a6 a7 a8 a9) (laws_FnDocShort.f (k + 1) a0 a1 a2 a3 a4 a5 a6 a7 a8 a9) := by
  intro a0 a1 a2 a3 a4 a5 a6 a7 a8 a9 k
  obtain ⟨ih0, ih1, ih2, ih3⟩ := laws_FnDocShort.mono_l k
  unfold laws_FnDocShort.f
  repeat' first
      | (with_reducible exact LeO.refl _)
      | (with_reducible exact LeO.none _)
      | (with_reducible refine LeO.ite ?_ ?_)
      | (with_reducible refine LeO.bind ?_ (fun _ => ?_))
      | exact ih0 _ _ _ _ _ _ _ _ _ _ _
      | exact ih1 _ _ _ _ _ _ _ _ _ _ _
      | exact ih2 _ _ _ _ _ _ _ _ _ _ _ _
      | exact ih3 _ _ _ _ _ _ _ _ _ _ _
      | exact impl_Read.mono _ _ _
      | exact impl_ReadElement.mono _ _
      | exact impl_ReadValue.mono _ _ _
      | exact impl_ValidateValue.mono _ _ _
      | exact laws_docAwake.mono _
      | exact laws_docFine.mono _ _ _ _ _ _ _ _ _
      | exact spec_DocPlain.mono _ _
      | exact spec_DocValue.mono _ _ _ _ _ _ _ _ _
      | exact LeO.none _
      | refine LeO.ite ?_ ?_
      | refine LeO.bind ?_ (fun _ => ?_)
def laws_FnDocShort.T10 : Bool × List (List Nat × List Nat) := (true, [([], []), ([0], [0]), ([], []), ([], []), ([2, 3], [2, 3]), ([4], [4]), ([1, 5, 5], [1, 5]), ([6], [6]), ([7], [7]), ([7], [7]), ([7], [7]), ([], []), ([11, 8, 6, 0, 1, 2, 3, 4, 5, 6, 7, 8, 11], [8, 11]), ([9, 12, 0, 1, 2, 3, 4, 5, 6, 7, 8, 9, 11, 12], [9]), ([10, 13, 0, 1, 2, 3, 4, 5, 6, 7, 8, 9, 10, 11, 12, 13], [10])])
def laws_FnDocShort.B10 : List Nat := [0, 1, 0, 0, 12, 28, 63, 127, 255, 255, 255, 0, 2559, 7167, 16383]
theorem laws_FnDocShort.tab10 : rtab .any (opsOf Tryz.f6 10) = laws_FnDocShort.T10 := by kernel_rfl
theorem laws_FnDocShort.bits10 : waitsOk laws_FnDocShort.T10.2 laws_FnDocShort.B10 = true := by kernel_rfl
def laws_FnDocShort.T11 : Bool × List (List Nat × List Nat) := (true, [([], []), ([0], [0]), ([], []), ([], []), ([2, 3], [2, 3]), ([4], [4]), ([1, 5, 5], [1, 5]), ([6], [6]), ([7], [7]), ([7], [7]), ([7], [7]), ([], []), ([11, 8, 6, 0, 1, 2, 3, 4, 5, 6, 7, 8, 11], [8, 11]), ([9, 12, 0, 1, 2, 3, 4, 5, 6, 7, 8, 9, 11, 12], [9]), ([10, 13, 0, 1, 2, 3, 4, 5, 6, 7, 8, 9, 10, 11, 12, 13], [10])])
def laws_FnDocShort.B11 : List Nat := [0, 1, 0, 0, 12, 28, 63, 127, 255, 255, 255, 0, 2559, 7167, 16383]
theorem laws_FnDocShort.tab11 : rtab .any (opsOf Tryz.f6 11) = laws_FnDocShort.T11 := by kernel_rfl
theorem laws_FnDocShort.bits11 : waitsOk laws_FnDocShort.T11.2 laws_FnDocShort.B11 = true := by kernel_rfl
def laws_FnDocShort.T12 : Bool × List (List Nat × List Nat) := (true, [([], []), ([0], [0]), ([], []), ([1, 2], [1, 2]), ([], []), ([], []), ([4, 5], [4, 5]), ([3, 6, 3], [3, 6]), ([7, 7], [7]), ([8], [8]), ([9], [9]), ([9], [9]), ([9], [9]), ([10, 8, 0, 1, 2, 3, 4, 5, 6, 7, 8, 9, 10], [10]), ([11, 13, 0, 1, 2, 3, 4, 5, 6, 7, 8, 9, 10, 11, 13], [11]), ([12, 14, 0, 1, 2, 3, 4, 5, 6, 7, 8, 9, 10, 11, 12, 13, 14], [12])])
def laws_FnDocShort.B12 : List Nat := [0, 1, 0, 7, 0, 0, 48, 127, 255, 511, 1023, 1023, 1023, 2047, 12287, 32767]
theorem laws_FnDocShort.tab12 : rtab .any (opsOf Tryz.f6 12) = laws_FnDocShort.T12 := by kernel_rfl
theorem laws_FnDocShort.bits12 : waitsOk laws_FnDocShort.T12.2 laws_FnDocShort.B12 = true := by kernel_rfl
def laws_FnDocShort.T13 : Bool × List (List Nat × List Nat) := (true, [([], []), ([0, 0], [0]), ([1], [1]), ([2, 1], [1, 2]), ([1, 3], [1, 3]), ([4, 1], [4]), ([5], [5]), ([6, 5], [5, 6]), ([5, 7], [5, 7]), ([8, 5], [8]), ([9], [9]), ([10, 9], [9, 10]), ([9, 11], [9, 11]), ([12, 9], [12]), ([13], [13]), ([14, 13], [13, 14]), ([13], [13]), ([13], [13]), ([16, 17, 13], [13, 16, 17]), ([18, 13, 13], [13, 18]), ([15, 19, 13], [13, 15, 19]), ([20, 19, 13], [13, 20]), ([21, 13], [13, 21]), ([13, 22], [13, 22]), ([23, 21, 0, 1, 2, 3, 4, 5, 6, 7, 8, 9, 10, 11, 12, 13, 14, 15, 16, 17, 18, 19, 20, 21, 22, 23], [23])])
def laws_FnDocShort.B13 : List Nat := [0, 1, 3, 7, 15, 31, 63, 127, 255, 511, 1023, 2047, 4095, 8191, 16383, 32767, 16383, 16383, 212991, 475135, 1048575, 2097151, 4194303, 8388607, 16777215]
theorem laws_FnDocShort.tab13 : rtab .any (opsOf Tryz.f6 13) = laws_FnDocShort.T13 := by kernel_rfl
theorem laws_FnDocShort.bits13 : waitsOk laws_FnDocShort.T13.2 laws_FnDocShort.B13 = true := by kernel_rfl
theorem laws_FnDocShort.calls (k : Nat) (a0 : ByteArray) (a1_0 : Int) (a1_1 : ByteArray) (a1_2 : ByteArray) (a1_3 : Int) (a1_4 : Int) (a1_5 : Int) (A1_6 : Option Addr) (c1_6 : Nat) (l1_6 : List Int) (A1_7 : Option Addr) (c1_7 : Nat) (l1_7 : List (S95)) (a2 : Int) (r : Bool) (w : World) (hr1_6 : Kd.C (Kd.int .u8) w A1_6 l1_6.length l1_6) (hc1_6 : l1_6.length ≤ c1_6) (hr1_7 : Kd.C k95 w A1_7 l1_7.length l1_7) (hc1_7 : l1_7.length ≤ c1_7) (h : laws_FnDocShort.f k a0 a1_0 a1_1 a1_2 a1_3 a1_4 a1_5 l1_6 l1_7 a2 = some r) :
    Calls Tryz.prog 6 #[.string a0, .agg #[.int .i64 a1_0, .string a1_1, .string a1_2, .int .i64 a1_3, .int .u64 a1_4, .int .u64 a1_5, .slice A1_6 l1_6.length c1_6, .slice A1_7 l1_7.length c1_7], .int .i64 a2] w fun e w' => e = .returned (.bool r) ∧ Below w.heap.size w w' := by
  have hu44 := Tryz.underlying44; have hu38 := Tryz.underlying38; have HR1_6 := Aside0.mk hr1_6; have HC1_6 := Aside0.mk hc1_6; clear hr1_6 hc1_6; have HR1_7 := Aside0.mk hr1_7; have HC1_7 := Aside0.mk hc1_7; clear hr1_7 hc1_7; have HB := Aside0.mk (Below.refl w.heap.size w); have H : (if (a0.size : Int) > 2147483647 then (laws_FnDocShort.j0 k a0 a2 true a1_0 a1_1 a1_2 a1_3 a1_4 a1_5 l1_6 l1_7) else ((laws_zzFits1.f a1_0 a1_1 a1_2 a1_3 a1_4 a1_5 l1_6 l1_7).bind fun t842 => (laws_FnDocShort.j0 k a0 a2 (!t842) a1_0 a1_1 a1_2 a1_3 a1_4 a1_5 l1_6 l1_7))) = some r := h; clear h; have HC4 := Aside0.mk H; clear H
  go_enter Tryz.func6, Tryz.ntmps6
  go_upto_region 1 with (first | ((with_reducible refine gate_dst (N := 4) rfl ?_); (try (refine gate_guard (by rfl) ?_; dsimp only)); refine box_event ?hg (N := 4) ?hd (cs := #[.int .i64 a1_0, .string a1_1, .string a1_2, .int .i64 a1_3, .int .u64 a1_4, .int .u64 a1_5, .slice A1_6 l1_6.length c1_6, .slice A1_7 l1_7.length c1_7]) (t := 44) ?hr ?_; (case hd => rfl); (case hg => rfl); (case hr => first | (go_simp; done) | (go_simp; rfl)); intro gb841 hg w5 hbox hb; have n0_ := Aside0.mk (below_step HW.zb hb); have n1_ := Aside0.mk (hbox); have n3_ := Aside0.mk ((by rw [hg]; exact (below_size HW.zb) : w.heap.size ≤ gb841)); clear HB; have HB := n0_; have BK841 := n1_; have GE841 := n3_; clear n0_ n1_ n3_; clear hb hbox hg))
  (try simp only [Act.put, List.setIfInBounds_toArray, List.set_cons_zero, List.set_cons_succ])
  go_cut [24] (fun v24 wc => ∃ (kq : Nat) (x24_3 : Bool), v24 = .bool x24_3 ∧ Aside0 (laws_FnDocShort.j0 kq a0 a2 x24_3 a1_0 a1_1 a1_2 a1_3 a1_4 a1_5 l1_6 l1_7 = some r) ∧ Aside0 (kq ≤ k) ∧ Aside0 (wc.heap[gb841]? = some (.cells #[.int .i64 a1_0, .string a1_1, .string a1_2, .int .i64 a1_3, .int .u64 a1_4, .int .u64 a1_5, (.slice A1_6 l1_6.length c1_6), (.slice A1_7 l1_7.length c1_7)] 44 (0, 0))) ∧ Aside0 (Below w.heap.size w wc))
  case first =>
    have H := HC4.out; clear HC4
    by_cases c6 : (a0.size : Int) > 2147483647
    · rw [if_pos c6] at H
      have c6b0 : decide (2147483647 < (a0.size : Int)) = true := decide_eq_true c6
      have c6b1 : decide (2147483647 < a0.size) = true := decide_eq_true (by omega)
      clear c6
      (first | rw [c6b0] | (simp only [i64_w, i32_w]; rw [c6b0]) | skip)
      focus
        have H' := Aside0.mk H; clear H
        go_wp2
        go_meet
        case rel => exact ⟨_, (true), HW.rs, H', ⟨by first | omega | exact Nat.le_refl _⟩, ⟨by (with_reducible repeat (first | refine blk_drewN ?_ _ | refine blk_drew ?_ | refine blk_alloc ?_ _)); exact BK841.out⟩, ⟨HW.zb⟩⟩
    rw [if_neg c6] at H; have c6b0 : decide (2147483647 < (a0.size : Int)) = false := decide_eq_false c6
    have c6b1 : decide (2147483647 < a0.size) = false := decide_eq_false (by omega)
    clear c6
    (first | rw [c6b0] | (simp only [i64_w, i32_w]; rw [c6b0]) | skip)
    replace H := Option.bind_eq_some_iff.mp H; obtain ⟨t842, A70, H⟩ := H; replace H : (laws_FnDocShort.j0 k a0 a2 (!t842) a1_0 a1_1 a1_2 a1_3 a1_4 a1_5 l1_6 l1_7) = some r := H; have A7 := Aside0.mk A70; clear A70
    focus
      have H' := Aside0.mk H; clear H; obtain ⟨hcz8_0, hcz8_1, hcz8_2, hcz8_3, hcz8_4, hcz8_5, hcz8_6, hcz8_7⟩ := HW.k8 BK841.out
      go_wp2_with (first | (go_at_call 30; (with_reducible refine (laws_zzFits1.calls a1_0 a1_1 a1_2 a1_3 a1_4 a1_5 _ _ l1_6 _ _ l1_7 t842 _ ?side1 ?side2 ?side3 ?side4 A7.out).mono ?_); (case side1 => repeat (first | exact (Kd.C_below HR1_6.out HB.out) | (with_reducible refine Kd.C_alloc ?_ _) | (with_reducible refine Kd.C_drewN ?_ _) | (with_reducible refine Kd.C_drew ?_))); (case side2 => exact HC1_6.out); (case side3 => repeat (first | exact (Kd.C_below HR1_7.out HB.out) | (with_reducible refine Kd.C_alloc ?_ _) | (with_reducible refine Kd.C_drewN ?_ _) | (with_reducible refine Kd.C_drew ?_))); (case side4 => exact HC1_7.out); rintro e w9 ⟨rfl, hb⟩; replace BK841 := Aside0.mk (blk_below (HW.zB BK841.out) hb); replace HB := Aside0.mk (below_step HW.zb hb); (try clear hb)))
      go_meet
      case rel => exact ⟨_, (!t842), HW.rs, H', ⟨by first | omega | exact Nat.le_refl _⟩, ⟨by (with_reducible repeat (first | refine blk_drewN ?_ _ | refine blk_drew ?_ | refine blk_alloc ?_ _)); exact BK841.out⟩, ⟨HW.zb⟩⟩
  case rest =>
    clear HC4
    (try clear c1); (try clear p2); (try clear c6); (try clear c6b0); (try clear c6b1); (try clear hcz8_0 hcz8_1 hcz8_2 hcz8_3 hcz8_4 hcz8_5 hcz8_6 hcz8_7)
    obtain ⟨kq, x24_3, rfl, HA, HJ3, BK841, HB⟩ := hcut
    cases kq with
    | zero => exact absurd HA.out (by simp [laws_FnDocShort.j0])
    | succ kj3 =>
      have H := HA.out; clear HA
      simp only [laws_FnDocShort.j0] at H
      by_cases c10 : x24_3 = true
      · subst c10
        have H1 : (some true) = some r := by rw [if_pos rfl] at H; exact H
        clear H; have H := H1; clear H1
        focus
          obtain rfl := Option.some.inj H
          go_wp2
          go_ret
          exact ⟨rfl, HW.zb⟩
      replace c10 := Bool.eq_false_iff.mpr c10; subst c10
      have H1 : (if (a0.size : Int) > 200 then (laws_FnDocShort.j1 kj3 a0 a2 true a1_0 a1_1 a1_2 a1_3 a1_4 a1_5 l1_6 l1_7) else ((spec_DocPlain.f kj3 a0).bind fun t843 => (if t843 = true then ((laws_docFine.f kj3 a1_0 a1_1 a1_2 a1_3 a1_4 a1_5 l1_6 l1_7).bind fun t844 => (laws_FnDocShort.j1 kj3 a0 a2 (!t844) a1_0 a1_1 a1_2 a1_3 a1_4 a1_5 l1_6 l1_7)) else (laws_FnDocShort.j1 kj3 a0 a2 true a1_0 a1_1 a1_2 a1_3 a1_4 a1_5 l1_6 l1_7)))) = some r := by rw [if_neg (show ¬ (false = true) by decide)] at H; exact H
      clear H; have H := H1; clear H1; have HC11 := Aside0.mk H; clear H
      go_upto_region 3 with (fail)
      go_cut [37] (fun v37 wc => ∃ (kq : Nat) (x37_10 : Bool), v37 = .bool x37_10 ∧ Aside0 (laws_FnDocShort.j1 kq a0 a2 x37_10 a1_0 a1_1 a1_2 a1_3 a1_4 a1_5 l1_6 l1_7 = some r) ∧ Aside0 (kq ≤ kj3) ∧ Aside0 (wc.heap[gb841]? = some (.cells #[.int .i64 a1_0, .string a1_1, .string a1_2, .int .i64 a1_3, .int .u64 a1_4, .int .u64 a1_5, (.slice A1_6 l1_6.length c1_6), (.slice A1_7 l1_7.length c1_7)] 44 (0, 0))) ∧ Aside0 (Below w.heap.size w wc))
      case first =>
        have H := HC11.out; clear HC11
        by_cases c12 : (a0.size : Int) > 200
        · rw [if_pos c12] at H
          have c12b0 : decide (200 < (a0.size : Int)) = true := decide_eq_true c12
          have c12b1 : decide (200 < a0.size) = true := decide_eq_true (by omega)
          clear c12
          (first | rw [c12b0] | (simp only [i64_w, i32_w]; rw [c12b0]) | skip)
          focus
            have H' := Aside0.mk H; clear H
            go_wp2
            go_meet
            case rel => exact ⟨_, (true), HW.rs, H', ⟨by have := HJ3.out; first | omega | exact Nat.le_refl _⟩, ⟨by (with_reducible repeat (first | refine blk_drewN ?_ _ | refine blk_drew ?_ | refine blk_alloc ?_ _)); exact BK841.out⟩, ⟨HW.zb⟩⟩
        rw [if_neg c12] at H; have c12b0 : decide (200 < (a0.size : Int)) = false := decide_eq_false c12
        have c12b1 : decide (200 < a0.size) = false := decide_eq_false (by omega)
        clear c12
        (first | rw [c12b0] | (simp only [i64_w, i32_w]; rw [c12b0]) | skip)
        replace H := Option.bind_eq_some_iff.mp H; obtain ⟨t843, A130, H⟩ := H; replace H : (if t843 = true then ((laws_docFine.f kj3 a1_0 a1_1 a1_2 a1_3 a1_4 a1_5 l1_6 l1_7).bind fun t844 => (laws_FnDocShort.j1 kj3 a0 a2 (!t844) a1_0 a1_1 a1_2 a1_3 a1_4 a1_5 l1_6 l1_7)) else (laws_FnDocShort.j1 kj3 a0 a2 true a1_0 a1_1 a1_2 a1_3 a1_4 a1_5 l1_6 l1_7)) = some r := H; have A13 := Aside0.mk A130; clear A130
        by_cases c14 : t843 = true
        rotate_left
        · replace c14 := Bool.eq_false_iff.mpr c14
          subst c14
          have H1 : (laws_FnDocShort.j1 kj3 a0 a2 true a1_0 a1_1 a1_2 a1_3 a1_4 a1_5 l1_6 l1_7) = some r := by rw [if_neg (show ¬ (false = true) by decide)] at H; exact H
          clear H; have H := H1; clear H1
          focus
            have H' := Aside0.mk H; clear H
            go_wp2_with (first | (go_at_call 31; (with_reducible refine (spec_DocPlain.calls kj3 a0 false _ A13.out).mono ?_); rintro e w' ⟨rfl, ⟨nd, rfl⟩⟩))
            go_meet
            case rel => exact ⟨_, (true), HW.rs, H', ⟨by have := HJ3.out; first | omega | exact Nat.le_refl _⟩, ⟨by (with_reducible repeat (first | refine blk_drewN ?_ _ | refine blk_drew ?_ | refine blk_alloc ?_ _)); exact BK841.out⟩, ⟨HW.zb⟩⟩
        subst c14
        have H1 : ((laws_docFine.f kj3 a1_0 a1_1 a1_2 a1_3 a1_4 a1_5 l1_6 l1_7).bind fun t844 => (laws_FnDocShort.j1 kj3 a0 a2 (!t844) a1_0 a1_1 a1_2 a1_3 a1_4 a1_5 l1_6 l1_7)) = some r := by rw [if_pos rfl] at H; exact H
        clear H; have H := H1; clear H1; replace H := Option.bind_eq_some_iff.mp H; obtain ⟨t844, A150, H⟩ := H; replace H : (laws_FnDocShort.j1 kj3 a0 a2 (!t844) a1_0 a1_1 a1_2 a1_3 a1_4 a1_5 l1_6 l1_7) = some r := H; have A15 := Aside0.mk A150; clear A150
        focus
          have H' := Aside0.mk H; clear H
          go_wp2_with (first | (go_at_call 31; (with_reducible refine (spec_DocPlain.calls kj3 a0 true _ A13.out).mono ?_); rintro e w' ⟨rfl, ⟨nd, rfl⟩⟩; obtain ⟨hcz16_0, hcz16_1, hcz16_2, hcz16_3, hcz16_4, hcz16_5, hcz16_6, hcz16_7⟩ := HW.k8 BK841.out) | (go_at_call 32; (with_reducible refine (laws_docFine.calls kj3 a1_0 a1_1 a1_2 a1_3 a1_4 a1_5 _ _ l1_6 _ _ l1_7 t844 _ ?side1 ?side2 ?side3 ?side4 A15.out).mono ?_); (case side1 => repeat (first | exact (Kd.C_below HR1_6.out HW.zb) | (with_reducible refine Kd.C_alloc ?_ _) | (with_reducible refine Kd.C_drewN ?_ _) | (with_reducible refine Kd.C_drew ?_))); (case side2 => exact HC1_6.out); (case side3 => repeat (first | exact (Kd.C_below HR1_7.out HW.zb) | (with_reducible refine Kd.C_alloc ?_ _) | (with_reducible refine Kd.C_drewN ?_ _) | (with_reducible refine Kd.C_drew ?_))); (case side4 => exact HC1_7.out); rintro e w17 ⟨rfl, hb⟩; replace BK841 := Aside0.mk (blk_below (HW.zB BK841.out) hb); replace HB := Aside0.mk (below_step HW.zb hb); (try clear hb)))
          go_meet
          case rel => exact ⟨_, (!t844), HW.rs, H', ⟨by have := HJ3.out; first | omega | exact Nat.le_refl _⟩, ⟨by (with_reducible repeat (first | refine blk_drewN ?_ _ | refine blk_drew ?_ | refine blk_alloc ?_ _)); exact BK841.out⟩, ⟨HW.zb⟩⟩
      case rest =>
        clear HC11
        (try clear c1); (try clear p2); (try clear c6); (try clear c6b0); (try clear c6b1); (try clear c10); (try clear c12); (try clear c12b0); (try clear c12b1); (try clear c14); (try clear hcz16_0 hcz16_1 hcz16_2 hcz16_3 hcz16_4 hcz16_5 hcz16_6 hcz16_7); (try clear hcz8_0 hcz8_1 hcz8_2 hcz8_3 hcz8_4 hcz8_5 hcz8_6 hcz8_7); (try clear p2)
        obtain ⟨kq, x37_10, rfl, HA, HJ10, BK841, HB⟩ := hcut
        cases kq with
        | zero => exact absurd HA.out (by simp [laws_FnDocShort.j1])
        | succ kj10 =>
          have H := HA.out; clear HA
          simp only [laws_FnDocShort.j1] at H
          by_cases c18 : x37_10 = true
          · subst c18
            have H1 : (some true) = some r := by rw [if_pos rfl] at H; exact H
            clear H; have H := H1; clear H1
            focus
              obtain rfl := Option.some.inj H
              go_wp2
              go_ret
              exact ⟨rfl, HW.zb⟩
          replace c18 := Bool.eq_false_iff.mpr c18; subst c18
          have H1 : ((spec_DocValue.f kj10 a1_0 a1_1 a1_2 a1_3 a1_4 a1_5 l1_6 l1_7).bind fun t845 => (if (t845.length : Int) = 0 then (some true) else (if a2 < 0 then (laws_FnDocShort.j2 kj10 a0 a2 t845 true a1_0 a1_1 a1_2 a1_3 a1_4 a1_5 l1_6 l1_7) else (laws_FnDocShort.j2 kj10 a0 a2 t845 (decide (a2 ≥ (t845.length : Int))) a1_0 a1_1 a1_2 a1_3 a1_4 a1_5 l1_6 l1_7)))) = some r := by rw [if_neg (show ¬ (false = true) by decide)] at H; exact H
          clear H; have H := H1; clear H1; replace H := Option.bind_eq_some_iff.mp H; obtain ⟨t845, A190, H⟩ := H; replace H : (if (t845.length : Int) = 0 then (some true) else (if a2 < 0 then (laws_FnDocShort.j2 kj10 a0 a2 t845 true a1_0 a1_1 a1_2 a1_3 a1_4 a1_5 l1_6 l1_7) else (laws_FnDocShort.j2 kj10 a0 a2 t845 (decide (a2 ≥ (t845.length : Int))) a1_0 a1_1 a1_2 a1_3 a1_4 a1_5 l1_6 l1_7))) = some r := H; have A19 := Aside0.mk A190; clear A190
          by_cases c20 : (t845.length : Int) = 0
          · rw [if_pos c20] at H
            have c20b0 : ((t845.length : Int) == 0) = true := beq_iff_eq.mpr c20; have c20b1 : ((t845.length : Int) != 0) = false := bne_eq_false_iff_eq.mpr c20; clear c20
            focus
              obtain rfl := Option.some.inj H; obtain ⟨hcz21_0, hcz21_1, hcz21_2, hcz21_3, hcz21_4, hcz21_5, hcz21_6, hcz21_7⟩ := HW.k8 BK841.out
              go_wp2_with (first | ((with_reducible refine gate_callee (f := 33) rfl ?_); refine HW.gz (some 39) rfl rfl Tryz.func33 (by kernel_rfl) rfl #[.agg #[.int .i64 a1_0, .string a1_1, .string a1_2, .int .i64 a1_3, .int .u64 a1_4, .int .u64 a1_5, .slice A1_6 l1_6.length c1_6, .slice A1_7 l1_7.length c1_7]] rfl ?_; (with_reducible refine (spec_DocValue.calls kj10 a1_0 a1_1 a1_2 a1_3 a1_4 a1_5 _ _ l1_6 _ _ l1_7 t845 _ ?side1 ?side2 ?side3 ?side4 A19.out).mono ?_); (case side1 => repeat (first | exact (Kd.C_below HR1_6.out HB.out) | (with_reducible refine Kd.C_alloc ?_ _) | (with_reducible refine Kd.C_drewN ?_ _) | (with_reducible refine Kd.C_drew ?_))); (case side2 => exact HC1_6.out); (case side3 => repeat (first | exact (Kd.C_below HR1_7.out HB.out) | (with_reducible refine Kd.C_alloc ?_ _) | (with_reducible refine Kd.C_drewN ?_ _) | (with_reducible refine Kd.C_drew ?_))); (case side4 => exact HC1_7.out); rintro e w22 ⟨v846, rfl, ho0, hb⟩; refine ⟨_, rfl, ?_⟩; have n0_ := Aside0.mk (Kd.R_lower ho0 (below_size HW.zb)); have n1_ := Aside0.mk (below_step HW.zb hb); clear HB; (try clear BK841); have HO847 := n0_; have HB := n1_; clear n0_ n1_; (try clear hb); (try clear ho0); obtain ⟨Ao23, co23, eo23⟩ := Kd.R_slice HO847.out; subst eo23))
              go_ret
              exact ⟨rfl, HW.zb⟩
          rw [if_neg c20] at H; have c20b0 : ((t845.length : Int) == 0) = false := beq_eq_false_iff_ne.mpr c20; have c20b1 : ((t845.length : Int) != 0) = true := bne_iff_ne.mpr c20
          have c20b2 : ¬ (t845 = []) := fun h_ => c20 (by rw [h_]; rfl)
          have HC24 := Aside0.mk H; clear H; obtain ⟨hcz25_0, hcz25_1, hcz25_2, hcz25_3, hcz25_4, hcz25_5, hcz25_6, hcz25_7⟩ := HW.k8 BK841.out
          go_upto_region 8 with (first | ((with_reducible refine gate_callee (f := 33) rfl ?_); refine HW.gz (some 39) rfl rfl Tryz.func33 (by kernel_rfl) rfl #[.agg #[.int .i64 a1_0, .string a1_1, .string a1_2, .int .i64 a1_3, .int .u64 a1_4, .int .u64 a1_5, .slice A1_6 l1_6.length c1_6, .slice A1_7 l1_7.length c1_7]] rfl ?_; (with_reducible refine (spec_DocValue.calls kj10 a1_0 a1_1 a1_2 a1_3 a1_4 a1_5 _ _ l1_6 _ _ l1_7 t845 _ ?side1 ?side2 ?side3 ?side4 A19.out).mono ?_); (case side1 => repeat (first | exact (Kd.C_below HR1_6.out HB.out) | (with_reducible refine Kd.C_alloc ?_ _) | (with_reducible refine Kd.C_drewN ?_ _) | (with_reducible refine Kd.C_drew ?_))); (case side2 => exact HC1_6.out); (case side3 => repeat (first | exact (Kd.C_below HR1_7.out HB.out) | (with_reducible refine Kd.C_alloc ?_ _) | (with_reducible refine Kd.C_drewN ?_ _) | (with_reducible refine Kd.C_drew ?_))); (case side4 => exact HC1_7.out); rintro e w26 ⟨v846, rfl, ho0, hb⟩; refine ⟨_, rfl, ?_⟩; have HO847 := Aside0.mk (Kd.R_lower ho0 (below_size HW.zb)); replace BK841 := Aside0.mk (blk_below (HW.zB BK841.out) hb); replace HB := Aside0.mk (below_step HW.zb hb); (try clear hb); (try clear ho0); obtain ⟨Ao27, co27, eo27⟩ := Kd.R_slice HO847.out; subst eo27))
          (try simp only [Act.put, List.setIfInBounds_toArray, List.set_cons_zero, List.set_cons_succ])
          go_cut [50] (fun v50 wc => ∃ (kq : Nat) (x50_23 : Bool), v50 = .bool x50_23 ∧ Aside0 (laws_FnDocShort.j2 kq a0 a2 t845 x50_23 a1_0 a1_1 a1_2 a1_3 a1_4 a1_5 l1_6 l1_7 = some r) ∧ Aside0 (kq ≤ kj10) ∧ Aside0 (Kd.R (Kd.int .u8) 5 wc w.heap.size (fun _ => True) (.slice Ao27 t845.length co27) t845) ∧ Aside0 (wc.heap[gb841]? = some (.cells #[.int .i64 a1_0, .string a1_1, .string a1_2, .int .i64 a1_3, .int .u64 a1_4, .int .u64 a1_5, (.slice A1_6 l1_6.length c1_6), (.slice A1_7 l1_7.length c1_7)] 44 (0, 0))) ∧ Aside0 (Below w.heap.size w wc))
          case first =>
            have H := HC24.out; clear HC24
            by_cases c28 : a2 < 0
            · rw [if_pos c28] at H
              have c28b0 : decide (a2 < 0) = true := decide_eq_true c28; clear c28
              (first | rw [c28b0] | (simp only [i64_w, i32_w]; rw [c28b0]) | skip)
              focus
                have H' := Aside0.mk H; clear H
                go_wp2
                go_meet
                case rel => exact ⟨_, (true), HW.rs, H', ⟨by have := HJ3.out; have := HJ10.out; first | omega | exact Nat.le_refl _⟩, ⟨HW.zR HO847.out⟩, ⟨by (with_reducible repeat (first | refine blk_drewN ?_ _ | refine blk_drew ?_ | refine blk_alloc ?_ _)); exact BK841.out⟩, ⟨HW.zb⟩⟩
            rw [if_neg c28] at H; have c28b0 : decide (a2 < 0) = false := decide_eq_false c28; clear c28
            (first | rw [c28b0] | (simp only [i64_w, i32_w]; rw [c28b0]) | skip)
            focus
              have H' := Aside0.mk H; clear H
              go_wp2
              go_meet
              case rel => exact ⟨_, (decide (a2 ≥ (t845.length : Int))), HW.rs, H', ⟨by have := HJ3.out; have := HJ10.out; first | omega | exact Nat.le_refl _⟩, ⟨HW.zR HO847.out⟩, ⟨by (with_reducible repeat (first | refine blk_drewN ?_ _ | refine blk_drew ?_ | refine blk_alloc ?_ _)); exact BK841.out⟩, ⟨HW.zb⟩⟩
          case rest =>
            clear HC24
            (try clear c1); (try clear c2); (try clear p2); (try clear c3); (try clear c6); (try clear c6b0); (try clear c6b1); (try clear c10); (try clear c12); (try clear c12b0); (try clear c12b1); (try clear c14); (try clear c18); (try clear c20); (try clear c20b0); (try clear c20b1); (try clear c20b2); (try clear c28); (try clear c28b0); (try clear hcz16_0 hcz16_1 hcz16_2 hcz16_3 hcz16_4 hcz16_5 hcz16_6 hcz16_7); (try clear hcz21_0 hcz21_1 hcz21_2 hcz21_3 hcz21_4 hcz21_5 hcz21_6 hcz21_7); (try clear hcz25_0 hcz25_1 hcz25_2 hcz25_3 hcz25_4 hcz25_5 hcz25_6 hcz25_7); (try clear hcz8_0 hcz8_1 hcz8_2 hcz8_3 hcz8_4 hcz8_5 hcz8_6 hcz8_7); (try clear p2)
            obtain ⟨kq, x50_23, rfl, HA, HJ23, HO_7, BK841, HB⟩ := hcut
            cases kq with
            | zero => exact absurd HA.out (by simp [laws_FnDocShort.j2])
            | succ kj23 =>
              have H := HA.out; clear HA
              simp only [laws_FnDocShort.j2] at H
              have HC29 := Aside0.mk H; clear H
              go_upto_if 50 with (fail)
              go_cut [2] (fun v2 wc => ∃ (kq : Nat) (x2_28 : Int), v2 = .int .i64 x2_28 ∧ Aside0 (laws_FnDocShort.j3 kq a0 x2_28 t845 a1_0 a1_1 a1_2 a1_3 a1_4 a1_5 l1_6 l1_7 = some r) ∧ Aside0 (kq ≤ kj23) ∧ Aside0 (Kd.R (Kd.int .u8) 5 wc w.heap.size (fun _ => True) (.slice Ao27 t845.length co27) t845) ∧ Aside0 (wc.heap[gb841]? = some (.cells #[.int .i64 a1_0, .string a1_1, .string a1_2, .int .i64 a1_3, .int .u64 a1_4, .int .u64 a1_5, (.slice A1_6 l1_6.length c1_6), (.slice A1_7 l1_7.length c1_7)] 44 (0, 0))) ∧ Aside0 (Below w.heap.size w wc))
              case first =>
                have H := HC29.out; clear HC29
                by_cases c30 : x50_23 = true
                · subst c30
                  have H1 : (laws_FnDocShort.j3 kj23 a0 (wrap64 ((t845.length : Int) - 1)) t845 a1_0 a1_1 a1_2 a1_3 a1_4 a1_5 l1_6 l1_7) = some r := by rw [if_pos rfl] at H; exact H
                  clear H; have H := H1; clear H1
                  focus
                    have H' := Aside0.mk H; clear H
                    go_wp2
                    go_meet
                    case rel => exact ⟨_, (wrap64 ((t845.length : Int) - 1)), HW.rs, H', ⟨by have := HJ3.out; have := HJ10.out; have := HJ23.out; first | omega | exact Nat.le_refl _⟩, ⟨HW.zR HO_7.out⟩, ⟨by (with_reducible repeat (first | refine blk_drewN ?_ _ | refine blk_drew ?_ | refine blk_alloc ?_ _)); exact BK841.out⟩, ⟨HW.zb⟩⟩
                replace c30 := Bool.eq_false_iff.mpr c30; subst c30
                have H1 : (laws_FnDocShort.j3 kj23 a0 a2 t845 a1_0 a1_1 a1_2 a1_3 a1_4 a1_5 l1_6 l1_7) = some r := by rw [if_neg (show ¬ (false = true) by decide)] at H; exact H
                clear H; have H := H1; clear H1
                focus
                  have H' := Aside0.mk H; clear H
                  go_wp2
                  go_meet
                  case rel => exact ⟨_, (a2), HW.rs, H', ⟨by have := HJ3.out; have := HJ10.out; have := HJ23.out; first | omega | exact Nat.le_refl _⟩, ⟨HW.zR HO_7.out⟩, ⟨by (with_reducible repeat (first | refine blk_drewN ?_ _ | refine blk_drew ?_ | refine blk_alloc ?_ _)); exact BK841.out⟩, ⟨HW.zb⟩⟩
              case rest =>
                clear HC29
                (try clear c1); (try clear c2); (try clear p2); (try clear c3); (try clear c6); (try clear c6b0); (try clear c6b1); (try clear p6); (try clear c10); (try clear c12); (try clear c12b0); (try clear c12b1); (try clear c14); (try clear c18); (try clear c20); (try clear c20b0); (try clear c20b1); (try clear c20b2); (try clear c28); (try clear c28b0); (try clear c30); (try clear hcz16_0 hcz16_1 hcz16_2 hcz16_3 hcz16_4 hcz16_5 hcz16_6 hcz16_7); (try clear hcz21_0 hcz21_1 hcz21_2 hcz21_3 hcz21_4 hcz21_5 hcz21_6 hcz21_7); (try clear hcz25_0 hcz25_1 hcz25_2 hcz25_3 hcz25_4 hcz25_5 hcz25_6 hcz25_7); (try clear hcz8_0 hcz8_1 hcz8_2 hcz8_3 hcz8_4 hcz8_5 hcz8_6 hcz8_7); (try clear p2)
                obtain ⟨kq, x2_28, rfl, HA, HJ28, HO_7, BK841, HB⟩ := hcut
                cases kq with
                | zero => exact absurd HA.out (by simp [laws_FnDocShort.j3])
                | succ kj28 =>
                  have H := HA.out; clear HA
                  simp only [laws_FnDocShort.j3] at H
                  by_cases c31 : 0 ≤ x2_28
                  rotate_left
                  · rw [if_neg c31] at H
                    exact absurd H (by simp)
                  rw [if_pos c31] at H; have c31b0 := eq_true c31; have c31b1 : decide (0 ≤ x2_28) = true := decide_eq_true c31; clear c31
                  by_cases c32 : x2_28 ≤ (t845.length : Int)
                  rotate_left
                  · rw [if_neg c32] at H
                    exact absurd H (by simp)
                  rw [if_pos c32] at H; have c32b0 := eq_true c32; have c32b1 : decide (x2_28 ≤ (t845.length : Int)) = true := decide_eq_true c32; clear c32; obtain ⟨y848, hy848⟩ : ∃ y_ : List Int, y_ = (t845.take (x2_28 : Int).toNat) := ⟨_, rfl⟩
                  replace H : ((laws_docCopy.f y848).bind fun t852 => ((impl_Read.f kj28 a1_0 t852).bind fun bt855 => ((laws_docCopy.f (t845.take (x2_28 : Int).toNat)).bind fun t876 => ((impl_ReadValue.f kj28 a1_0 t876).bind fun bt879 => ((spec_DocHead.f a1_0 a0).bind fun t888 => ((some (t845.take (x2_28 : Int).toNat : List Int)).bind fun y891 => (if t888.length + y891.length < 140737488355328 then ((impl_ReadElement.f kj28 (t888 ++ y891)).bind fun bt898 => ((laws_docAwake.f kj28).bind fun t905 => (if t905 = true then (if bt855.2.2.2.2.2.2.2.2.2 = true then (none) else (if bt879.2.2.2 = true then (none) else (if bt898.2.2 = true then (none) else ((laws_docCopy.f (t845.take (x2_28 : Int).toNat)).bind fun t910 => ((impl_ValidateValue.f kj28 a1_0 t910).bind fun t913 => (some (t913 != 0))))))) else (none)))) else (none)))))))) = some r := by (try rw [hy848]); exact HW.rp
                  have Ny848 := Aside0.mk hy848; clear hy848; replace H := Option.bind_eq_some_iff.mp H; obtain ⟨t852, A330, H⟩ := H
                  replace H : ((impl_Read.f kj28 a1_0 t852).bind fun bt855 => ((laws_docCopy.f (t845.take (x2_28 : Int).toNat)).bind fun t876 => ((impl_ReadValue.f kj28 a1_0 t876).bind fun bt879 => ((spec_DocHead.f a1_0 a0).bind fun t888 => ((some (t845.take (x2_28 : Int).toNat : List Int)).bind fun y891 => (if t888.length + y891.length < 140737488355328 then ((impl_ReadElement.f kj28 (t888 ++ y891)).bind fun bt898 => ((laws_docAwake.f kj28).bind fun t905 => (if t905 = true then (if bt855.2.2.2.2.2.2.2.2.2 = true then (none) else (if bt879.2.2.2 = true then (none) else (if bt898.2.2 = true then (none) else ((laws_docCopy.f (t845.take (x2_28 : Int).toNat)).bind fun t910 => ((impl_ValidateValue.f kj28 a1_0 t910).bind fun t913 => (some (t913 != 0))))))) else (none)))) else (none))))))) = some r := H
                  have A33 := Aside0.mk A330; clear A330; replace H := Option.bind_eq_some_iff.mp H; obtain ⟨⟨t855, t856, t857, t858, t859, t860, t861, t864, t867, t870⟩, A340, H⟩ := H
                  replace H : ((laws_docCopy.f (t845.take (x2_28 : Int).toNat)).bind fun t876 => ((impl_ReadValue.f kj28 a1_0 t876).bind fun bt879 => ((spec_DocHead.f a1_0 a0).bind fun t888 => ((some (t845.take (x2_28 : Int).toNat : List Int)).bind fun y891 => (if t888.length + y891.length < 140737488355328 then ((impl_ReadElement.f kj28 (t888 ++ y891)).bind fun bt898 => ((laws_docAwake.f kj28).bind fun t905 => (if t905 = true then (if t870 = true then (none) else (if bt879.2.2.2 = true then (none) else (if bt898.2.2 = true then (none) else ((laws_docCopy.f (t845.take (x2_28 : Int).toNat)).bind fun t910 => ((impl_ValidateValue.f kj28 a1_0 t910).bind fun t913 => (some (t913 != 0))))))) else (none)))) else (none)))))) = some r := H
                  have A34 := Aside0.mk A340; clear A340
                  have c35b0 := eq_true (HW.od : 0 ≤ x2_28)
                  have c36b0 := eq_true (HW.od : x2_28 ≤ (t845.length : Int))
                  obtain ⟨y872, hy872⟩ : ∃ y_ : List Int, y_ = (t845.take (x2_28 : Int).toNat) := ⟨_, rfl⟩
                  replace H : ((laws_docCopy.f y872).bind fun t876 => ((impl_ReadValue.f kj28 a1_0 t876).bind fun bt879 => ((spec_DocHead.f a1_0 a0).bind fun t888 => ((some (t845.take (x2_28 : Int).toNat : List Int)).bind fun y891 => (if t888.length + y891.length < 140737488355328 then ((impl_ReadElement.f kj28 (t888 ++ y891)).bind fun bt898 => ((laws_docAwake.f kj28).bind fun t905 => (if t905 = true then (if t870 = true then (none) else (if bt879.2.2.2 = true then (none) else (if bt898.2.2 = true then (none) else ((laws_docCopy.f (t845.take (x2_28 : Int).toNat)).bind fun t910 => ((impl_ValidateValue.f kj28 a1_0 t910).bind fun t913 => (some (t913 != 0))))))) else (none)))) else (none)))))) = some r := by (try rw [hy872]); exact HW.rp
                  have Ny872 := Aside0.mk hy872; clear hy872; replace H := Option.bind_eq_some_iff.mp H; obtain ⟨t876, A370, H⟩ := H
                  replace H : ((impl_ReadValue.f kj28 a1_0 t876).bind fun bt879 => ((spec_DocHead.f a1_0 a0).bind fun t888 => ((some (t845.take (x2_28 : Int).toNat : List Int)).bind fun y891 => (if t888.length + y891.length < 140737488355328 then ((impl_ReadElement.f kj28 (t888 ++ y891)).bind fun bt898 => ((laws_docAwake.f kj28).bind fun t905 => (if t905 = true then (if t870 = true then (none) else (if bt879.2.2.2 = true then (none) else (if bt898.2.2 = true then (none) else ((laws_docCopy.f (t845.take (x2_28 : Int).toNat)).bind fun t910 => ((impl_ValidateValue.f kj28 a1_0 t910).bind fun t913 => (some (t913 != 0))))))) else (none)))) else (none))))) = some r := H
                  have A37 := Aside0.mk A370; clear A370; replace H := Option.bind_eq_some_iff.mp H; obtain ⟨⟨t879, t880, t883, t886⟩, A380, H⟩ := H
                  replace H : ((spec_DocHead.f a1_0 a0).bind fun t888 => ((some (t845.take (x2_28 : Int).toNat : List Int)).bind fun y891 => (if t888.length + y891.length < 140737488355328 then ((impl_ReadElement.f kj28 (t888 ++ y891)).bind fun bt898 => ((laws_docAwake.f kj28).bind fun t905 => (if t905 = true then (if t870 = true then (none) else (if t886 = true then (none) else (if bt898.2.2 = true then (none) else ((laws_docCopy.f (t845.take (x2_28 : Int).toNat)).bind fun t910 => ((impl_ValidateValue.f kj28 a1_0 t910).bind fun t913 => (some (t913 != 0))))))) else (none)))) else (none)))) = some r := H
                  have A38 := Aside0.mk A380; clear A380; replace H := Option.bind_eq_some_iff.mp H; obtain ⟨t888, A390, H⟩ := H; replace H : ((some (t845.take (x2_28 : Int).toNat : List Int)).bind fun y891 => (if t888.length + y891.length < 140737488355328 then ((impl_ReadElement.f kj28 (t888 ++ y891)).bind fun bt898 => ((laws_docAwake.f kj28).bind fun t905 => (if t905 = true then (if t870 = true then (none) else (if t886 = true then (none) else (if bt898.2.2 = true then (none) else ((laws_docCopy.f (t845.take (x2_28 : Int).toNat)).bind fun t910 => ((impl_ValidateValue.f kj28 a1_0 t910).bind fun t913 => (some (t913 != 0))))))) else (none)))) else (none))) = some r := H; have A39 := Aside0.mk A390; clear A390
                  have c40b0 := eq_true (HW.od : 0 ≤ x2_28)
                  have c41b0 := eq_true (HW.od : x2_28 ≤ (t845.length : Int))
                  obtain ⟨y891, hy891⟩ : ∃ y_ : List Int, y_ = (t845.take (x2_28 : Int).toNat) := ⟨_, rfl⟩
                  replace H : (if t888.length + y891.length < 140737488355328 then ((impl_ReadElement.f kj28 (t888 ++ y891)).bind fun bt898 => ((laws_docAwake.f kj28).bind fun t905 => (if t905 = true then (if t870 = true then (none) else (if t886 = true then (none) else (if bt898.2.2 = true then (none) else ((laws_docCopy.f (t845.take (x2_28 : Int).toNat)).bind fun t910 => ((impl_ValidateValue.f kj28 a1_0 t910).bind fun t913 => (some (t913 != 0))))))) else (none)))) else (none)) = some r := by (try rw [hy891]); exact HW.rp
                  have Ny891 := Aside0.mk hy891; clear hy891
                  by_cases c42 : t888.length + y891.length < 140737488355328
                  rotate_left
                  · rw [if_neg c42] at H
                    exact absurd H (by simp)
                  rw [if_pos c42] at H; have LMc42 := Aside0.mk c42; clear c42; obtain ⟨y895, hy895⟩ : ∃ y_ : List Int, y_ = (t888 ++ y891) := ⟨_, rfl⟩
                  replace H : ((impl_ReadElement.f kj28 y895).bind fun bt898 => ((laws_docAwake.f kj28).bind fun t905 => (if t905 = true then (if t870 = true then (none) else (if t886 = true then (none) else (if bt898.2.2 = true then (none) else ((laws_docCopy.f (t845.take (x2_28 : Int).toNat)).bind fun t910 => ((impl_ValidateValue.f kj28 a1_0 t910).bind fun t913 => (some (t913 != 0))))))) else (none)))) = some r := by (try rw [hy895]); exact HW.rp
                  have Ny895 := Aside0.mk hy895; clear hy895; replace H := Option.bind_eq_some_iff.mp H; obtain ⟨⟨t898, t899, t900⟩, A430, H⟩ := H; replace H : ((laws_docAwake.f kj28).bind fun t905 => (if t905 = true then (if t870 = true then (none) else (if t886 = true then (none) else (if t900 = true then (none) else ((laws_docCopy.f (t845.take (x2_28 : Int).toNat)).bind fun t910 => ((impl_ValidateValue.f kj28 a1_0 t910).bind fun t913 => (some (t913 != 0))))))) else (none))) = some r := H; have A43 := Aside0.mk A430; clear A430; replace H := Option.bind_eq_some_iff.mp H; obtain ⟨t905, A440, H⟩ := H; replace H : (if t905 = true then (if t870 = true then (none) else (if t886 = true then (none) else (if t900 = true then (none) else ((laws_docCopy.f (t845.take (x2_28 : Int).toNat)).bind fun t910 => ((impl_ValidateValue.f kj28 a1_0 t910).bind fun t913 => (some (t913 != 0))))))) else (none)) = some r := H; have A44 := Aside0.mk A440; clear A440
                  by_cases c45 : t905 = true
                  rotate_left
                  · replace c45 := Bool.eq_false_iff.mpr c45
                    subst c45
                    have H1 : (none) = some r := by rw [if_neg (show ¬ (false = true) by decide)] at H; exact H
                    clear H; have H := H1; clear H1
                    exact absurd H (by simp)
                  subst c45
                  have H1 : (if t870 = true then (none) else (if t886 = true then (none) else (if t900 = true then (none) else ((laws_docCopy.f (t845.take (x2_28 : Int).toNat)).bind fun t910 => ((impl_ValidateValue.f kj28 a1_0 t910).bind fun t913 => (some (t913 != 0))))))) = some r := by rw [if_pos rfl] at H; exact H
                  clear H; have H := H1; clear H1
                  by_cases c46 : t870 = true
                  · subst c46
                    have H1 : (none) = some r := by rw [if_pos rfl] at H; exact H
                    clear H; have H := H1; clear H1
                    exact absurd H (by simp)
                  replace c46 := Bool.eq_false_iff.mpr c46; subst c46
                  have H1 : (if t886 = true then (none) else (if t900 = true then (none) else ((laws_docCopy.f (t845.take (x2_28 : Int).toNat)).bind fun t910 => ((impl_ValidateValue.f kj28 a1_0 t910).bind fun t913 => (some (t913 != 0)))))) = some r := by rw [if_neg (show ¬ (false = true) by decide)] at H; exact H
                  clear H; have H := H1; clear H1
                  by_cases c47 : t886 = true
                  · subst c47
                    have H1 : (none) = some r := by rw [if_pos rfl] at H; exact H
                    clear H; have H := H1; clear H1
                    exact absurd H (by simp)
                  replace c47 := Bool.eq_false_iff.mpr c47; subst c47
                  have H1 : (if t900 = true then (none) else ((laws_docCopy.f (t845.take (x2_28 : Int).toNat)).bind fun t910 => ((impl_ValidateValue.f kj28 a1_0 t910).bind fun t913 => (some (t913 != 0))))) = some r := by rw [if_neg (show ¬ (false = true) by decide)] at H; exact H
                  clear H; have H := H1; clear H1
                  by_cases c48 : t900 = true
                  · subst c48
                    have H1 : (none) = some r := by rw [if_pos rfl] at H; exact H
                    clear H; have H := H1; clear H1
                    exact absurd H (by simp)
                  replace c48 := Bool.eq_false_iff.mpr c48; subst c48
                  have H1 : ((laws_docCopy.f (t845.take (x2_28 : Int).toNat)).bind fun t910 => ((impl_ValidateValue.f kj28 a1_0 t910).bind fun t913 => (some (t913 != 0)))) = some r := by rw [if_neg (show ¬ (false = true) by decide)] at H; exact H
                  clear H; have H := H1; clear H1
                  have c49b0 := eq_true (HW.od : 0 ≤ x2_28)
                  have c50b0 := eq_true (HW.od : x2_28 ≤ (t845.length : Int))
                  obtain ⟨y906, hy906⟩ : ∃ y_ : List Int, y_ = (t845.take (x2_28 : Int).toNat) := ⟨_, rfl⟩
                  replace H : ((laws_docCopy.f y906).bind fun t910 => ((impl_ValidateValue.f kj28 a1_0 t910).bind fun t913 => (some (t913 != 0)))) = some r := by (try rw [hy906]); exact HW.rp
                  have Ny906 := Aside0.mk hy906; clear hy906; replace H := Option.bind_eq_some_iff.mp H; obtain ⟨t910, A510, H⟩ := H; replace H : ((impl_ValidateValue.f kj28 a1_0 t910).bind fun t913 => (some (t913 != 0))) = some r := H; have A51 := Aside0.mk A510; clear A510; replace H := Option.bind_eq_some_iff.mp H; obtain ⟨t913, A520, H⟩ := H; replace H : (some (t913 != 0)) = some r := H; have A52 := Aside0.mk A520; clear A520
                  focus
                    obtain rfl := Option.some.inj H
                    try go_wp2
                    replace HO_7 := Aside0.mk (Kd.R_drew HO_7.out); replace BK841 := Aside0.mk (blk_drew BK841.out); replace HB := Aside0.mk (below_drew1 HB.out)
                    have q54 : (x2_28 : Int) ≤ ((t845.length : Int) : Int) := HW.od
                    obtain ⟨i054, hi054, _, hsz54, _⟩ := info_parts info5; have hroom54 : t845.length ≤ co27 := (Kd.R_reads' HO_7.out).2.1; have hC54 : Kd.C (Kd.int .u8) _ Ao27 t845.length t845 := (Kd.R_reads' HO_7.out).2.2
                    have hcut54 := cut_to (P := Tryz.prog) 22 5 .i64 Tryz.underlying22 hi054 Ao27 t845.length co27 x2_28 (HW.od) q54 hroom54
                    have hr54 := Kd.C_take (m := (x2_28 : Int).toNat) hC54 (by omega)
                    have hy54 : y848.length = (x2_28 : Int).toNat := (by rw [Ny848.out, List.length_take]; omega)
                    rw [← Ny848.out] at hr54; rw [← hy54] at hcut54; have HR851 := Aside0.mk hr54
                    have HC851 := Aside0.mk (show y848.length ≤ co27 from by omega)
                    clear hr54 hC54 hroom54 hi054 hsz54; have KY54 := Aside0.mk hy54; clear hy54
                    have KL54 := Aside0.mk (show (x2_28 : Int).toNat ≤ t845.length from by omega)
                    replace q54 := eq_true q54
                    refine start_ (n := 15) (S := fun w' => w'.cell? ⟨gb841, 0, none⟩ = some (.int .i64 a1_0) ∧ w'.cell? ⟨gb841, 1, none⟩ = some (.string a1_1) ∧ w'.cell? ⟨gb841, 2, none⟩ = some (.string a1_2) ∧ w'.cell? ⟨gb841, 3, none⟩ = some (.int .i64 a1_3) ∧ w'.cell? ⟨gb841, 4, none⟩ = some (.int .u64 a1_4) ∧ w'.cell? ⟨gb841, 5, none⟩ = some (.int .u64 a1_5) ∧ w'.cell? ⟨gb841, 6, none⟩ = some (.slice A1_6 l1_6.length c1_6) ∧ w'.cell? ⟨gb841, 7, none⟩ = some (.slice A1_7 l1_7.length c1_7)) (ds := []) #[ff,ff,ff,ff,ff,ff,ff,ff,ff,ff,ff,ff,ff,ff,ff] (by kernel_rfl) rfl rfl (HW.k8 BK841.out) (fun hHeld => ?_); refine with_tabW laws_FnDocShort.tab10 laws_FnDocShort.bits10 (fun HT_ HW_ => ?_)
                    generalize wc.drew = w53 at HO_7 BK841 HB HR851 hHeld ⊢
                    refine HW.pz (i := 0) (N := some 55) #[tt,ff,ff,ff,ff,ff,ff,ff,ff,ff,ff,ff,ff,ff,ff] ?_ (hc := any_of HT_.out (by kernel_rfl))
                    refine HW.pz (i := 2) (N := some 57) #[tt,ff,tt,ff,ff,ff,ff,ff,ff,ff,ff,ff,ff,ff,ff] ?_ (hc := any_of HT_.out (by kernel_rfl))
                    refine HW.pz (i := 3) (N := some 58) #[tt,ff,tt,tt,ff,ff,ff,ff,ff,ff,ff,ff,ff,ff,ff] ?_ (hc := any_of HT_.out (by kernel_rfl))
                    refine HW.pz (i := 4) (N := some 59) #[tt,ff,tt,tt,tt,ff,ff,ff,ff,ff,ff,ff,ff,ff,ff] ?_ (hc := any_of HT_.out (by kernel_rfl))
                    refine take_ (i := 1) (N := some 56) (v := ?_) (a' := ?_) #[tt,tt,tt,tt,tt,ff,ff,ff,ff,ff,ff,ff,ff,ff,ff] rfl rfl (take_ofW HT_.out HW_.out (by kernel_rfl)) (fun _ _ _ h => h) (Or.inl ⟨by rfl, ?_⟩) hHeld ?_ ?_
                    rotate_left
                    · rintro w' ⟨s0, s1, s2, s3, s4, s5, s6, s7⟩
                      go_simp
                      with_reducible rfl
                    rotate_left
                    · exact HW.pt
                    refine join_ (σ := Value × Value × Value × Value × Nat) 3 #[tt,tt,tt,tt,tt,tt,tt,tt,tt,tt,tt,tt,ff,ff,ff] (fun s_ => [(60, s_.1), (61, .tuple #[.agg #[.int .i64 t855, .string t856, .string t857, .int .i64 t858, .int .u64 t859, .int .u64 t860, s_.2.1, s_.2.2.1], s_.2.2.2.1, .bool false]), (8, .pointer (some ⟨s_.2.2.2.2, 0, none⟩)), (54, .tuple #[.agg #[.int .i64 t855, .string t856, .string t857, .int .i64 t858, .int .u64 t859, .int .u64 t860, s_.2.1, s_.2.2.1], s_.2.2.2.1, .bool false]), (62, .agg #[.int .i64 t855, .string t856, .string t857, .int .i64 t858, .int .u64 t859, .int .u64 t860, s_.2.1, s_.2.2.1]), (63, s_.2.2.2.1), (64, .bool false)]) (fun s_ w' => (w'.cell? ⟨gb841, 0, none⟩ = some (.int .i64 a1_0) ∧ w'.cell? ⟨gb841, 1, none⟩ = some (.string a1_1) ∧ w'.cell? ⟨gb841, 2, none⟩ = some (.string a1_2) ∧ w'.cell? ⟨gb841, 3, none⟩ = some (.int .i64 a1_3) ∧ w'.cell? ⟨gb841, 4, none⟩ = some (.int .u64 a1_4) ∧ w'.cell? ⟨gb841, 5, none⟩ = some (.int .u64 a1_5) ∧ w'.cell? ⟨gb841, 6, none⟩ = some (.slice A1_6 l1_6.length c1_6) ∧ w'.cell? ⟨gb841, 7, none⟩ = some (.slice A1_7 l1_7.length c1_7)) ∧ (Kd.R (Kd.int .u8) 5 w' w.heap.size (fun k_ => some k_ ≠ (.slice Ao27 t845.length co27 : Value).ownBlock) s_.1 t852) ∧ (Kd.R (Kd.int .u8) 5 w' w.heap.size (fun k_ => some k_ ≠ (.slice Ao27 t845.length co27 : Value).ownBlock) s_.2.1 t861) ∧ (Kd.R k95 95 w' w.heap.size (fun k_ => some k_ ≠ (.slice Ao27 t845.length co27 : Value).ownBlock) s_.2.2.1 t864) ∧ (Kd.R (Kd.int .u8) 5 w' w.heap.size (fun k_ => some k_ ≠ (.slice Ao27 t845.length co27 : Value).ownBlock) s_.2.2.2.1 t867) ∧ (Kd.R (Kd.int .u8) 5 w' w.heap.size (fun _ => True) (.slice Ao27 t845.length co27) t845) ∧ (w'.heap[gb841]? = some (.cells #[.int .i64 a1_0, .string a1_1, .string a1_2, .int .i64 a1_3, .int .u64 a1_4, .int .u64 a1_5, .slice A1_6 l1_6.length c1_6, .slice A1_7 l1_7.length c1_7] 44 (0, 0))) ∧ (w'.heap[s_.2.2.2.2]? = some (.cells #[.int .i64 0, .string (⟨#[]⟩ : ByteArray), .string (⟨#[]⟩ : ByteArray), .int .i64 0, .int .u64 0, .int .u64 0, .slice none 0 0, .slice none 0 0] 44 (0, 0))) ∧ (w.heap.size ≤ s_.2.2.2.2) ∧ (w.heap.size ≤ s_.2.2.2.2) ∧ (gb841 ≠ s_.2.2.2.2) ∧ (s_.2.2.2.2 ≠ gb841) ∧ (Below w.heap.size w w')) ?_ ?_
                    rotate_left
                    · intro hCont
                      refine two_ (i := 5) (j := 11) (Ni := some 60) (Nj := some 8) #[tt,tt,tt,tt,tt,tt,ff,ff,ff,ff,ff,ff,ff,ff,ff] #[tt,tt,tt,tt,tt,ff,ff,ff,ff,ff,ff,tt,ff,ff,ff] rfl rfl rfl rfl (two_of HT_.out (by kernel_rfl)) (by decide) (by decide) (fun K hK => ?_) (fun K hK => ?_)
                      · skip
                        refine goes_ Tryz.func11 (by kernel_rfl) rfl #[.slice Ao27 y848.length co27] (by rfl) rfl rfl HW.mt ?_
                        with_reducible refine (laws_docCopy.calls _ _ y848 t852 _ ?side1 ?side2 A33.out).mono ?_
                        (case side1 => repeat (first | exact (by repeat (first | (with_reducible exact HR851.out) | (with_reducible refine Kd.C_alloc ?_ _) | (with_reducible refine Kd.C_drewN ?_ _) | (with_reducible refine Kd.C_drew ?_) | exact HR851.out)) | (with_reducible refine Kd.C_alloc ?_ _) | (with_reducible refine Kd.C_drewN ?_ _) | (with_reducible refine Kd.C_drew ?_)))
                        (case side2 => exact HC851.out)
                        rintro e w55 ⟨v853, rfl, ho0, hb⟩
                        refine ⟨_, rfl, ?_⟩
                        have n0_ := Aside0.mk (Kd.R_below (HW.zR HO_7.out) hb); have n1_ := Aside0.mk (Kd.R_lower (Kd.R_new' ho0 (Kd.R_lt (HW.zR HO_7.out))) (below_size HW.zb)); have n2_ := Aside0.mk (blk_below (HW.zB BK841.out) hb)
                        have n3_ := Aside0.mk (Kd.C_below (by repeat (first | (with_reducible exact HR851.out) | (with_reducible refine Kd.C_alloc ?_ _) | (with_reducible refine Kd.C_drewN ?_ _) | (with_reducible refine Kd.C_drew ?_) | exact HR851.out)) hb)
                        have n4_ := Aside0.mk (below_step HW.zb hb); clear HO_7; clear BK841; clear HR851; clear HB; have HO_7 := n0_; have HO854 := n1_; have BK841 := n2_; have HR851 := n3_; have HB := n4_; clear n0_ n1_ n2_ n3_ n4_
                        (try clear hb)
                        (try clear ho0)
                        obtain ⟨Ao56, co56, eo56⟩ := Kd.R_slice HO854.out
                        (first | subst eo56 | (injection eo56 with f1_ f2_ f3_; have f4_ := f1_.symm; have f5_ := f3_.symm; clear f1_ f2_ f3_; subst f4_; subst f5_))
                        refine hK.out _ _ (HW.k8 BK841.out) (fun hHeld => ?_)
                        clear hK K
                        refine HW.nz (N := (some 60)) ?_
                        refine two_ (i := 6) (j := 11) (Ni := some 61) (Nj := some 8) #[tt,tt,tt,tt,tt,tt,tt,ff,ff,ff,ff,ff,ff,ff,ff] #[tt,tt,tt,tt,tt,tt,ff,ff,ff,ff,ff,tt,ff,ff,ff] rfl rfl rfl rfl (two_of HT_.out (by kernel_rfl)) (by decide) (by decide) (fun K hK => ?_) (fun K hK => ?_)
                        · skip
                          refine goes_ Tryz.func34 (by kernel_rfl) rfl #[.int .i64 a1_0, .slice Ao56 t852.length co56] (by rfl) rfl rfl HW.mt ?_
                          with_reducible refine (impl_Read.calls kj28 a1_0 _ _ t852 t855 t856 t857 t858 t859 t860 t861 t864 t867 false _ ?side1 ?side2 A34.out).mono ?_
                          (case side1 => repeat (first | exact (Kd.R_reads' HO854.out).2.2 | (with_reducible refine Kd.C_alloc ?_ _) | (with_reducible refine Kd.C_drewN ?_ _) | (with_reducible refine Kd.C_drew ?_)))
                          (case side2 => exact (Kd.R_reads' HO854.out).2.1)
                          rintro e w57 ⟨v862, v865, v868, rfl, ho0, ho1, ho2, hb⟩
                          refine ⟨_, rfl, ?_⟩
                          have n0_ := Aside0.mk (Kd.R_below (HW.zR HO_7.out) hb); have n1_ := Aside0.mk (Kd.R_below (HW.zR HO854.out) hb); have n2_ := Aside0.mk (Kd.R_lower (Kd.R_new' ho0 (Kd.R_lt (HW.zR HO_7.out))) (below_size HW.zb)); have n3_ := Aside0.mk (Kd.R_lower (Kd.R_new' ho1 (Kd.R_lt (HW.zR HO_7.out))) (below_size HW.zb)); have n4_ := Aside0.mk (Kd.R_lower (Kd.R_new' ho2 (Kd.R_lt (HW.zR HO_7.out))) (below_size HW.zb)); have n5_ := Aside0.mk (blk_below (HW.zB BK841.out) hb)
                          have n6_ := Aside0.mk (Kd.C_below (by repeat (first | (with_reducible exact HR851.out) | (with_reducible refine Kd.C_alloc ?_ _) | (with_reducible refine Kd.C_drewN ?_ _) | (with_reducible refine Kd.C_drew ?_) | exact HR851.out)) hb)
                          have n7_ := Aside0.mk (below_step HW.zb hb); clear HO_7; clear HO854; clear BK841; clear HR851; clear HB; have HO_7 := n0_; have HO854 := n1_; have HO863 := n2_; have HO866 := n3_; have HO869 := n4_; have BK841 := n5_; have HR851 := n6_; have HB := n7_; clear n0_ n1_ n2_ n3_ n4_ n5_ n6_ n7_
                          (try clear hb)
                          (try clear ho0)
                          (try clear ho1)
                          (try clear ho2)
                          refine hK.out _ _ (HW.k8 BK841.out) (fun hHeld => ?_)
                          clear hK K
                          refine HW.nz (N := (some 61)) ?_
                          refine HW.pz (i := 7) (N := some 54) #[tt,tt,tt,tt,tt,tt,tt,tt,ff,ff,ff,ff,ff,ff,ff] ?_ (hc := any_of HT_.out (by kernel_rfl))
                          refine HW.pz (i := 8) (N := some 62) #[tt,tt,tt,tt,tt,tt,tt,tt,tt,ff,ff,ff,ff,ff,ff] ?_ (hc := any_of HT_.out (by kernel_rfl))
                          refine HW.pz (i := 9) (N := some 63) #[tt,tt,tt,tt,tt,tt,tt,tt,tt,tt,ff,ff,ff,ff,ff] ?_ (hc := any_of HT_.out (by kernel_rfl))
                          refine HW.pz (i := 10) (N := some 64) #[tt,tt,tt,tt,tt,tt,tt,tt,tt,tt,tt,ff,ff,ff,ff] ?_ (hc := any_of HT_.out (by kernel_rfl))
                          refine one_ (i := 11) (N := some 8) #[tt,tt,tt,tt,tt,tt,tt,tt,tt,tt,tt,tt,ff,ff,ff] rfl rfl (one_of HT_.out (by kernel_rfl)) (by decide) (fun K hK => ?_)
                          refine box_step ?hg (N := 8) ?hd (cs := #[.int .i64 0, .string (⟨#[]⟩ : ByteArray), .string (⟨#[]⟩ : ByteArray), .int .i64 0, .int .u64 0, .int .u64 0, .slice none 0 0, .slice none 0 0]) (t := 44) ?hr ?_; (case hd => rfl); (case hg => rfl); (case hr => first | (go_simp; done) | (go_simp; rfl))
                          intro gb871 hg w58 hbox hb
                          have n0_ := Aside0.mk (Kd.R_below (HW.zR HO_7.out) hb); have n1_ := Aside0.mk (Kd.R_below (HW.zR HO854.out) hb); have n2_ := Aside0.mk (Kd.R_below (HW.zR HO863.out) hb); have n3_ := Aside0.mk (Kd.R_below (HW.zR HO866.out) hb); have n4_ := Aside0.mk (Kd.R_below (HW.zR HO869.out) hb); have n5_ := Aside0.mk (blk_below (HW.zB BK841.out) hb)
                          have n6_ := Aside0.mk (Kd.C_below (by repeat (first | (with_reducible exact HR851.out) | (with_reducible refine Kd.C_alloc ?_ _) | (with_reducible refine Kd.C_drewN ?_ _) | (with_reducible refine Kd.C_drew ?_) | exact HR851.out)) hb)
                          have n7_ := Aside0.mk (below_step HW.zb hb); have n8_ := Aside0.mk (hbox)
                          have n9_ := Aside0.mk ((by rw [hg]; exact (below_size HW.zb) : w.heap.size ≤ gb871))
                          have n10_ := Aside0.mk ((by rw [hg]; exact (below_size HW.zb) : w.heap.size ≤ gb871))
                          have n11_ := Aside0.mk ((by rw [hg]; exact Nat.ne_of_lt (blk_lt (g := gb841) (o := .cells #[.int .i64 a1_0, .string a1_1, .string a1_2, .int .i64 a1_3, .int .u64 a1_4, .int .u64 a1_5, .slice A1_6 l1_6.length c1_6, .slice A1_7 l1_7.length c1_7] 44 (0, 0)) (HW.zB BK841.out)) : gb841 ≠ gb871))
                          have n12_ := Aside0.mk ((by rw [hg]; exact Nat.ne_of_gt (blk_lt (g := gb841) (o := .cells #[.int .i64 a1_0, .string a1_1, .string a1_2, .int .i64 a1_3, .int .u64 a1_4, .int .u64 a1_5, .slice A1_6 l1_6.length c1_6, .slice A1_7 l1_7.length c1_7] 44 (0, 0)) (HW.zB BK841.out)) : gb871 ≠ gb841))
                          clear HO_7; clear HO854; clear HO863; clear HO866; clear HO869; clear BK841; clear HR851; clear HB; have HO_7 := n0_; have HO854 := n1_; have HO863 := n2_; have HO866 := n3_; have HO869 := n4_; have BK841 := n5_; have HR851 := n6_; have HB := n7_; have BK871 := n8_; have GW871 := n9_; have GE871 := n10_; have NB841_871 := n11_; have NB871_841 := n12_; clear n0_ n1_ n2_ n3_ n4_ n5_ n6_ n7_ n8_ n9_ n10_ n11_ n12_; clear hb hbox hg
                          refine hK.out _ _ (HW.k8 BK841.out) (fun hHeld => ?_)
                          clear hK K
                          refine HW.nz (N := (some 8)) ?_
                          exact norm_ (by simp only [putAll, Act.put, List.setIfInBounds_toArray, List.set_cons_zero, List.set_cons_succ, errW_none]) (hCont (.slice Ao56 t852.length co56, v862, v865, v868, gb871) _ ⟨hHeld, (HW.zR (Kd.R_mono HO854.out (fun _ hk => hk.2))), (HW.zR (Kd.R_mono HO863.out (fun _ hk => hk.2))), (HW.zR (Kd.R_mono HO866.out (fun _ hk => hk.2))), (HW.zR (Kd.R_mono HO869.out (fun _ hk => hk.2))), (HW.zR HO_7.out), (HW.zB BK841.out), (HW.zB BK871.out), GW871.out, GE871.out, NB841_871.out, NB871_841.out, HW.zb⟩)
                        skip
                        refine box_step ?hg (N := 8) ?hd (cs := #[.int .i64 0, .string (⟨#[]⟩ : ByteArray), .string (⟨#[]⟩ : ByteArray), .int .i64 0, .int .u64 0, .int .u64 0, .slice none 0 0, .slice none 0 0]) (t := 44) ?hr ?_; (case hd => rfl); (case hg => rfl); (case hr => first | (go_simp; done) | (go_simp; rfl))
                        intro gb871 hg w56 hbox hb
                        have n0_ := Aside0.mk (Kd.R_below (HW.zR HO_7.out) hb); have n1_ := Aside0.mk (Kd.R_below (HW.zR HO854.out) hb); have n2_ := Aside0.mk (blk_below (HW.zB BK841.out) hb)
                        have n3_ := Aside0.mk (Kd.C_below (by repeat (first | (with_reducible exact HR851.out) | (with_reducible refine Kd.C_alloc ?_ _) | (with_reducible refine Kd.C_drewN ?_ _) | (with_reducible refine Kd.C_drew ?_) | exact HR851.out)) hb)
                        have n4_ := Aside0.mk (below_step HW.zb hb); have n5_ := Aside0.mk (hbox)
                        have n6_ := Aside0.mk ((by rw [hg]; exact (below_size HW.zb) : w.heap.size ≤ gb871))
                        have n7_ := Aside0.mk ((by rw [hg]; exact (below_size HW.zb) : w.heap.size ≤ gb871))
                        have n8_ := Aside0.mk ((by rw [hg]; exact Nat.ne_of_lt (blk_lt (g := gb841) (o := .cells #[.int .i64 a1_0, .string a1_1, .string a1_2, .int .i64 a1_3, .int .u64 a1_4, .int .u64 a1_5, .slice A1_6 l1_6.length c1_6, .slice A1_7 l1_7.length c1_7] 44 (0, 0)) (HW.zB BK841.out)) : gb841 ≠ gb871))
                        have n9_ := Aside0.mk ((by rw [hg]; exact Nat.ne_of_gt (blk_lt (g := gb841) (o := .cells #[.int .i64 a1_0, .string a1_1, .string a1_2, .int .i64 a1_3, .int .u64 a1_4, .int .u64 a1_5, .slice A1_6 l1_6.length c1_6, .slice A1_7 l1_7.length c1_7] 44 (0, 0)) (HW.zB BK841.out)) : gb871 ≠ gb841))
                        clear HO_7; clear HO854; clear BK841; clear HR851; clear HB; have HO_7 := n0_; have HO854 := n1_; have BK841 := n2_; have HR851 := n3_; have HB := n4_; have BK871 := n5_; have GW871 := n6_; have GE871 := n7_; have NB841_871 := n8_; have NB871_841 := n9_; clear n0_ n1_ n2_ n3_ n4_ n5_ n6_ n7_ n8_ n9_; clear hb hbox hg; obtain ⟨Ao57, co57, eo57⟩ := Kd.R_slice HO854.out
                        (first | subst eo57 | (injection eo57 with f1_ f2_ f3_; have f4_ := f1_.symm; have f5_ := f3_.symm; clear f1_ f2_ f3_; subst f4_; subst f5_))
                        refine hK.out _ _ (HW.k8 BK841.out) (fun hHeld => ?_)
                        clear hK K
                        refine HW.nz (N := (some 8)) ?_
                        refine one_ (i := 6) (N := some 61) #[tt,tt,tt,tt,tt,tt,tt,ff,ff,ff,ff,tt,ff,ff,ff] rfl rfl (one_of HT_.out (by kernel_rfl)) (by decide) (fun K hK => ?_)
                        refine goes_ Tryz.func34 (by kernel_rfl) rfl #[.int .i64 a1_0, .slice Ao57 t852.length co57] (by rfl) rfl rfl HW.mt ?_
                        with_reducible refine (impl_Read.calls kj28 a1_0 _ _ t852 t855 t856 t857 t858 t859 t860 t861 t864 t867 false _ ?side1 ?side2 A34.out).mono ?_
                        (case side1 => repeat (first | exact (Kd.R_reads' HO854.out).2.2 | (with_reducible refine Kd.C_alloc ?_ _) | (with_reducible refine Kd.C_drewN ?_ _) | (with_reducible refine Kd.C_drew ?_)))
                        (case side2 => exact (Kd.R_reads' HO854.out).2.1)
                        rintro e w58 ⟨v862, v865, v868, rfl, ho0, ho1, ho2, hb⟩
                        refine ⟨_, rfl, ?_⟩
                        have n0_ := Aside0.mk (Kd.R_below (HW.zR HO_7.out) hb); have n1_ := Aside0.mk (Kd.R_below (HW.zR HO854.out) hb); have n2_ := Aside0.mk (Kd.R_lower (Kd.R_new' ho0 (Kd.R_lt (HW.zR HO_7.out))) (below_size HW.zb)); have n3_ := Aside0.mk (Kd.R_lower (Kd.R_new' ho1 (Kd.R_lt (HW.zR HO_7.out))) (below_size HW.zb)); have n4_ := Aside0.mk (Kd.R_lower (Kd.R_new' ho2 (Kd.R_lt (HW.zR HO_7.out))) (below_size HW.zb)); have n5_ := Aside0.mk (blk_below (HW.zB BK841.out) hb)
                        have n6_ := Aside0.mk (Kd.C_below (by repeat (first | (with_reducible exact HR851.out) | (with_reducible refine Kd.C_alloc ?_ _) | (with_reducible refine Kd.C_drewN ?_ _) | (with_reducible refine Kd.C_drew ?_) | exact HR851.out)) hb)
                        have n7_ := Aside0.mk (blk_below (g := gb871) (o := .cells #[.int .i64 0, .string (⟨#[]⟩ : ByteArray), .string (⟨#[]⟩ : ByteArray), .int .i64 0, .int .u64 0, .int .u64 0, .slice none 0 0, .slice none 0 0] 44 (0, 0)) (HW.zB BK871.out) hb); have n8_ := Aside0.mk (below_step HW.zb hb); clear HO_7; clear HO854; clear BK841; clear HR851; clear BK871; clear HB; have HO_7 := n0_; have HO854 := n1_; have HO863 := n2_; have HO866 := n3_; have HO869 := n4_; have BK841 := n5_; have HR851 := n6_; have BK871 := n7_; have HB := n8_; clear n0_ n1_ n2_ n3_ n4_ n5_ n6_ n7_ n8_
                        (try clear hb)
                        (try clear ho0)
                        (try clear ho1)
                        (try clear ho2)
                        refine hK.out _ _ (HW.k8 BK841.out) (fun hHeld => ?_)
                        clear hK K
                        refine HW.nz (N := (some 61)) ?_
                        refine HW.pz (i := 7) (N := some 54) #[tt,tt,tt,tt,tt,tt,tt,tt,ff,ff,ff,tt,ff,ff,ff] ?_ (hc := any_of HT_.out (by kernel_rfl))
                        refine HW.pz (i := 8) (N := some 62) #[tt,tt,tt,tt,tt,tt,tt,tt,tt,ff,ff,tt,ff,ff,ff] ?_ (hc := any_of HT_.out (by kernel_rfl))
                        refine HW.pz (i := 9) (N := some 63) #[tt,tt,tt,tt,tt,tt,tt,tt,tt,tt,ff,tt,ff,ff,ff] ?_ (hc := any_of HT_.out (by kernel_rfl))
                        refine HW.pz (i := 10) (N := some 64) #[tt,tt,tt,tt,tt,tt,tt,tt,tt,tt,tt,tt,ff,ff,ff] ?_ (hc := any_of HT_.out (by kernel_rfl))
                        exact norm_ (by simp only [putAll, Act.put, List.setIfInBounds_toArray, List.set_cons_zero, List.set_cons_succ, errW_none]) (hCont (.slice Ao57 t852.length co57, v862, v865, v868, gb871) _ ⟨hHeld, (HW.zR (Kd.R_mono HO854.out (fun _ hk => hk.2))), (HW.zR (Kd.R_mono HO863.out (fun _ hk => hk.2))), (HW.zR (Kd.R_mono HO866.out (fun _ hk => hk.2))), (HW.zR (Kd.R_mono HO869.out (fun _ hk => hk.2))), (HW.zR HO_7.out), (HW.zB BK841.out), (HW.zB BK871.out), GW871.out, GE871.out, NB841_871.out, NB871_841.out, HW.zb⟩)
                      skip
                      refine box_step ?hg (N := 8) ?hd (cs := #[.int .i64 0, .string (⟨#[]⟩ : ByteArray), .string (⟨#[]⟩ : ByteArray), .int .i64 0, .int .u64 0, .int .u64 0, .slice none 0 0, .slice none 0 0]) (t := 44) ?hr ?_; (case hd => rfl); (case hg => rfl); (case hr => first | (go_simp; done) | (go_simp; rfl))
                      intro gb871 hg w55 hbox hb
                      have n0_ := Aside0.mk (Kd.R_below (HW.zR HO_7.out) hb); have n1_ := Aside0.mk (blk_below (HW.zB BK841.out) hb)
                      have n2_ := Aside0.mk (Kd.C_below (by repeat (first | (with_reducible exact HR851.out) | (with_reducible refine Kd.C_alloc ?_ _) | (with_reducible refine Kd.C_drewN ?_ _) | (with_reducible refine Kd.C_drew ?_) | exact HR851.out)) hb)
                      have n3_ := Aside0.mk (below_step HW.zb hb); have n4_ := Aside0.mk (hbox)
                      have n5_ := Aside0.mk ((by rw [hg]; exact (below_size HW.zb) : w.heap.size ≤ gb871))
                      have n6_ := Aside0.mk ((by rw [hg]; exact (below_size HW.zb) : w.heap.size ≤ gb871))
                      have n7_ := Aside0.mk ((by rw [hg]; exact Nat.ne_of_lt (blk_lt (g := gb841) (o := .cells #[.int .i64 a1_0, .string a1_1, .string a1_2, .int .i64 a1_3, .int .u64 a1_4, .int .u64 a1_5, .slice A1_6 l1_6.length c1_6, .slice A1_7 l1_7.length c1_7] 44 (0, 0)) (HW.zB BK841.out)) : gb841 ≠ gb871))
                      have n8_ := Aside0.mk ((by rw [hg]; exact Nat.ne_of_gt (blk_lt (g := gb841) (o := .cells #[.int .i64 a1_0, .string a1_1, .string a1_2, .int .i64 a1_3, .int .u64 a1_4, .int .u64 a1_5, .slice A1_6 l1_6.length c1_6, .slice A1_7 l1_7.length c1_7] 44 (0, 0)) (HW.zB BK841.out)) : gb871 ≠ gb841))
                      clear HO_7; clear BK841; clear HR851; clear HB; have HO_7 := n0_; have BK841 := n1_; have HR851 := n2_; have HB := n3_; have BK871 := n4_; have GW871 := n5_; have GE871 := n6_; have NB841_871 := n7_; have NB871_841 := n8_; clear n0_ n1_ n2_ n3_ n4_ n5_ n6_ n7_ n8_; clear hb hbox hg
                      refine hK.out _ _ (HW.k8 BK841.out) (fun hHeld => ?_)
                      clear hK K
                      refine HW.nz (N := (some 8)) ?_
                      refine one_ (i := 5) (N := some 60) #[tt,tt,tt,tt,tt,tt,ff,ff,ff,ff,ff,tt,ff,ff,ff] rfl rfl (one_of HT_.out (by kernel_rfl)) (by decide) (fun K hK => ?_)
                      refine goes_ Tryz.func11 (by kernel_rfl) rfl #[.slice Ao27 y848.length co27] (by rfl) rfl rfl HW.mt ?_
                      with_reducible refine (laws_docCopy.calls _ _ y848 t852 _ ?side1 ?side2 A33.out).mono ?_
                      (case side1 => repeat (first | exact (by repeat (first | (with_reducible exact HR851.out) | (with_reducible refine Kd.C_alloc ?_ _) | (with_reducible refine Kd.C_drewN ?_ _) | (with_reducible refine Kd.C_drew ?_) | exact HR851.out)) | (with_reducible refine Kd.C_alloc ?_ _) | (with_reducible refine Kd.C_drewN ?_ _) | (with_reducible refine Kd.C_drew ?_)))
                      (case side2 => exact HC851.out)
                      rintro e w56 ⟨v853, rfl, ho0, hb⟩
                      refine ⟨_, rfl, ?_⟩
                      have HO854 := Aside0.mk (Kd.R_lower (Kd.R_new' ho0 (Kd.R_lt (HW.zR HO_7.out))) (below_size HW.zb)); replace HO_7 := Aside0.mk (Kd.R_below (HW.zR HO_7.out) hb); replace BK841 := Aside0.mk (blk_below (HW.zB BK841.out) hb); replace BK871 := Aside0.mk (blk_below (g := gb871) (o := .cells #[.int .i64 0, .string (⟨#[]⟩ : ByteArray), .string (⟨#[]⟩ : ByteArray), .int .i64 0, .int .u64 0, .int .u64 0, .slice none 0 0, .slice none 0 0] 44 (0, 0)) (HW.zB BK871.out) hb); replace HB := Aside0.mk (below_step HW.zb hb)
                      (try clear hb)
                      (try clear ho0)
                      obtain ⟨Ao57, co57, eo57⟩ := Kd.R_slice HO854.out
                      (first | subst eo57 | (injection eo57 with f1_ f2_ f3_; have f4_ := f1_.symm; have f5_ := f3_.symm; clear f1_ f2_ f3_; subst f4_; subst f5_))
                      refine hK.out _ _ (HW.k8 BK841.out) (fun hHeld => ?_)
                      clear hK K
                      refine HW.nz (N := (some 60)) ?_
                      refine one_ (i := 6) (N := some 61) #[tt,tt,tt,tt,tt,tt,tt,ff,ff,ff,ff,tt,ff,ff,ff] rfl rfl (one_of HT_.out (by kernel_rfl)) (by decide) (fun K hK => ?_)
                      refine goes_ Tryz.func34 (by kernel_rfl) rfl #[.int .i64 a1_0, .slice Ao57 t852.length co57] (by rfl) rfl rfl HW.mt ?_
                      with_reducible refine (impl_Read.calls kj28 a1_0 _ _ t852 t855 t856 t857 t858 t859 t860 t861 t864 t867 false _ ?side1 ?side2 A34.out).mono ?_
                      (case side1 => repeat (first | exact (Kd.R_reads' HO854.out).2.2 | (with_reducible refine Kd.C_alloc ?_ _) | (with_reducible refine Kd.C_drewN ?_ _) | (with_reducible refine Kd.C_drew ?_)))
                      (case side2 => exact (Kd.R_reads' HO854.out).2.1)
                      rintro e w58 ⟨v862, v865, v868, rfl, ho0, ho1, ho2, hb⟩
                      refine ⟨_, rfl, ?_⟩
                      replace HO854 := Aside0.mk (Kd.R_below (HW.zR HO854.out) hb); have HO863 := Aside0.mk (Kd.R_lower (Kd.R_new' ho0 (Kd.R_lt (HW.zR HO_7.out))) (below_size HW.zb)); have HO866 := Aside0.mk (Kd.R_lower (Kd.R_new' ho1 (Kd.R_lt (HW.zR HO_7.out))) (below_size HW.zb)); have HO869 := Aside0.mk (Kd.R_lower (Kd.R_new' ho2 (Kd.R_lt (HW.zR HO_7.out))) (below_size HW.zb)); replace HO_7 := Aside0.mk (Kd.R_below (HW.zR HO_7.out) hb); replace BK841 := Aside0.mk (blk_below (HW.zB BK841.out) hb); replace BK871 := Aside0.mk (blk_below (g := gb871) (o := .cells #[.int .i64 0, .string (⟨#[]⟩ : ByteArray), .string (⟨#[]⟩ : ByteArray), .int .i64 0, .int .u64 0, .int .u64 0, .slice none 0 0, .slice none 0 0] 44 (0, 0)) (HW.zB BK871.out) hb); replace HB := Aside0.mk (below_step HW.zb hb)
                      (try clear hb)
                      (try clear ho0)
                      (try clear ho1)
                      (try clear ho2)
                      refine hK.out _ _ (HW.k8 BK841.out) (fun hHeld => ?_)
                      clear hK K
                      refine HW.nz (N := (some 61)) ?_
                      refine HW.pz (i := 7) (N := some 54) #[tt,tt,tt,tt,tt,tt,tt,tt,ff,ff,ff,tt,ff,ff,ff] ?_ (hc := any_of HT_.out (by kernel_rfl))
                      refine HW.pz (i := 8) (N := some 62) #[tt,tt,tt,tt,tt,tt,tt,tt,tt,ff,ff,tt,ff,ff,ff] ?_ (hc := any_of HT_.out (by kernel_rfl))
                      refine HW.pz (i := 9) (N := some 63) #[tt,tt,tt,tt,tt,tt,tt,tt,tt,tt,ff,tt,ff,ff,ff] ?_ (hc := any_of HT_.out (by kernel_rfl))
                      refine HW.pz (i := 10) (N := some 64) #[tt,tt,tt,tt,tt,tt,tt,tt,tt,tt,tt,tt,ff,ff,ff] ?_ (hc := any_of HT_.out (by kernel_rfl))
                      exact norm_ (by simp only [putAll, Act.put, List.setIfInBounds_toArray, List.set_cons_zero, List.set_cons_succ, errW_none]) (hCont (.slice Ao57 t852.length co57, v862, v865, v868, gb871) _ ⟨hHeld, (HW.zR (Kd.R_mono HO854.out (fun _ hk => hk.2))), (HW.zR (Kd.R_mono HO863.out (fun _ hk => hk.2))), (HW.zR (Kd.R_mono HO866.out (fun _ hk => hk.2))), (HW.zR (Kd.R_mono HO869.out (fun _ hk => hk.2))), (HW.zR HO_7.out), (HW.zB BK841.out), (HW.zB BK871.out), GW871.out, GE871.out, NB841_871.out, NB871_841.out, HW.zb⟩)
                    rintro ⟨v853, v862, v865, v868, gb871⟩ w59 ⟨hS_, h0_, h1_, h2_, h3_, h4_, h5_, h6_, h7_, h8_, h9_, h10_, h11_⟩
                    have n0_ : Aside0 (Kd.R (Kd.int .u8) 5 w59 w.heap.size (fun k_ => some k_ ≠ (.slice Ao27 t845.length co27 : Value).ownBlock) v853 t852) := ⟨h0_⟩; have n1_ : Aside0 (Kd.R (Kd.int .u8) 5 w59 w.heap.size (fun k_ => some k_ ≠ (.slice Ao27 t845.length co27 : Value).ownBlock) v862 t861) := ⟨h1_⟩; have n2_ : Aside0 (Kd.R k95 95 w59 w.heap.size (fun k_ => some k_ ≠ (.slice Ao27 t845.length co27 : Value).ownBlock) v865 t864) := ⟨h2_⟩; have n3_ : Aside0 (Kd.R (Kd.int .u8) 5 w59 w.heap.size (fun k_ => some k_ ≠ (.slice Ao27 t845.length co27 : Value).ownBlock) v868 t867) := ⟨h3_⟩; have n4_ : Aside0 (Kd.R (Kd.int .u8) 5 w59 w.heap.size (fun _ => True) (.slice Ao27 t845.length co27) t845) := ⟨h4_⟩; have n5_ : Aside0 (w59.heap[gb841]? = some (.cells #[.int .i64 a1_0, .string a1_1, .string a1_2, .int .i64 a1_3, .int .u64 a1_4, .int .u64 a1_5, .slice A1_6 l1_6.length c1_6, .slice A1_7 l1_7.length c1_7] 44 (0, 0))) := ⟨h5_⟩; have n6_ : Aside0 (w59.heap[gb871]? = some (.cells #[.int .i64 0, .string (⟨#[]⟩ : ByteArray), .string (⟨#[]⟩ : ByteArray), .int .i64 0, .int .u64 0, .int .u64 0, .slice none 0 0, .slice none 0 0] 44 (0, 0))) := ⟨h6_⟩; have n7_ : Aside0 (w.heap.size ≤ gb871) := ⟨h7_⟩; have n8_ : Aside0 (w.heap.size ≤ gb871) := ⟨h8_⟩; have n9_ : Aside0 (gb841 ≠ gb871) := ⟨h9_⟩; have n10_ : Aside0 (gb871 ≠ gb841) := ⟨h10_⟩; have n11_ : Aside0 (Below w.heap.size w w59) := ⟨h11_⟩; clear HO_7; clear BK841; clear HB; clear h0_ h1_ h2_ h3_ h4_ h5_ h6_ h7_ h8_ h9_ h10_ h11_; have HO854 := n0_
                    have HO863 := n1_; have HO866 := n2_; have HO869 := n3_; have HO_7 := n4_; have BK841 := n5_; have BK871 := n6_; have GW871 := n7_; have GE871 := n8_; have NB841_871 := n9_; have NB871_841 := n10_; have HB := n11_; clear n0_ n1_ n2_ n3_ n4_ n5_ n6_ n7_ n8_ n9_ n10_ n11_; have hHeld : w59.cell? ⟨gb841, 0, none⟩ = some (.int .i64 a1_0) ∧ w59.cell? ⟨gb841, 1, none⟩ = some (.string a1_1) ∧ w59.cell? ⟨gb841, 2, none⟩ = some (.string a1_2) ∧ w59.cell? ⟨gb841, 3, none⟩ = some (.int .i64 a1_3) ∧ w59.cell? ⟨gb841, 4, none⟩ = some (.int .u64 a1_4) ∧ w59.cell? ⟨gb841, 5, none⟩ = some (.int .u64 a1_5) ∧ w59.cell? ⟨gb841, 6, none⟩ = some (.slice A1_6 l1_6.length c1_6) ∧ w59.cell? ⟨gb841, 7, none⟩ = some (.slice A1_7 l1_7.length c1_7) := hS_; obtain ⟨Ao66, co66, eo66⟩ := Kd.R_slice HO863.out
                    (first | subst eo66 | (injection eo66 with f1_ f2_ f3_; have f4_ := f1_.symm; have f5_ := f3_.symm; clear f1_ f2_ f3_; subst f4_; subst f5_))
                    obtain ⟨Ao68, co68, eo68⟩ := Kd.R_slice HO866.out
                    (first | subst eo68 | (injection eo68 with f1_ f2_ f3_; have f4_ := f1_.symm; have f5_ := f3_.symm; clear f1_ f2_ f3_; subst f4_; subst f5_))
                    refine norm_ (a' := ?_) ?_ ?_
                    rotate_left
                    · simp only [putAll, Act.put, List.setIfInBounds_toArray, List.set_cons_zero, List.set_cons_succ, errW_none]
                      rfl
                    refine one_ (i := 12) (N := none) #[tt,tt,tt,tt,tt,tt,tt,tt,tt,tt,tt,tt,tt,ff,ff] rfl rfl (one_of HT_.out (by kernel_rfl)) (by decide) (fun K hK => ?_)
                    have hs60 : w59.cell? ⟨gb871, 0, none⟩ = some (.int .i64 0) := (blk_cell BK871.out 0).trans rfl; have hfs60 := blk_frozen BK871.out 0; have hns60_0 := NB841_871.out; have hms60_0 := NB871_841.out; have hs61 : w59.cell? ⟨gb871, 1, none⟩ = some (.string (⟨#[]⟩ : ByteArray)) := (blk_cell BK871.out 1).trans rfl; have hfs61 := blk_frozen BK871.out 1; have hns61_0 := NB841_871.out; have hms61_0 := NB871_841.out; have hs62 : w59.cell? ⟨gb871, 2, none⟩ = some (.string (⟨#[]⟩ : ByteArray)) := (blk_cell BK871.out 2).trans rfl; have hfs62 := blk_frozen BK871.out 2; have hns62_0 := NB841_871.out; have hms62_0 := NB871_841.out; have hs63 : w59.cell? ⟨gb871, 3, none⟩ = some (.int .i64 0) := (blk_cell BK871.out 3).trans rfl; have hfs63 := blk_frozen BK871.out 3; have hns63_0 := NB841_871.out; have hms63_0 := NB871_841.out; have hs64 : w59.cell? ⟨gb871, 4, none⟩ = some (.int .u64 0) := (blk_cell BK871.out 4).trans rfl; have hfs64 := blk_frozen BK871.out 4; have hns64_0 := NB841_871.out; have hms64_0 := NB871_841.out; have hs65 : w59.cell? ⟨gb871, 5, none⟩ = some (.int .u64 0) := (blk_cell BK871.out 5).trans rfl; have hfs65 := blk_frozen BK871.out 5; have hns65_0 := NB841_871.out; have hms65_0 := NB871_841.out; have hs67 : w59.cell? ⟨gb871, 6, none⟩ = some (.slice none 0 0) := (blk_cell BK871.out 6).trans rfl; have hfs67 := blk_frozen BK871.out 6; have hns67_0 := NB841_871.out; have hms67_0 := NB871_841.out
                    have hs69 : w59.cell? ⟨gb871, 7, none⟩ = some (.slice none 0 0) := (blk_cell BK871.out 7).trans rfl; have hfs69 := blk_frozen BK871.out 7; have hns69_0 := NB841_871.out; have hms69_0 := NB871_841.out
                    refine skip_ (w1 := ?_) (by rfl) rfl ?_ ?_
                    rotate_left
                    · go_simp
                      rfl
                    refine hK.out _ _ ⟨((cell_far (p := ⟨gb871, _, none⟩) NB841_871.out _).trans (((cell_far (p := ⟨gb871, _, none⟩) NB841_871.out _).trans (((cell_far (p := ⟨gb871, _, none⟩) NB841_871.out _).trans (((cell_far (p := ⟨gb871, _, none⟩) NB841_871.out _).trans (((cell_far (p := ⟨gb871, _, none⟩) NB841_871.out _).trans (((cell_far (p := ⟨gb871, _, none⟩) NB841_871.out _).trans (((cell_far (p := ⟨gb871, _, none⟩) NB841_871.out _).trans (((cell_far (p := ⟨gb871, _, none⟩) NB841_871.out _).trans (hHeld.1)))))))))))))))), ((cell_far (p := ⟨gb871, _, none⟩) NB841_871.out _).trans (((cell_far (p := ⟨gb871, _, none⟩) NB841_871.out _).trans (((cell_far (p := ⟨gb871, _, none⟩) NB841_871.out _).trans (((cell_far (p := ⟨gb871, _, none⟩) NB841_871.out _).trans (((cell_far (p := ⟨gb871, _, none⟩) NB841_871.out _).trans (((cell_far (p := ⟨gb871, _, none⟩) NB841_871.out _).trans (((cell_far (p := ⟨gb871, _, none⟩) NB841_871.out _).trans (((cell_far (p := ⟨gb871, _, none⟩) NB841_871.out _).trans (hHeld.2.1)))))))))))))))), ((cell_far (p := ⟨gb871, _, none⟩) NB841_871.out _).trans (((cell_far (p := ⟨gb871, _, none⟩) NB841_871.out _).trans (((cell_far (p := ⟨gb871, _, none⟩) NB841_871.out _).trans (((cell_far (p := ⟨gb871, _, none⟩) NB841_871.out _).trans (((cell_far (p := ⟨gb871, _, none⟩) NB841_871.out _).trans (((cell_far (p := ⟨gb871, _, none⟩) NB841_871.out _).trans (((cell_far (p := ⟨gb871, _, none⟩) NB841_871.out _).trans (((cell_far (p := ⟨gb871, _, none⟩) NB841_871.out _).trans (hHeld.2.2.1)))))))))))))))), ((cell_far (p := ⟨gb871, _, none⟩) NB841_871.out _).trans (((cell_far (p := ⟨gb871, _, none⟩) NB841_871.out _).trans (((cell_far (p := ⟨gb871, _, none⟩) NB841_871.out _).trans (((cell_far (p := ⟨gb871, _, none⟩) NB841_871.out _).trans (((cell_far (p := ⟨gb871, _, none⟩) NB841_871.out _).trans (((cell_far (p := ⟨gb871, _, none⟩) NB841_871.out _).trans (((cell_far (p := ⟨gb871, _, none⟩) NB841_871.out _).trans (((cell_far (p := ⟨gb871, _, none⟩) NB841_871.out _).trans (hHeld.2.2.2.1)))))))))))))))), ((cell_far (p := ⟨gb871, _, none⟩) NB841_871.out _).trans (((cell_far (p := ⟨gb871, _, none⟩) NB841_871.out _).trans (((cell_far (p := ⟨gb871, _, none⟩) NB841_871.out _).trans (((cell_far (p := ⟨gb871, _, none⟩) NB841_871.out _).trans (((cell_far (p := ⟨gb871, _, none⟩) NB841_871.out _).trans (((cell_far (p := ⟨gb871, _, none⟩) NB841_871.out _).trans (((cell_far (p := ⟨gb871, _, none⟩) NB841_871.out _).trans (((cell_far (p := ⟨gb871, _, none⟩) NB841_871.out _).trans (hHeld.2.2.2.2.1)))))))))))))))), ((cell_far (p := ⟨gb871, _, none⟩) NB841_871.out _).trans (((cell_far (p := ⟨gb871, _, none⟩) NB841_871.out _).trans (((cell_far (p := ⟨gb871, _, none⟩) NB841_871.out _).trans (((cell_far (p := ⟨gb871, _, none⟩) NB841_871.out _).trans (((cell_far (p := ⟨gb871, _, none⟩) NB841_871.out _).trans (((cell_far (p := ⟨gb871, _, none⟩) NB841_871.out _).trans (((cell_far (p := ⟨gb871, _, none⟩) NB841_871.out _).trans (((cell_far (p := ⟨gb871, _, none⟩) NB841_871.out _).trans (hHeld.2.2.2.2.2.1)))))))))))))))), ((cell_far (p := ⟨gb871, _, none⟩) NB841_871.out _).trans (((cell_far (p := ⟨gb871, _, none⟩) NB841_871.out _).trans (((cell_far (p := ⟨gb871, _, none⟩) NB841_871.out _).trans (((cell_far (p := ⟨gb871, _, none⟩) NB841_871.out _).trans (((cell_far (p := ⟨gb871, _, none⟩) NB841_871.out _).trans (((cell_far (p := ⟨gb871, _, none⟩) NB841_871.out _).trans (((cell_far (p := ⟨gb871, _, none⟩) NB841_871.out _).trans (((cell_far (p := ⟨gb871, _, none⟩) NB841_871.out _).trans (hHeld.2.2.2.2.2.2.1)))))))))))))))), ((cell_far (p := ⟨gb871, _, none⟩) NB841_871.out _).trans (((cell_far (p := ⟨gb871, _, none⟩) NB841_871.out _).trans (((cell_far (p := ⟨gb871, _, none⟩) NB841_871.out _).trans (((cell_far (p := ⟨gb871, _, none⟩) NB841_871.out _).trans (((cell_far (p := ⟨gb871, _, none⟩) NB841_871.out _).trans (((cell_far (p := ⟨gb871, _, none⟩) NB841_871.out _).trans (((cell_far (p := ⟨gb871, _, none⟩) NB841_871.out _).trans (((cell_far (p := ⟨gb871, _, none⟩) NB841_871.out _).trans (hHeld.2.2.2.2.2.2.2))))))))))))))))⟩ (fun hHeld => ?_)
                    clear hK K
                    refine HW.pz (i := 13) (N := some 9) #[tt,tt,tt,tt,tt,tt,tt,tt,tt,tt,tt,tt,tt,tt,ff] ?_ (hc := any_of HT_.out (by kernel_rfl))
                    refine HW.pz (i := 14) (N := some 10) #[tt,tt,tt,tt,tt,tt,tt,tt,tt,tt,tt,tt,tt,tt,tt] ?_ (hc := any_of HT_.out (by kernel_rfl))
                    refine done_ (done_of HT_.out (by kernel_rfl)) ?_
                    try go_wp2
                    have n0_ : Aside0 (Kd.R (Kd.int .u8) 5 ((((((((w59.setCell ⟨gb871, 0, none⟩ (.int .i64 t855)).setCell ⟨gb871, 1, none⟩ (.string t856)).setCell ⟨gb871, 2, none⟩ (.string t857)).setCell ⟨gb871, 3, none⟩ (.int .i64 t858)).setCell ⟨gb871, 4, none⟩ (.int .u64 t859)).setCell ⟨gb871, 5, none⟩ (.int .u64 t860)).setCell ⟨gb871, 6, none⟩ (.slice Ao66 t861.length co66)).setCell ⟨gb871, 7, none⟩ (.slice Ao68 t864.length co68)) w.heap.size (fun _ => True) (.slice Ao27 t845.length co27) t845) := ⟨by (with_reducible repeat (first | apply Kd.R_alloc | apply Kd.R_drewN | apply Kd.R_drew)); exact Kd.R_mono (Kd.R_far (p := ⟨gb871, 7, none⟩) (Kd.R_far (p := ⟨gb871, 6, none⟩) (Kd.R_far (p := ⟨gb871, 5, none⟩) (Kd.R_far (p := ⟨gb871, 4, none⟩) (Kd.R_far (p := ⟨gb871, 3, none⟩) (Kd.R_far (p := ⟨gb871, 2, none⟩) (Kd.R_far (p := ⟨gb871, 1, none⟩) (Kd.R_far (p := ⟨gb871, 0, none⟩) (Kd.R_types HO_7.out BK871.out (by decide)) (fun _ hk => hk.2) (.int .i64 t855)) (fun _ hk => hk.2) (.string t856)) (fun _ hk => hk.2) (.string t857)) (fun _ hk => hk.2) (.int .i64 t858)) (fun _ hk => hk.2) (.int .u64 t859)) (fun _ hk => hk.2) (.int .u64 t860)) (fun _ hk => hk.2) (.slice Ao66 t861.length co66)) (fun _ hk => hk.2) (.slice Ao68 t864.length co68)) (fun _ hk => trivial)⟩
                    have n1_ : Aside0 (Kd.R (Kd.int .u8) 5 ((((((((w59.setCell ⟨gb871, 0, none⟩ (.int .i64 t855)).setCell ⟨gb871, 1, none⟩ (.string t856)).setCell ⟨gb871, 2, none⟩ (.string t857)).setCell ⟨gb871, 3, none⟩ (.int .i64 t858)).setCell ⟨gb871, 4, none⟩ (.int .u64 t859)).setCell ⟨gb871, 5, none⟩ (.int .u64 t860)).setCell ⟨gb871, 6, none⟩ (.slice Ao66 t861.length co66)).setCell ⟨gb871, 7, none⟩ (.slice Ao68 t864.length co68)) w.heap.size (fun k_ => some k_ ≠ (.slice Ao27 t845.length co27 : Value).ownBlock) v853 t852) := ⟨by (with_reducible repeat (first | apply Kd.R_alloc | apply Kd.R_drewN | apply Kd.R_drew)); exact Kd.R_mono (Kd.R_far (p := ⟨gb871, 7, none⟩) (Kd.R_far (p := ⟨gb871, 6, none⟩) (Kd.R_far (p := ⟨gb871, 5, none⟩) (Kd.R_far (p := ⟨gb871, 4, none⟩) (Kd.R_far (p := ⟨gb871, 3, none⟩) (Kd.R_far (p := ⟨gb871, 2, none⟩) (Kd.R_far (p := ⟨gb871, 1, none⟩) (Kd.R_far (p := ⟨gb871, 0, none⟩) (Kd.R_types HO854.out BK871.out (by decide)) (fun _ hk => hk.2) (.int .i64 t855)) (fun _ hk => hk.2) (.string t856)) (fun _ hk => hk.2) (.string t857)) (fun _ hk => hk.2) (.int .i64 t858)) (fun _ hk => hk.2) (.int .u64 t859)) (fun _ hk => hk.2) (.int .u64 t860)) (fun _ hk => hk.2) (.slice Ao66 t861.length co66)) (fun _ hk => hk.2) (.slice Ao68 t864.length co68)) (fun _ hk => hk.1)⟩
                    have n2_ : Aside0 (Kd.R (Kd.int .u8) 5 ((((((((w59.setCell ⟨gb871, 0, none⟩ (.int .i64 t855)).setCell ⟨gb871, 1, none⟩ (.string t856)).setCell ⟨gb871, 2, none⟩ (.string t857)).setCell ⟨gb871, 3, none⟩ (.int .i64 t858)).setCell ⟨gb871, 4, none⟩ (.int .u64 t859)).setCell ⟨gb871, 5, none⟩ (.int .u64 t860)).setCell ⟨gb871, 6, none⟩ (.slice Ao66 t861.length co66)).setCell ⟨gb871, 7, none⟩ (.slice Ao68 t864.length co68)) w.heap.size (fun k_ => some k_ ≠ (.slice Ao27 t845.length co27 : Value).ownBlock) (.slice Ao66 t861.length co66) t861) := ⟨by (with_reducible repeat (first | apply Kd.R_alloc | apply Kd.R_drewN | apply Kd.R_drew)); exact Kd.R_mono (Kd.R_far (p := ⟨gb871, 7, none⟩) (Kd.R_far (p := ⟨gb871, 6, none⟩) (Kd.R_far (p := ⟨gb871, 5, none⟩) (Kd.R_far (p := ⟨gb871, 4, none⟩) (Kd.R_far (p := ⟨gb871, 3, none⟩) (Kd.R_far (p := ⟨gb871, 2, none⟩) (Kd.R_far (p := ⟨gb871, 1, none⟩) (Kd.R_far (p := ⟨gb871, 0, none⟩) (Kd.R_types HO863.out BK871.out (by decide)) (fun _ hk => hk.2) (.int .i64 t855)) (fun _ hk => hk.2) (.string t856)) (fun _ hk => hk.2) (.string t857)) (fun _ hk => hk.2) (.int .i64 t858)) (fun _ hk => hk.2) (.int .u64 t859)) (fun _ hk => hk.2) (.int .u64 t860)) (fun _ hk => hk.2) (.slice Ao66 t861.length co66)) (fun _ hk => hk.2) (.slice Ao68 t864.length co68)) (fun _ hk => hk.1)⟩
                    have n3_ : Aside0 (Kd.R k95 95 ((((((((w59.setCell ⟨gb871, 0, none⟩ (.int .i64 t855)).setCell ⟨gb871, 1, none⟩ (.string t856)).setCell ⟨gb871, 2, none⟩ (.string t857)).setCell ⟨gb871, 3, none⟩ (.int .i64 t858)).setCell ⟨gb871, 4, none⟩ (.int .u64 t859)).setCell ⟨gb871, 5, none⟩ (.int .u64 t860)).setCell ⟨gb871, 6, none⟩ (.slice Ao66 t861.length co66)).setCell ⟨gb871, 7, none⟩ (.slice Ao68 t864.length co68)) w.heap.size (fun k_ => some k_ ≠ (.slice Ao27 t845.length co27 : Value).ownBlock) (.slice Ao68 t864.length co68) t864) := ⟨by (with_reducible repeat (first | apply Kd.R_alloc | apply Kd.R_drewN | apply Kd.R_drew)); exact Kd.R_mono (Kd.R_far (p := ⟨gb871, 7, none⟩) (Kd.R_far (p := ⟨gb871, 6, none⟩) (Kd.R_far (p := ⟨gb871, 5, none⟩) (Kd.R_far (p := ⟨gb871, 4, none⟩) (Kd.R_far (p := ⟨gb871, 3, none⟩) (Kd.R_far (p := ⟨gb871, 2, none⟩) (Kd.R_far (p := ⟨gb871, 1, none⟩) (Kd.R_far (p := ⟨gb871, 0, none⟩) (Kd.R_types HO866.out BK871.out (by decide)) (fun _ hk => hk.2) (.int .i64 t855)) (fun _ hk => hk.2) (.string t856)) (fun _ hk => hk.2) (.string t857)) (fun _ hk => hk.2) (.int .i64 t858)) (fun _ hk => hk.2) (.int .u64 t859)) (fun _ hk => hk.2) (.int .u64 t860)) (fun _ hk => hk.2) (.slice Ao66 t861.length co66)) (fun _ hk => hk.2) (.slice Ao68 t864.length co68)) (fun _ hk => hk.1)⟩
                    have n4_ : Aside0 (Kd.R (Kd.int .u8) 5 ((((((((w59.setCell ⟨gb871, 0, none⟩ (.int .i64 t855)).setCell ⟨gb871, 1, none⟩ (.string t856)).setCell ⟨gb871, 2, none⟩ (.string t857)).setCell ⟨gb871, 3, none⟩ (.int .i64 t858)).setCell ⟨gb871, 4, none⟩ (.int .u64 t859)).setCell ⟨gb871, 5, none⟩ (.int .u64 t860)).setCell ⟨gb871, 6, none⟩ (.slice Ao66 t861.length co66)).setCell ⟨gb871, 7, none⟩ (.slice Ao68 t864.length co68)) w.heap.size (fun k_ => some k_ ≠ (.slice Ao27 t845.length co27 : Value).ownBlock) v868 t867) := ⟨by (with_reducible repeat (first | apply Kd.R_alloc | apply Kd.R_drewN | apply Kd.R_drew)); exact Kd.R_mono (Kd.R_far (p := ⟨gb871, 7, none⟩) (Kd.R_far (p := ⟨gb871, 6, none⟩) (Kd.R_far (p := ⟨gb871, 5, none⟩) (Kd.R_far (p := ⟨gb871, 4, none⟩) (Kd.R_far (p := ⟨gb871, 3, none⟩) (Kd.R_far (p := ⟨gb871, 2, none⟩) (Kd.R_far (p := ⟨gb871, 1, none⟩) (Kd.R_far (p := ⟨gb871, 0, none⟩) (Kd.R_types HO869.out BK871.out (by decide)) (fun _ hk => hk.2) (.int .i64 t855)) (fun _ hk => hk.2) (.string t856)) (fun _ hk => hk.2) (.string t857)) (fun _ hk => hk.2) (.int .i64 t858)) (fun _ hk => hk.2) (.int .u64 t859)) (fun _ hk => hk.2) (.int .u64 t860)) (fun _ hk => hk.2) (.slice Ao66 t861.length co66)) (fun _ hk => hk.2) (.slice Ao68 t864.length co68)) (fun _ hk => hk.1)⟩
                    have n5_ : Aside0 (((((((((w59.setCell ⟨gb871, 0, none⟩ (.int .i64 t855)).setCell ⟨gb871, 1, none⟩ (.string t856)).setCell ⟨gb871, 2, none⟩ (.string t857)).setCell ⟨gb871, 3, none⟩ (.int .i64 t858)).setCell ⟨gb871, 4, none⟩ (.int .u64 t859)).setCell ⟨gb871, 5, none⟩ (.int .u64 t860)).setCell ⟨gb871, 6, none⟩ (.slice Ao66 t861.length co66)).setCell ⟨gb871, 7, none⟩ (.slice Ao68 t864.length co68)).heap[gb841]? = some (.cells #[.int .i64 a1_0, .string a1_1, .string a1_2, .int .i64 a1_3, .int .u64 a1_4, .int .u64 a1_5, .slice A1_6 l1_6.length c1_6, .slice A1_7 l1_7.length c1_7] 44 (0, 0))) := ⟨by (with_reducible repeat (first | refine blk_drewN ?_ _ | refine blk_drew ?_ | refine blk_alloc ?_ _)); refine blk_far ?_ NB841_871.out _; (with_reducible repeat (first | refine blk_drewN ?_ _ | refine blk_drew ?_ | refine blk_alloc ?_ _)); refine blk_far ?_ NB841_871.out _; (with_reducible repeat (first | refine blk_drewN ?_ _ | refine blk_drew ?_ | refine blk_alloc ?_ _)); refine blk_far ?_ NB841_871.out _; (with_reducible repeat (first | refine blk_drewN ?_ _ | refine blk_drew ?_ | refine blk_alloc ?_ _)); refine blk_far ?_ NB841_871.out _; (with_reducible repeat (first | refine blk_drewN ?_ _ | refine blk_drew ?_ | refine blk_alloc ?_ _)); refine blk_far ?_ NB841_871.out _; (with_reducible repeat (first | refine blk_drewN ?_ _ | refine blk_drew ?_ | refine blk_alloc ?_ _)); refine blk_far ?_ NB841_871.out _; (with_reducible repeat (first | refine blk_drewN ?_ _ | refine blk_drew ?_ | refine blk_alloc ?_ _)); refine blk_far ?_ NB841_871.out _; (with_reducible repeat (first | refine blk_drewN ?_ _ | refine blk_drew ?_ | refine blk_alloc ?_ _)); refine blk_far ?_ NB841_871.out _; (with_reducible repeat (first | refine blk_drewN ?_ _ | refine blk_drew ?_ | refine blk_alloc ?_ _)); exact BK841.out⟩
                    have n6_ : Aside0 (((((((((w59.setCell ⟨gb871, 0, none⟩ (.int .i64 t855)).setCell ⟨gb871, 1, none⟩ (.string t856)).setCell ⟨gb871, 2, none⟩ (.string t857)).setCell ⟨gb871, 3, none⟩ (.int .i64 t858)).setCell ⟨gb871, 4, none⟩ (.int .u64 t859)).setCell ⟨gb871, 5, none⟩ (.int .u64 t860)).setCell ⟨gb871, 6, none⟩ (.slice Ao66 t861.length co66)).setCell ⟨gb871, 7, none⟩ (.slice Ao68 t864.length co68)).heap[gb871]? = some (.cells #[.int .i64 t855, .string t856, .string t857, .int .i64 t858, .int .u64 t859, .int .u64 t860, .slice Ao66 t861.length co66, .slice Ao68 t864.length co68] 44 (0, 0))) := ⟨by (with_reducible repeat (first | refine blk_drewN ?_ _ | refine blk_drew ?_ | refine blk_alloc ?_ _)); refine blk_put (cs := #[.int .i64 t855, .string t856, .string t857, .int .i64 t858, .int .u64 t859, .int .u64 t860, .slice Ao66 t861.length co66, .slice none 0 0]) ?_ 7 _ rfl; (with_reducible repeat (first | refine blk_drewN ?_ _ | refine blk_drew ?_ | refine blk_alloc ?_ _)); refine blk_put (cs := #[.int .i64 t855, .string t856, .string t857, .int .i64 t858, .int .u64 t859, .int .u64 t860, .slice none 0 0, .slice none 0 0]) ?_ 6 _ rfl; (with_reducible repeat (first | refine blk_drewN ?_ _ | refine blk_drew ?_ | refine blk_alloc ?_ _)); refine blk_put (cs := #[.int .i64 t855, .string t856, .string t857, .int .i64 t858, .int .u64 t859, .int .u64 0, .slice none 0 0, .slice none 0 0]) ?_ 5 _ rfl; (with_reducible repeat (first | refine blk_drewN ?_ _ | refine blk_drew ?_ | refine blk_alloc ?_ _)); refine blk_put (cs := #[.int .i64 t855, .string t856, .string t857, .int .i64 t858, .int .u64 0, .int .u64 0, .slice none 0 0, .slice none 0 0]) ?_ 4 _ rfl; (with_reducible repeat (first | refine blk_drewN ?_ _ | refine blk_drew ?_ | refine blk_alloc ?_ _)); refine blk_put (cs := #[.int .i64 t855, .string t856, .string t857, .int .i64 0, .int .u64 0, .int .u64 0, .slice none 0 0, .slice none 0 0]) ?_ 3 _ rfl; (with_reducible repeat (first | refine blk_drewN ?_ _ | refine blk_drew ?_ | refine blk_alloc ?_ _)); refine blk_put (cs := #[.int .i64 t855, .string t856, .string (⟨#[]⟩ : ByteArray), .int .i64 0, .int .u64 0, .int .u64 0, .slice none 0 0, .slice none 0 0]) ?_ 2 _ rfl; (with_reducible repeat (first | refine blk_drewN ?_ _ | refine blk_drew ?_ | refine blk_alloc ?_ _)); refine blk_put (cs := #[.int .i64 t855, .string (⟨#[]⟩ : ByteArray), .string (⟨#[]⟩ : ByteArray), .int .i64 0, .int .u64 0, .int .u64 0, .slice none 0 0, .slice none 0 0]) ?_ 1 _ rfl; (with_reducible repeat (first | refine blk_drewN ?_ _ | refine blk_drew ?_ | refine blk_alloc ?_ _)); refine blk_put (cs := #[.int .i64 0, .string (⟨#[]⟩ : ByteArray), .string (⟨#[]⟩ : ByteArray), .int .i64 0, .int .u64 0, .int .u64 0, .slice none 0 0, .slice none 0 0]) ?_ 0 _ rfl; (with_reducible repeat (first | refine blk_drewN ?_ _ | refine blk_drew ?_ | refine blk_alloc ?_ _)); exact BK871.out⟩
                    have n7_ : Aside0 (Below w.heap.size w ((((((((w59.setCell ⟨gb871, 0, none⟩ (.int .i64 t855)).setCell ⟨gb871, 1, none⟩ (.string t856)).setCell ⟨gb871, 2, none⟩ (.string t857)).setCell ⟨gb871, 3, none⟩ (.int .i64 t858)).setCell ⟨gb871, 4, none⟩ (.int .u64 t859)).setCell ⟨gb871, 5, none⟩ (.int .u64 t860)).setCell ⟨gb871, 6, none⟩ (.slice Ao66 t861.length co66)).setCell ⟨gb871, 7, none⟩ (.slice Ao68 t864.length co68))) := ⟨HW.zb⟩
                    (try clear HO_7)
                    (try clear HO854)
                    (try clear HO863)
                    (try clear HO866)
                    (try clear HO869)
                    (try clear BK841)
                    (try clear BK871)
                    (try clear HB)
                    generalize ((((((((w59.setCell ⟨gb871, 0, none⟩ (.int .i64 t855)).setCell ⟨gb871, 1, none⟩ (.string t856)).setCell ⟨gb871, 2, none⟩ (.string t857)).setCell ⟨gb871, 3, none⟩ (.int .i64 t858)).setCell ⟨gb871, 4, none⟩ (.int .u64 t859)).setCell ⟨gb871, 5, none⟩ (.int .u64 t860)).setCell ⟨gb871, 6, none⟩ (.slice Ao66 t861.length co66)).setCell ⟨gb871, 7, none⟩ (.slice Ao68 t864.length co68)) = w70 at n0_ n1_ n2_ n3_ n4_ n5_ n6_ n7_ ⊢; have HO_7 := n0_; have HO854 := n1_; have HO863 := n2_; have HO866 := n3_; have HO869 := n4_; have BK841 := n5_; have BK871 := n6_; have HB := n7_; clear n0_ n1_ n2_ n3_ n4_ n5_ n6_ n7_; replace HO_7 := Aside0.mk (Kd.R_drew HO_7.out); replace HO854 := Aside0.mk (Kd.R_drew HO854.out); replace HO863 := Aside0.mk (Kd.R_drew HO863.out); replace HO866 := Aside0.mk (Kd.R_drew HO866.out); replace HO869 := Aside0.mk (Kd.R_drew HO869.out); replace BK841 := Aside0.mk (blk_drew BK841.out); replace BK871 := Aside0.mk (blk_drew BK871.out); replace HB := Aside0.mk (below_drew1 HB.out)
                    have q72 : (x2_28 : Int) ≤ ((t845.length : Int) : Int) := HW.od
                    obtain ⟨i072, hi072, _, hsz72, _⟩ := info_parts info5; have hroom72 : t845.length ≤ co27 := (Kd.R_reads' HO_7.out).2.1; have hC72 : Kd.C (Kd.int .u8) _ Ao27 t845.length t845 := (Kd.R_reads' HO_7.out).2.2
                    (try clear hcut54)
                    have hcut72 := cut_to (P := Tryz.prog) 22 5 .i64 Tryz.underlying22 hi072 Ao27 t845.length co27 x2_28 (HW.od) q72 hroom72
                    have hr72 := Kd.C_take (m := (x2_28 : Int).toNat) hC72 (by omega)
                    have hy72 : y872.length = (x2_28 : Int).toNat := (by rw [Ny872.out, List.length_take]; omega)
                    rw [← Ny872.out] at hr72; rw [← hy72] at hcut72; have HR875 := Aside0.mk hr72
                    have HC875 := Aside0.mk (show y872.length ≤ co27 from by omega)
                    clear hr72 hC72 hroom72 hi072 hsz72; have KY72 := Aside0.mk hy72; clear hy72
                    have KL72 := Aside0.mk (show (x2_28 : Int).toNat ≤ t845.length from by omega)
                    replace q72 := eq_true q72
                    refine start_ (n := 15) (S := fun w' => w'.cell? ⟨gb841, 0, none⟩ = some (.int .i64 a1_0) ∧ w'.cell? ⟨gb841, 1, none⟩ = some (.string a1_1) ∧ w'.cell? ⟨gb841, 2, none⟩ = some (.string a1_2) ∧ w'.cell? ⟨gb841, 3, none⟩ = some (.int .i64 a1_3) ∧ w'.cell? ⟨gb841, 4, none⟩ = some (.int .u64 a1_4) ∧ w'.cell? ⟨gb841, 5, none⟩ = some (.int .u64 a1_5) ∧ w'.cell? ⟨gb841, 6, none⟩ = some (.slice A1_6 l1_6.length c1_6) ∧ w'.cell? ⟨gb841, 7, none⟩ = some (.slice A1_7 l1_7.length c1_7)) (ds := []) #[ff,ff,ff,ff,ff,ff,ff,ff,ff,ff,ff,ff,ff,ff,ff] (by kernel_rfl) rfl rfl (HW.k8 BK841.out) (fun hHeld => ?_); refine with_tabW laws_FnDocShort.tab11 laws_FnDocShort.bits11 (fun HT_ HW_ => ?_)
                    generalize w70.drew = w71 at HO_7 HO854 HO863 HO866 HO869 BK841 BK871 HB HR875 hHeld ⊢
                    refine HW.pz (i := 0) (N := some 66) #[tt,ff,ff,ff,ff,ff,ff,ff,ff,ff,ff,ff,ff,ff,ff] ?_ (hc := any_of HT_.out (by kernel_rfl))
                    refine HW.pz (i := 2) (N := some 68) #[tt,ff,tt,ff,ff,ff,ff,ff,ff,ff,ff,ff,ff,ff,ff] ?_ (hc := any_of HT_.out (by kernel_rfl))
                    refine HW.pz (i := 3) (N := some 69) #[tt,ff,tt,tt,ff,ff,ff,ff,ff,ff,ff,ff,ff,ff,ff] ?_ (hc := any_of HT_.out (by kernel_rfl))
                    refine HW.pz (i := 4) (N := some 70) #[tt,ff,tt,tt,tt,ff,ff,ff,ff,ff,ff,ff,ff,ff,ff] ?_ (hc := any_of HT_.out (by kernel_rfl))
                    refine take_ (i := 1) (N := some 67) (v := ?_) (a' := ?_) #[tt,tt,tt,tt,tt,ff,ff,ff,ff,ff,ff,ff,ff,ff,ff] rfl rfl (take_ofW HT_.out HW_.out (by kernel_rfl)) (fun _ _ _ h => h) (Or.inl ⟨by rfl, ?_⟩) hHeld ?_ ?_
                    rotate_left
                    · rintro w' ⟨s0, s1, s2, s3, s4, s5, s6, s7⟩
                      go_simp
                      with_reducible rfl
                    rotate_left
                    · exact HW.pt
                    refine join_ (σ := Value × Value × Value × Nat) 3 #[tt,tt,tt,tt,tt,tt,tt,tt,tt,tt,tt,tt,ff,ff,ff] (fun s_ => [(71, s_.1), (72, .tuple #[.agg #[.int .i64 t879, s_.2.1], s_.2.2.1, .bool false]), (11, .pointer (some ⟨s_.2.2.2, 0, none⟩)), (65, .tuple #[.agg #[.int .i64 t879, s_.2.1], s_.2.2.1, .bool false]), (73, .agg #[.int .i64 t879, s_.2.1]), (74, s_.2.2.1), (75, .bool false)]) (fun s_ w' => (w'.cell? ⟨gb841, 0, none⟩ = some (.int .i64 a1_0) ∧ w'.cell? ⟨gb841, 1, none⟩ = some (.string a1_1) ∧ w'.cell? ⟨gb841, 2, none⟩ = some (.string a1_2) ∧ w'.cell? ⟨gb841, 3, none⟩ = some (.int .i64 a1_3) ∧ w'.cell? ⟨gb841, 4, none⟩ = some (.int .u64 a1_4) ∧ w'.cell? ⟨gb841, 5, none⟩ = some (.int .u64 a1_5) ∧ w'.cell? ⟨gb841, 6, none⟩ = some (.slice A1_6 l1_6.length c1_6) ∧ w'.cell? ⟨gb841, 7, none⟩ = some (.slice A1_7 l1_7.length c1_7)) ∧ (Kd.R (Kd.int .u8) 5 w' w.heap.size (fun k_ => some k_ ≠ (.slice Ao27 t845.length co27 : Value).ownBlock) v853 t852) ∧ (Kd.R (Kd.int .u8) 5 w' w.heap.size (fun k_ => some k_ ≠ (.slice Ao27 t845.length co27 : Value).ownBlock) (.slice Ao66 t861.length co66) t861) ∧ (Kd.R k95 95 w' w.heap.size (fun k_ => some k_ ≠ (.slice Ao27 t845.length co27 : Value).ownBlock) (.slice Ao68 t864.length co68) t864) ∧ (Kd.R (Kd.int .u8) 5 w' w.heap.size (fun k_ => some k_ ≠ (.slice Ao27 t845.length co27 : Value).ownBlock) v868 t867) ∧ (Kd.R (Kd.int .u8) 5 w' w.heap.size (fun k_ => some k_ ≠ (.slice Ao27 t845.length co27 : Value).ownBlock) s_.1 t876) ∧ (Kd.R (Kd.int .u8) 5 w' w.heap.size (fun k_ => some k_ ≠ (.slice Ao27 t845.length co27 : Value).ownBlock) s_.2.1 t880) ∧ (Kd.R (Kd.int .u8) 5 w' w.heap.size (fun k_ => some k_ ≠ (.slice Ao27 t845.length co27 : Value).ownBlock) s_.2.2.1 t883) ∧ (Kd.R (Kd.int .u8) 5 w' w.heap.size (fun _ => True) (.slice Ao27 t845.length co27) t845) ∧ (w'.heap[gb841]? = some (.cells #[.int .i64 a1_0, .string a1_1, .string a1_2, .int .i64 a1_3, .int .u64 a1_4, .int .u64 a1_5, .slice A1_6 l1_6.length c1_6, .slice A1_7 l1_7.length c1_7] 44 (0, 0))) ∧ (w'.heap[gb871]? = some (.cells #[.int .i64 t855, .string t856, .string t857, .int .i64 t858, .int .u64 t859, .int .u64 t860, .slice Ao66 t861.length co66, .slice Ao68 t864.length co68] 44 (0, 0))) ∧ (w'.heap[s_.2.2.2]? = some (.cells #[.int .i64 0, .slice none 0 0] 38 (0, 0))) ∧ (w.heap.size ≤ s_.2.2.2) ∧ (w.heap.size ≤ s_.2.2.2) ∧ (gb841 ≠ s_.2.2.2) ∧ (s_.2.2.2 ≠ gb841) ∧ (gb871 ≠ s_.2.2.2) ∧ (s_.2.2.2 ≠ gb871) ∧ (Below w.heap.size w w')) ?_ ?_
                    rotate_left
                    · intro hCont
                      refine two_ (i := 5) (j := 11) (Ni := some 71) (Nj := some 11) #[tt,tt,tt,tt,tt,tt,ff,ff,ff,ff,ff,ff,ff,ff,ff] #[tt,tt,tt,tt,tt,ff,ff,ff,ff,ff,ff,tt,ff,ff,ff] rfl rfl rfl rfl (two_of HT_.out (by kernel_rfl)) (by decide) (by decide) (fun K hK => ?_) (fun K hK => ?_)
                      · skip
                        refine goes_ Tryz.func11 (by kernel_rfl) rfl #[.slice Ao27 y872.length co27] (by rfl) rfl rfl HW.mt ?_
                        with_reducible refine (laws_docCopy.calls _ _ y872 t876 _ ?side1 ?side2 A37.out).mono ?_
                        (case side1 => repeat (first | exact (by repeat (first | (with_reducible exact HR875.out) | (with_reducible refine Kd.C_alloc ?_ _) | (with_reducible refine Kd.C_drewN ?_ _) | (with_reducible refine Kd.C_drew ?_) | exact HR875.out)) | (with_reducible refine Kd.C_alloc ?_ _) | (with_reducible refine Kd.C_drewN ?_ _) | (with_reducible refine Kd.C_drew ?_)))
                        (case side2 => exact HC875.out)
                        rintro e w73 ⟨v877, rfl, ho0, hb⟩
                        refine ⟨_, rfl, ?_⟩
                        have n0_ := Aside0.mk (Kd.R_below (HW.zR HO_7.out) hb); have n1_ := Aside0.mk (Kd.R_below (HW.zR HO854.out) hb); have n2_ := Aside0.mk (Kd.R_below (HW.zR HO863.out) hb); have n3_ := Aside0.mk (Kd.R_below (HW.zR HO866.out) hb); have n4_ := Aside0.mk (Kd.R_below (HW.zR HO869.out) hb); have n5_ := Aside0.mk (Kd.R_lower (Kd.R_new' ho0 (Kd.R_lt (HW.zR HO_7.out))) (below_size HW.zb)); have n6_ := Aside0.mk (blk_below (HW.zB BK841.out) hb); have n7_ := Aside0.mk (blk_below (HW.zB BK871.out) hb)
                        have n8_ := Aside0.mk (Kd.C_below (by repeat (first | (with_reducible exact HR875.out) | (with_reducible refine Kd.C_alloc ?_ _) | (with_reducible refine Kd.C_drewN ?_ _) | (with_reducible refine Kd.C_drew ?_) | exact HR875.out)) hb)
                        have n9_ := Aside0.mk (below_step HW.zb hb); clear HO_7; clear HO854; clear HO863; clear HO866; clear HO869; clear BK841; clear BK871; clear HR875; clear HB; have HO_7 := n0_; have HO854 := n1_; have HO863 := n2_; have HO866 := n3_; have HO869 := n4_; have HO878 := n5_; have BK841 := n6_; have BK871 := n7_; have HR875 := n8_; have HB := n9_; clear n0_ n1_ n2_ n3_ n4_ n5_ n6_ n7_ n8_ n9_
                        (try clear hb)
                        (try clear ho0)
                        obtain ⟨Ao74, co74, eo74⟩ := Kd.R_slice HO878.out
                        (first | subst eo74 | (injection eo74 with f1_ f2_ f3_; have f4_ := f1_.symm; have f5_ := f3_.symm; clear f1_ f2_ f3_; subst f4_; subst f5_))
                        refine hK.out _ _ (HW.k8 BK841.out) (fun hHeld => ?_)
                        clear hK K
                        refine HW.nz (N := (some 71)) ?_
                        refine two_ (i := 6) (j := 11) (Ni := some 72) (Nj := some 11) #[tt,tt,tt,tt,tt,tt,tt,ff,ff,ff,ff,ff,ff,ff,ff] #[tt,tt,tt,tt,tt,tt,ff,ff,ff,ff,ff,tt,ff,ff,ff] rfl rfl rfl rfl (two_of HT_.out (by kernel_rfl)) (by decide) (by decide) (fun K hK => ?_) (fun K hK => ?_)
                        · skip
                          refine goes_ Tryz.func35 (by kernel_rfl) rfl #[.int .i64 a1_0, .slice Ao74 t876.length co74] (by rfl) rfl rfl HW.mt ?_
                          with_reducible refine (impl_ReadValue.calls kj28 a1_0 _ _ t876 t879 t880 t883 false _ ?side1 ?side2 A38.out).mono ?_
                          (case side1 => repeat (first | exact (Kd.R_reads' HO878.out).2.2 | (with_reducible refine Kd.C_alloc ?_ _) | (with_reducible refine Kd.C_drewN ?_ _) | (with_reducible refine Kd.C_drew ?_)))
                          (case side2 => exact (Kd.R_reads' HO878.out).2.1)
                          rintro e w75 ⟨v881, v884, rfl, ho0, ho1, hb⟩
                          refine ⟨_, rfl, ?_⟩
                          have n0_ := Aside0.mk (Kd.R_below (HW.zR HO_7.out) hb); have n1_ := Aside0.mk (Kd.R_below (HW.zR HO854.out) hb); have n2_ := Aside0.mk (Kd.R_below (HW.zR HO863.out) hb); have n3_ := Aside0.mk (Kd.R_below (HW.zR HO866.out) hb); have n4_ := Aside0.mk (Kd.R_below (HW.zR HO869.out) hb); have n5_ := Aside0.mk (Kd.R_below (HW.zR HO878.out) hb); have n6_ := Aside0.mk (Kd.R_lower (Kd.R_new' ho0 (Kd.R_lt (HW.zR HO_7.out))) (below_size HW.zb)); have n7_ := Aside0.mk (Kd.R_lower (Kd.R_new' ho1 (Kd.R_lt (HW.zR HO_7.out))) (below_size HW.zb)); have n8_ := Aside0.mk (blk_below (HW.zB BK841.out) hb); have n9_ := Aside0.mk (blk_below (HW.zB BK871.out) hb)
                          have n10_ := Aside0.mk (Kd.C_below (by repeat (first | (with_reducible exact HR875.out) | (with_reducible refine Kd.C_alloc ?_ _) | (with_reducible refine Kd.C_drewN ?_ _) | (with_reducible refine Kd.C_drew ?_) | exact HR875.out)) hb)
                          have n11_ := Aside0.mk (below_step HW.zb hb); clear HO_7; clear HO854; clear HO863; clear HO866; clear HO869; clear HO878; clear BK841; clear BK871; clear HR875; clear HB; have HO_7 := n0_; have HO854 := n1_; have HO863 := n2_; have HO866 := n3_; have HO869 := n4_; have HO878 := n5_; have HO882 := n6_; have HO885 := n7_; have BK841 := n8_; have BK871 := n9_; have HR875 := n10_; have HB := n11_; clear n0_ n1_ n2_ n3_ n4_ n5_ n6_ n7_ n8_ n9_ n10_ n11_
                          (try clear hb)
                          (try clear ho0)
                          (try clear ho1)
                          refine hK.out _ _ (HW.k8 BK841.out) (fun hHeld => ?_)
                          clear hK K
                          refine HW.nz (N := (some 72)) ?_
                          refine HW.pz (i := 7) (N := some 65) #[tt,tt,tt,tt,tt,tt,tt,tt,ff,ff,ff,ff,ff,ff,ff] ?_ (hc := any_of HT_.out (by kernel_rfl))
                          refine HW.pz (i := 8) (N := some 73) #[tt,tt,tt,tt,tt,tt,tt,tt,tt,ff,ff,ff,ff,ff,ff] ?_ (hc := any_of HT_.out (by kernel_rfl))
                          refine HW.pz (i := 9) (N := some 74) #[tt,tt,tt,tt,tt,tt,tt,tt,tt,tt,ff,ff,ff,ff,ff] ?_ (hc := any_of HT_.out (by kernel_rfl))
                          refine HW.pz (i := 10) (N := some 75) #[tt,tt,tt,tt,tt,tt,tt,tt,tt,tt,tt,ff,ff,ff,ff] ?_ (hc := any_of HT_.out (by kernel_rfl))
                          refine one_ (i := 11) (N := some 11) #[tt,tt,tt,tt,tt,tt,tt,tt,tt,tt,tt,tt,ff,ff,ff] rfl rfl (one_of HT_.out (by kernel_rfl)) (by decide) (fun K hK => ?_)
                          refine box_step ?hg (N := 11) ?hd (cs := #[.int .i64 0, .slice none 0 0]) (t := 38) ?hr ?_; (case hd => rfl); (case hg => rfl); (case hr => first | (go_simp; done) | (go_simp; rfl))
                          intro gb887 hg w76 hbox hb
                          have n0_ := Aside0.mk (Kd.R_below (HW.zR HO_7.out) hb); have n1_ := Aside0.mk (Kd.R_below (HW.zR HO854.out) hb); have n2_ := Aside0.mk (Kd.R_below (HW.zR HO863.out) hb); have n3_ := Aside0.mk (Kd.R_below (HW.zR HO866.out) hb); have n4_ := Aside0.mk (Kd.R_below (HW.zR HO869.out) hb); have n5_ := Aside0.mk (Kd.R_below (HW.zR HO878.out) hb); have n6_ := Aside0.mk (Kd.R_below (HW.zR HO882.out) hb); have n7_ := Aside0.mk (Kd.R_below (HW.zR HO885.out) hb); have n8_ := Aside0.mk (blk_below (HW.zB BK841.out) hb); have n9_ := Aside0.mk (blk_below (HW.zB BK871.out) hb)
                          have n10_ := Aside0.mk (Kd.C_below (by repeat (first | (with_reducible exact HR875.out) | (with_reducible refine Kd.C_alloc ?_ _) | (with_reducible refine Kd.C_drewN ?_ _) | (with_reducible refine Kd.C_drew ?_) | exact HR875.out)) hb)
                          have n11_ := Aside0.mk (below_step HW.zb hb); have n12_ := Aside0.mk (hbox)
                          have n13_ := Aside0.mk ((by rw [hg]; exact (below_size HW.zb) : w.heap.size ≤ gb887))
                          have n14_ := Aside0.mk ((by rw [hg]; exact (below_size HW.zb) : w.heap.size ≤ gb887))
                          have n15_ := Aside0.mk ((by rw [hg]; exact Nat.ne_of_lt (blk_lt (g := gb841) (o := .cells #[.int .i64 a1_0, .string a1_1, .string a1_2, .int .i64 a1_3, .int .u64 a1_4, .int .u64 a1_5, .slice A1_6 l1_6.length c1_6, .slice A1_7 l1_7.length c1_7] 44 (0, 0)) (HW.zB BK841.out)) : gb841 ≠ gb887))
                          have n16_ := Aside0.mk ((by rw [hg]; exact Nat.ne_of_gt (blk_lt (g := gb841) (o := .cells #[.int .i64 a1_0, .string a1_1, .string a1_2, .int .i64 a1_3, .int .u64 a1_4, .int .u64 a1_5, .slice A1_6 l1_6.length c1_6, .slice A1_7 l1_7.length c1_7] 44 (0, 0)) (HW.zB BK841.out)) : gb887 ≠ gb841))
                          have n17_ := Aside0.mk ((by rw [hg]; exact Nat.ne_of_lt (blk_lt (g := gb871) (o := .cells #[.int .i64 t855, .string t856, .string t857, .int .i64 t858, .int .u64 t859, .int .u64 t860, .slice Ao66 t861.length co66, .slice Ao68 t864.length co68] 44 (0, 0)) (HW.zB BK871.out)) : gb871 ≠ gb887))
                          have n18_ := Aside0.mk ((by rw [hg]; exact Nat.ne_of_gt (blk_lt (g := gb871) (o := .cells #[.int .i64 t855, .string t856, .string t857, .int .i64 t858, .int .u64 t859, .int .u64 t860, .slice Ao66 t861.length co66, .slice Ao68 t864.length co68] 44 (0, 0)) (HW.zB BK871.out)) : gb887 ≠ gb871))
                          clear HO_7; clear HO854; clear HO863; clear HO866; clear HO869; clear HO878; clear HO882; clear HO885; clear BK841; clear BK871; clear HR875; clear HB; have HO_7 := n0_; have HO854 := n1_; have HO863 := n2_; have HO866 := n3_; have HO869 := n4_; have HO878 := n5_; have HO882 := n6_; have HO885 := n7_; have BK841 := n8_; have BK871 := n9_; have HR875 := n10_; have HB := n11_; have BK887 := n12_; have GW887 := n13_; have GE887 := n14_; have NB841_887 := n15_; have NB887_841 := n16_; have NB871_887 := n17_; have NB887_871 := n18_; clear n0_ n1_ n2_ n3_ n4_ n5_ n6_ n7_ n8_ n9_ n10_ n11_ n12_ n13_ n14_ n15_ n16_ n17_ n18_; clear hb hbox hg
                          refine hK.out _ _ (HW.k8 BK841.out) (fun hHeld => ?_)
                          clear hK K
                          refine HW.nz (N := (some 11)) ?_
                          exact norm_ (by simp only [putAll, Act.put, List.setIfInBounds_toArray, List.set_cons_zero, List.set_cons_succ, errW_none]) (hCont (.slice Ao74 t876.length co74, v881, v884, gb887) _ ⟨hHeld, (HW.zR HO854.out), (HW.zR HO863.out), (HW.zR HO866.out), (HW.zR HO869.out), (HW.zR (Kd.R_mono HO878.out (fun _ hk => hk.2))), (HW.zR (Kd.R_mono HO882.out (fun _ hk => hk.2))), (HW.zR (Kd.R_mono HO885.out (fun _ hk => hk.2))), (HW.zR HO_7.out), (HW.zB BK841.out), (HW.zB BK871.out), (HW.zB BK887.out), GW887.out, GE887.out, NB841_887.out, NB887_841.out, NB871_887.out, NB887_871.out, HW.zb⟩)
                        skip
                        refine box_step ?hg (N := 11) ?hd (cs := #[.int .i64 0, .slice none 0 0]) (t := 38) ?hr ?_; (case hd => rfl); (case hg => rfl); (case hr => first | (go_simp; done) | (go_simp; rfl))
                        intro gb887 hg w74 hbox hb
                        have n0_ := Aside0.mk (Kd.R_below (HW.zR HO_7.out) hb); have n1_ := Aside0.mk (Kd.R_below (HW.zR HO854.out) hb); have n2_ := Aside0.mk (Kd.R_below (HW.zR HO863.out) hb); have n3_ := Aside0.mk (Kd.R_below (HW.zR HO866.out) hb); have n4_ := Aside0.mk (Kd.R_below (HW.zR HO869.out) hb); have n5_ := Aside0.mk (Kd.R_below (HW.zR HO878.out) hb); have n6_ := Aside0.mk (blk_below (HW.zB BK841.out) hb); have n7_ := Aside0.mk (blk_below (HW.zB BK871.out) hb)
                        have n8_ := Aside0.mk (Kd.C_below (by repeat (first | (with_reducible exact HR875.out) | (with_reducible refine Kd.C_alloc ?_ _) | (with_reducible refine Kd.C_drewN ?_ _) | (with_reducible refine Kd.C_drew ?_) | exact HR875.out)) hb)
                        have n9_ := Aside0.mk (below_step HW.zb hb); have n10_ := Aside0.mk (hbox)
                        have n11_ := Aside0.mk ((by rw [hg]; exact (below_size HW.zb) : w.heap.size ≤ gb887))
                        have n12_ := Aside0.mk ((by rw [hg]; exact (below_size HW.zb) : w.heap.size ≤ gb887))
                        have n13_ := Aside0.mk ((by rw [hg]; exact Nat.ne_of_lt (blk_lt (g := gb841) (o := .cells #[.int .i64 a1_0, .string a1_1, .string a1_2, .int .i64 a1_3, .int .u64 a1_4, .int .u64 a1_5, .slice A1_6 l1_6.length c1_6, .slice A1_7 l1_7.length c1_7] 44 (0, 0)) (HW.zB BK841.out)) : gb841 ≠ gb887))
                        have n14_ := Aside0.mk ((by rw [hg]; exact Nat.ne_of_gt (blk_lt (g := gb841) (o := .cells #[.int .i64 a1_0, .string a1_1, .string a1_2, .int .i64 a1_3, .int .u64 a1_4, .int .u64 a1_5, .slice A1_6 l1_6.length c1_6, .slice A1_7 l1_7.length c1_7] 44 (0, 0)) (HW.zB BK841.out)) : gb887 ≠ gb841))
                        have n15_ := Aside0.mk ((by rw [hg]; exact Nat.ne_of_lt (blk_lt (g := gb871) (o := .cells #[.int .i64 t855, .string t856, .string t857, .int .i64 t858, .int .u64 t859, .int .u64 t860, .slice Ao66 t861.length co66, .slice Ao68 t864.length co68] 44 (0, 0)) (HW.zB BK871.out)) : gb871 ≠ gb887))
                        have n16_ := Aside0.mk ((by rw [hg]; exact Nat.ne_of_gt (blk_lt (g := gb871) (o := .cells #[.int .i64 t855, .string t856, .string t857, .int .i64 t858, .int .u64 t859, .int .u64 t860, .slice Ao66 t861.length co66, .slice Ao68 t864.length co68] 44 (0, 0)) (HW.zB BK871.out)) : gb887 ≠ gb871))
                        clear HO_7; clear HO854; clear HO863; clear HO866; clear HO869; clear HO878; clear BK841; clear BK871; clear HR875; clear HB; have HO_7 := n0_; have HO854 := n1_; have HO863 := n2_; have HO866 := n3_; have HO869 := n4_; have HO878 := n5_; have BK841 := n6_; have BK871 := n7_; have HR875 := n8_; have HB := n9_; have BK887 := n10_; have GW887 := n11_; have GE887 := n12_; have NB841_887 := n13_; have NB887_841 := n14_; have NB871_887 := n15_; have NB887_871 := n16_; clear n0_ n1_ n2_ n3_ n4_ n5_ n6_ n7_ n8_ n9_ n10_ n11_ n12_ n13_ n14_ n15_ n16_; clear hb hbox hg; obtain ⟨Ao75, co75, eo75⟩ := Kd.R_slice HO878.out
                        (first | subst eo75 | (injection eo75 with f1_ f2_ f3_; have f4_ := f1_.symm; have f5_ := f3_.symm; clear f1_ f2_ f3_; subst f4_; subst f5_))
                        refine hK.out _ _ (HW.k8 BK841.out) (fun hHeld => ?_)
                        clear hK K
                        refine HW.nz (N := (some 11)) ?_
                        refine one_ (i := 6) (N := some 72) #[tt,tt,tt,tt,tt,tt,tt,ff,ff,ff,ff,tt,ff,ff,ff] rfl rfl (one_of HT_.out (by kernel_rfl)) (by decide) (fun K hK => ?_)
                        refine goes_ Tryz.func35 (by kernel_rfl) rfl #[.int .i64 a1_0, .slice Ao75 t876.length co75] (by rfl) rfl rfl HW.mt ?_
                        with_reducible refine (impl_ReadValue.calls kj28 a1_0 _ _ t876 t879 t880 t883 false _ ?side1 ?side2 A38.out).mono ?_
                        (case side1 => repeat (first | exact (Kd.R_reads' HO878.out).2.2 | (with_reducible refine Kd.C_alloc ?_ _) | (with_reducible refine Kd.C_drewN ?_ _) | (with_reducible refine Kd.C_drew ?_)))
                        (case side2 => exact (Kd.R_reads' HO878.out).2.1)
                        rintro e w76 ⟨v881, v884, rfl, ho0, ho1, hb⟩
                        refine ⟨_, rfl, ?_⟩
                        have n0_ := Aside0.mk (Kd.R_below (HW.zR HO_7.out) hb); have n1_ := Aside0.mk (Kd.R_below (HW.zR HO854.out) hb); have n2_ := Aside0.mk (Kd.R_below (HW.zR HO863.out) hb); have n3_ := Aside0.mk (Kd.R_below (HW.zR HO866.out) hb); have n4_ := Aside0.mk (Kd.R_below (HW.zR HO869.out) hb); have n5_ := Aside0.mk (Kd.R_below (HW.zR HO878.out) hb); have n6_ := Aside0.mk (Kd.R_lower (Kd.R_new' ho0 (Kd.R_lt (HW.zR HO_7.out))) (below_size HW.zb)); have n7_ := Aside0.mk (Kd.R_lower (Kd.R_new' ho1 (Kd.R_lt (HW.zR HO_7.out))) (below_size HW.zb)); have n8_ := Aside0.mk (blk_below (HW.zB BK841.out) hb); have n9_ := Aside0.mk (blk_below (HW.zB BK871.out) hb)
                        have n10_ := Aside0.mk (Kd.C_below (by repeat (first | (with_reducible exact HR875.out) | (with_reducible refine Kd.C_alloc ?_ _) | (with_reducible refine Kd.C_drewN ?_ _) | (with_reducible refine Kd.C_drew ?_) | exact HR875.out)) hb)
                        have n11_ := Aside0.mk (blk_below (HW.zB BK887.out) hb); have n12_ := Aside0.mk (below_step HW.zb hb); clear HO_7; clear HO854; clear HO863; clear HO866; clear HO869; clear HO878; clear BK841; clear BK871; clear HR875; clear BK887; clear HB; have HO_7 := n0_; have HO854 := n1_; have HO863 := n2_; have HO866 := n3_; have HO869 := n4_; have HO878 := n5_; have HO882 := n6_; have HO885 := n7_; have BK841 := n8_; have BK871 := n9_; have HR875 := n10_; have BK887 := n11_; have HB := n12_; clear n0_ n1_ n2_ n3_ n4_ n5_ n6_ n7_ n8_ n9_ n10_ n11_ n12_
                        (try clear hb)
                        (try clear ho0)
                        (try clear ho1)
                        refine hK.out _ _ (HW.k8 BK841.out) (fun hHeld => ?_)
                        clear hK K
                        refine HW.nz (N := (some 72)) ?_
                        refine HW.pz (i := 7) (N := some 65) #[tt,tt,tt,tt,tt,tt,tt,tt,ff,ff,ff,tt,ff,ff,ff] ?_ (hc := any_of HT_.out (by kernel_rfl))
                        refine HW.pz (i := 8) (N := some 73) #[tt,tt,tt,tt,tt,tt,tt,tt,tt,ff,ff,tt,ff,ff,ff] ?_ (hc := any_of HT_.out (by kernel_rfl))
                        refine HW.pz (i := 9) (N := some 74) #[tt,tt,tt,tt,tt,tt,tt,tt,tt,tt,ff,tt,ff,ff,ff] ?_ (hc := any_of HT_.out (by kernel_rfl))
                        refine HW.pz (i := 10) (N := some 75) #[tt,tt,tt,tt,tt,tt,tt,tt,tt,tt,tt,tt,ff,ff,ff] ?_ (hc := any_of HT_.out (by kernel_rfl))
                        exact norm_ (by simp only [putAll, Act.put, List.setIfInBounds_toArray, List.set_cons_zero, List.set_cons_succ, errW_none]) (hCont (.slice Ao75 t876.length co75, v881, v884, gb887) _ ⟨hHeld, (HW.zR HO854.out), (HW.zR HO863.out), (HW.zR HO866.out), (HW.zR HO869.out), (HW.zR (Kd.R_mono HO878.out (fun _ hk => hk.2))), (HW.zR (Kd.R_mono HO882.out (fun _ hk => hk.2))), (HW.zR (Kd.R_mono HO885.out (fun _ hk => hk.2))), (HW.zR HO_7.out), (HW.zB BK841.out), (HW.zB BK871.out), (HW.zB BK887.out), GW887.out, GE887.out, NB841_887.out, NB887_841.out, NB871_887.out, NB887_871.out, HW.zb⟩)
                      skip
                      refine box_step ?hg (N := 11) ?hd (cs := #[.int .i64 0, .slice none 0 0]) (t := 38) ?hr ?_; (case hd => rfl); (case hg => rfl); (case hr => first | (go_simp; done) | (go_simp; rfl))
                      intro gb887 hg w73 hbox hb
                      have n0_ := Aside0.mk (Kd.R_below (HW.zR HO_7.out) hb); have n1_ := Aside0.mk (Kd.R_below (HW.zR HO854.out) hb); have n2_ := Aside0.mk (Kd.R_below (HW.zR HO863.out) hb); have n3_ := Aside0.mk (Kd.R_below (HW.zR HO866.out) hb); have n4_ := Aside0.mk (Kd.R_below (HW.zR HO869.out) hb); have n5_ := Aside0.mk (blk_below (HW.zB BK841.out) hb); have n6_ := Aside0.mk (blk_below (HW.zB BK871.out) hb)
                      have n7_ := Aside0.mk (Kd.C_below (by repeat (first | (with_reducible exact HR875.out) | (with_reducible refine Kd.C_alloc ?_ _) | (with_reducible refine Kd.C_drewN ?_ _) | (with_reducible refine Kd.C_drew ?_) | exact HR875.out)) hb)
                      have n8_ := Aside0.mk (below_step HW.zb hb); have n9_ := Aside0.mk (hbox)
                      have n10_ := Aside0.mk ((by rw [hg]; exact (below_size HW.zb) : w.heap.size ≤ gb887))
                      have n11_ := Aside0.mk ((by rw [hg]; exact (below_size HW.zb) : w.heap.size ≤ gb887))
                      have n12_ := Aside0.mk ((by rw [hg]; exact Nat.ne_of_lt (blk_lt (g := gb841) (o := .cells #[.int .i64 a1_0, .string a1_1, .string a1_2, .int .i64 a1_3, .int .u64 a1_4, .int .u64 a1_5, .slice A1_6 l1_6.length c1_6, .slice A1_7 l1_7.length c1_7] 44 (0, 0)) (HW.zB BK841.out)) : gb841 ≠ gb887))
                      have n13_ := Aside0.mk ((by rw [hg]; exact Nat.ne_of_gt (blk_lt (g := gb841) (o := .cells #[.int .i64 a1_0, .string a1_1, .string a1_2, .int .i64 a1_3, .int .u64 a1_4, .int .u64 a1_5, .slice A1_6 l1_6.length c1_6, .slice A1_7 l1_7.length c1_7] 44 (0, 0)) (HW.zB BK841.out)) : gb887 ≠ gb841))
                      have n14_ := Aside0.mk ((by rw [hg]; exact Nat.ne_of_lt (blk_lt (g := gb871) (o := .cells #[.int .i64 t855, .string t856, .string t857, .int .i64 t858, .int .u64 t859, .int .u64 t860, .slice Ao66 t861.length co66, .slice Ao68 t864.length co68] 44 (0, 0)) (HW.zB BK871.out)) : gb871 ≠ gb887))
                      have n15_ := Aside0.mk ((by rw [hg]; exact Nat.ne_of_gt (blk_lt (g := gb871) (o := .cells #[.int .i64 t855, .string t856, .string t857, .int .i64 t858, .int .u64 t859, .int .u64 t860, .slice Ao66 t861.length co66, .slice Ao68 t864.length co68] 44 (0, 0)) (HW.zB BK871.out)) : gb887 ≠ gb871))
                      clear HO_7; clear HO854; clear HO863; clear HO866; clear HO869; clear BK841; clear BK871; clear HR875; clear HB; have HO_7 := n0_; have HO854 := n1_; have HO863 := n2_; have HO866 := n3_; have HO869 := n4_; have BK841 := n5_; have BK871 := n6_; have HR875 := n7_; have HB := n8_; have BK887 := n9_; have GW887 := n10_; have GE887 := n11_; have NB841_887 := n12_; have NB887_841 := n13_; have NB871_887 := n14_; have NB887_871 := n15_; clear n0_ n1_ n2_ n3_ n4_ n5_ n6_ n7_ n8_ n9_ n10_ n11_ n12_ n13_ n14_ n15_; clear hb hbox hg
                      refine hK.out _ _ (HW.k8 BK841.out) (fun hHeld => ?_)
                      clear hK K
                      refine HW.nz (N := (some 11)) ?_
                      refine one_ (i := 5) (N := some 71) #[tt,tt,tt,tt,tt,tt,ff,ff,ff,ff,ff,tt,ff,ff,ff] rfl rfl (one_of HT_.out (by kernel_rfl)) (by decide) (fun K hK => ?_)
                      refine goes_ Tryz.func11 (by kernel_rfl) rfl #[.slice Ao27 y872.length co27] (by rfl) rfl rfl HW.mt ?_
                      with_reducible refine (laws_docCopy.calls _ _ y872 t876 _ ?side1 ?side2 A37.out).mono ?_
                      (case side1 => repeat (first | exact (by repeat (first | (with_reducible exact HR875.out) | (with_reducible refine Kd.C_alloc ?_ _) | (with_reducible refine Kd.C_drewN ?_ _) | (with_reducible refine Kd.C_drew ?_) | exact HR875.out)) | (with_reducible refine Kd.C_alloc ?_ _) | (with_reducible refine Kd.C_drewN ?_ _) | (with_reducible refine Kd.C_drew ?_)))
                      (case side2 => exact HC875.out)
                      rintro e w74 ⟨v877, rfl, ho0, hb⟩
                      refine ⟨_, rfl, ?_⟩
                      replace HO854 := Aside0.mk (Kd.R_below (HW.zR HO854.out) hb); replace HO863 := Aside0.mk (Kd.R_below (HW.zR HO863.out) hb); replace HO866 := Aside0.mk (Kd.R_below (HW.zR HO866.out) hb); replace HO869 := Aside0.mk (Kd.R_below (HW.zR HO869.out) hb); have HO878 := Aside0.mk (Kd.R_lower (Kd.R_new' ho0 (Kd.R_lt (HW.zR HO_7.out))) (below_size HW.zb)); replace HO_7 := Aside0.mk (Kd.R_below (HW.zR HO_7.out) hb); replace BK841 := Aside0.mk (blk_below (HW.zB BK841.out) hb); replace BK871 := Aside0.mk (blk_below (HW.zB BK871.out) hb); replace BK887 := Aside0.mk (blk_below (HW.zB BK887.out) hb); replace HB := Aside0.mk (below_step HW.zb hb)
                      (try clear hb)
                      (try clear ho0)
                      obtain ⟨Ao75, co75, eo75⟩ := Kd.R_slice HO878.out
                      (first | subst eo75 | (injection eo75 with f1_ f2_ f3_; have f4_ := f1_.symm; have f5_ := f3_.symm; clear f1_ f2_ f3_; subst f4_; subst f5_))
                      refine hK.out _ _ (HW.k8 BK841.out) (fun hHeld => ?_)
                      clear hK K
                      refine HW.nz (N := (some 71)) ?_
                      refine one_ (i := 6) (N := some 72) #[tt,tt,tt,tt,tt,tt,tt,ff,ff,ff,ff,tt,ff,ff,ff] rfl rfl (one_of HT_.out (by kernel_rfl)) (by decide) (fun K hK => ?_)
                      refine goes_ Tryz.func35 (by kernel_rfl) rfl #[.int .i64 a1_0, .slice Ao75 t876.length co75] (by rfl) rfl rfl HW.mt ?_
                      with_reducible refine (impl_ReadValue.calls kj28 a1_0 _ _ t876 t879 t880 t883 false _ ?side1 ?side2 A38.out).mono ?_
                      (case side1 => repeat (first | exact (Kd.R_reads' HO878.out).2.2 | (with_reducible refine Kd.C_alloc ?_ _) | (with_reducible refine Kd.C_drewN ?_ _) | (with_reducible refine Kd.C_drew ?_)))
                      (case side2 => exact (Kd.R_reads' HO878.out).2.1)
                      rintro e w76 ⟨v881, v884, rfl, ho0, ho1, hb⟩
                      refine ⟨_, rfl, ?_⟩
                      have n0_ := Aside0.mk (Kd.R_below (HW.zR HO_7.out) hb); have n1_ := Aside0.mk (Kd.R_below (HW.zR HO854.out) hb); have n2_ := Aside0.mk (Kd.R_below (HW.zR HO863.out) hb); have n3_ := Aside0.mk (Kd.R_below (HW.zR HO866.out) hb); have n4_ := Aside0.mk (Kd.R_below (HW.zR HO869.out) hb); have n5_ := Aside0.mk (Kd.R_below (HW.zR HO878.out) hb); have n6_ := Aside0.mk (Kd.R_lower (Kd.R_new' ho0 (Kd.R_lt (HW.zR HO_7.out))) (below_size HW.zb)); have n7_ := Aside0.mk (Kd.R_lower (Kd.R_new' ho1 (Kd.R_lt (HW.zR HO_7.out))) (below_size HW.zb)); have n8_ := Aside0.mk (blk_below (HW.zB BK841.out) hb); have n9_ := Aside0.mk (blk_below (HW.zB BK871.out) hb); have n11_ := Aside0.mk (blk_below (HW.zB BK887.out) hb); have n12_ := Aside0.mk (below_step HW.zb hb); clear HO_7; clear HO854; clear HO863; clear HO866; clear HO869; clear HO878; clear BK841; clear BK871; clear BK887; clear HB; have HO_7 := n0_; have HO854 := n1_; have HO863 := n2_; have HO866 := n3_; have HO869 := n4_; have HO878 := n5_; have HO882 := n6_; have HO885 := n7_; have BK841 := n8_
                      have BK871 := n9_; have BK887 := n11_; have HB := n12_; clear n0_ n1_ n2_ n3_ n4_ n5_ n6_ n7_ n8_ n9_ n11_ n12_
                      (try clear hb)
                      (try clear ho0)
                      (try clear ho1)
                      refine hK.out _ _ (HW.k8 BK841.out) (fun hHeld => ?_)
                      clear hK K
                      refine HW.nz (N := (some 72)) ?_
                      refine HW.pz (i := 7) (N := some 65) #[tt,tt,tt,tt,tt,tt,tt,tt,ff,ff,ff,tt,ff,ff,ff] ?_ (hc := any_of HT_.out (by kernel_rfl))
                      refine HW.pz (i := 8) (N := some 73) #[tt,tt,tt,tt,tt,tt,tt,tt,tt,ff,ff,tt,ff,ff,ff] ?_ (hc := any_of HT_.out (by kernel_rfl))
                      refine HW.pz (i := 9) (N := some 74) #[tt,tt,tt,tt,tt,tt,tt,tt,tt,tt,ff,tt,ff,ff,ff] ?_ (hc := any_of HT_.out (by kernel_rfl))
                      refine HW.pz (i := 10) (N := some 75) #[tt,tt,tt,tt,tt,tt,tt,tt,tt,tt,tt,tt,ff,ff,ff] ?_ (hc := any_of HT_.out (by kernel_rfl))
                      exact norm_ (by simp only [putAll, Act.put, List.setIfInBounds_toArray, List.set_cons_zero, List.set_cons_succ, errW_none]) (hCont (.slice Ao75 t876.length co75, v881, v884, gb887) _ ⟨hHeld, (HW.zR HO854.out), (HW.zR HO863.out), (HW.zR HO866.out), (HW.zR HO869.out), (HW.zR (Kd.R_mono HO878.out (fun _ hk => hk.2))), (HW.zR (Kd.R_mono HO882.out (fun _ hk => hk.2))), (HW.zR (Kd.R_mono HO885.out (fun _ hk => hk.2))), (HW.zR HO_7.out), (HW.zB BK841.out), (HW.zB BK871.out), (HW.zB BK887.out), GW887.out, GE887.out, NB841_887.out, NB887_841.out, NB871_887.out, NB887_871.out, HW.zb⟩)
                    rintro ⟨v877, v881, v884, gb887⟩ w77 ⟨hS_, h0_, h1_, h2_, h3_, h4_, h5_, h6_, h7_, h8_, h9_, h10_, h11_, h12_, h13_, h14_, h15_, h16_, h17_⟩
                    have n0_ : Aside0 (Kd.R (Kd.int .u8) 5 w77 w.heap.size (fun k_ => some k_ ≠ (.slice Ao27 t845.length co27 : Value).ownBlock) v853 t852) := ⟨h0_⟩; have n1_ : Aside0 (Kd.R (Kd.int .u8) 5 w77 w.heap.size (fun k_ => some k_ ≠ (.slice Ao27 t845.length co27 : Value).ownBlock) (.slice Ao66 t861.length co66) t861) := ⟨h1_⟩; have n2_ : Aside0 (Kd.R k95 95 w77 w.heap.size (fun k_ => some k_ ≠ (.slice Ao27 t845.length co27 : Value).ownBlock) (.slice Ao68 t864.length co68) t864) := ⟨h2_⟩; have n3_ : Aside0 (Kd.R (Kd.int .u8) 5 w77 w.heap.size (fun k_ => some k_ ≠ (.slice Ao27 t845.length co27 : Value).ownBlock) v868 t867) := ⟨h3_⟩; have n4_ : Aside0 (Kd.R (Kd.int .u8) 5 w77 w.heap.size (fun k_ => some k_ ≠ (.slice Ao27 t845.length co27 : Value).ownBlock) v877 t876) := ⟨h4_⟩; have n5_ : Aside0 (Kd.R (Kd.int .u8) 5 w77 w.heap.size (fun k_ => some k_ ≠ (.slice Ao27 t845.length co27 : Value).ownBlock) v881 t880) := ⟨h5_⟩; have n6_ : Aside0 (Kd.R (Kd.int .u8) 5 w77 w.heap.size (fun k_ => some k_ ≠ (.slice Ao27 t845.length co27 : Value).ownBlock) v884 t883) := ⟨h6_⟩; have n7_ : Aside0 (Kd.R (Kd.int .u8) 5 w77 w.heap.size (fun _ => True) (.slice Ao27 t845.length co27) t845) := ⟨h7_⟩; have n8_ : Aside0 (w77.heap[gb841]? = some (.cells #[.int .i64 a1_0, .string a1_1, .string a1_2, .int .i64 a1_3, .int .u64 a1_4, .int .u64 a1_5, .slice A1_6 l1_6.length c1_6, .slice A1_7 l1_7.length c1_7] 44 (0, 0))) := ⟨h8_⟩
                    have n9_ : Aside0 (w77.heap[gb871]? = some (.cells #[.int .i64 t855, .string t856, .string t857, .int .i64 t858, .int .u64 t859, .int .u64 t860, .slice Ao66 t861.length co66, .slice Ao68 t864.length co68] 44 (0, 0))) := ⟨h9_⟩; have n10_ : Aside0 (w77.heap[gb887]? = some (.cells #[.int .i64 0, .slice none 0 0] 38 (0, 0))) := ⟨h10_⟩; have n11_ : Aside0 (w.heap.size ≤ gb887) := ⟨h11_⟩; have n12_ : Aside0 (w.heap.size ≤ gb887) := ⟨h12_⟩; have n13_ : Aside0 (gb841 ≠ gb887) := ⟨h13_⟩; have n14_ : Aside0 (gb887 ≠ gb841) := ⟨h14_⟩; have n15_ : Aside0 (gb871 ≠ gb887) := ⟨h15_⟩; have n16_ : Aside0 (gb887 ≠ gb871) := ⟨h16_⟩; have n17_ : Aside0 (Below w.heap.size w w77) := ⟨h17_⟩; clear HO_7; clear HO854; clear HO863; clear HO866; clear HO869; clear BK841; clear BK871; clear HB; clear h0_ h1_ h2_ h3_ h4_ h5_ h6_ h7_ h8_ h9_ h10_ h11_ h12_ h13_ h14_ h15_ h16_ h17_; have HO854 := n0_; have HO863 := n1_; have HO866 := n2_; have HO869 := n3_; have HO878 := n4_; have HO882 := n5_; have HO885 := n6_; have HO_7 := n7_; have BK841 := n8_; have BK871 := n9_; have BK887 := n10_; have GW887 := n11_; have GE887 := n12_; have NB841_887 := n13_; have NB887_841 := n14_; have NB871_887 := n15_; have NB887_871 := n16_; have HB := n17_; clear n0_ n1_ n2_ n3_ n4_ n5_ n6_ n7_ n8_ n9_ n10_ n11_ n12_ n13_ n14_ n15_ n16_ n17_
                    have hHeld : w77.cell? ⟨gb841, 0, none⟩ = some (.int .i64 a1_0) ∧ w77.cell? ⟨gb841, 1, none⟩ = some (.string a1_1) ∧ w77.cell? ⟨gb841, 2, none⟩ = some (.string a1_2) ∧ w77.cell? ⟨gb841, 3, none⟩ = some (.int .i64 a1_3) ∧ w77.cell? ⟨gb841, 4, none⟩ = some (.int .u64 a1_4) ∧ w77.cell? ⟨gb841, 5, none⟩ = some (.int .u64 a1_5) ∧ w77.cell? ⟨gb841, 6, none⟩ = some (.slice A1_6 l1_6.length c1_6) ∧ w77.cell? ⟨gb841, 7, none⟩ = some (.slice A1_7 l1_7.length c1_7) := hS_; obtain ⟨Ao79, co79, eo79⟩ := Kd.R_slice HO882.out
                    (first | subst eo79 | (injection eo79 with f1_ f2_ f3_; have f4_ := f1_.symm; have f5_ := f3_.symm; clear f1_ f2_ f3_; subst f4_; subst f5_))
                    refine norm_ (a' := ?_) ?_ ?_
                    rotate_left
                    · simp only [putAll, Act.put, List.setIfInBounds_toArray, List.set_cons_zero, List.set_cons_succ, errW_none]
                      rfl
                    refine one_ (i := 12) (N := none) #[tt,tt,tt,tt,tt,tt,tt,tt,tt,tt,tt,tt,tt,ff,ff] rfl rfl (one_of HT_.out (by kernel_rfl)) (by decide) (fun K hK => ?_)
                    have hs78 : w77.cell? ⟨gb887, 0, none⟩ = some (.int .i64 0) := (blk_cell BK887.out 0).trans rfl; have hfs78 := blk_frozen BK887.out 0; have hns78_0 := NB841_887.out; have hns78_1 := NB871_887.out; have hms78_0 := NB887_841.out; have hms78_1 := NB887_871.out; have hs80 : w77.cell? ⟨gb887, 1, none⟩ = some (.slice none 0 0) := (blk_cell BK887.out 1).trans rfl; have hfs80 := blk_frozen BK887.out 1; have hns80_0 := NB841_887.out; have hns80_1 := NB871_887.out; have hms80_0 := NB887_841.out; have hms80_1 := NB887_871.out
                    refine skip_ (w1 := ?_) (by rfl) rfl ?_ ?_
                    rotate_left
                    · go_simp
                      rfl
                    refine hK.out _ _ ⟨((cell_far (p := ⟨gb887, _, none⟩) NB841_887.out _).trans (((cell_far (p := ⟨gb887, _, none⟩) NB841_887.out _).trans (hHeld.1)))), ((cell_far (p := ⟨gb887, _, none⟩) NB841_887.out _).trans (((cell_far (p := ⟨gb887, _, none⟩) NB841_887.out _).trans (hHeld.2.1)))), ((cell_far (p := ⟨gb887, _, none⟩) NB841_887.out _).trans (((cell_far (p := ⟨gb887, _, none⟩) NB841_887.out _).trans (hHeld.2.2.1)))), ((cell_far (p := ⟨gb887, _, none⟩) NB841_887.out _).trans (((cell_far (p := ⟨gb887, _, none⟩) NB841_887.out _).trans (hHeld.2.2.2.1)))), ((cell_far (p := ⟨gb887, _, none⟩) NB841_887.out _).trans (((cell_far (p := ⟨gb887, _, none⟩) NB841_887.out _).trans (hHeld.2.2.2.2.1)))), ((cell_far (p := ⟨gb887, _, none⟩) NB841_887.out _).trans (((cell_far (p := ⟨gb887, _, none⟩) NB841_887.out _).trans (hHeld.2.2.2.2.2.1)))), ((cell_far (p := ⟨gb887, _, none⟩) NB841_887.out _).trans (((cell_far (p := ⟨gb887, _, none⟩) NB841_887.out _).trans (hHeld.2.2.2.2.2.2.1)))), ((cell_far (p := ⟨gb887, _, none⟩) NB841_887.out _).trans (((cell_far (p := ⟨gb887, _, none⟩) NB841_887.out _).trans (hHeld.2.2.2.2.2.2.2))))⟩ (fun hHeld => ?_)
                    clear hK K
                    refine HW.pz (i := 13) (N := some 12) #[tt,tt,tt,tt,tt,tt,tt,tt,tt,tt,tt,tt,tt,tt,ff] ?_ (hc := any_of HT_.out (by kernel_rfl))
                    refine HW.pz (i := 14) (N := some 13) #[tt,tt,tt,tt,tt,tt,tt,tt,tt,tt,tt,tt,tt,tt,tt] ?_ (hc := any_of HT_.out (by kernel_rfl))
                    refine done_ (done_of HT_.out (by kernel_rfl)) ?_
                    try go_wp2
                    have n0_ : Aside0 (Kd.R (Kd.int .u8) 5 ((w77.setCell ⟨gb887, 0, none⟩ (.int .i64 t879)).setCell ⟨gb887, 1, none⟩ (.slice Ao79 t880.length co79)) w.heap.size (fun _ => True) (.slice Ao27 t845.length co27) t845) := ⟨by (with_reducible repeat (first | apply Kd.R_alloc | apply Kd.R_drewN | apply Kd.R_drew)); exact Kd.R_mono (Kd.R_far (p := ⟨gb887, 1, none⟩) (Kd.R_far (p := ⟨gb887, 0, none⟩) (Kd.R_types HO_7.out BK887.out (by decide)) (fun _ hk => hk.2) (.int .i64 t879)) (fun _ hk => hk.2) (.slice Ao79 t880.length co79)) (fun _ hk => trivial)⟩
                    have n1_ : Aside0 (Kd.R (Kd.int .u8) 5 ((w77.setCell ⟨gb887, 0, none⟩ (.int .i64 t879)).setCell ⟨gb887, 1, none⟩ (.slice Ao79 t880.length co79)) w.heap.size (fun k_ => some k_ ≠ (.slice Ao27 t845.length co27 : Value).ownBlock) v853 t852) := ⟨by (with_reducible repeat (first | apply Kd.R_alloc | apply Kd.R_drewN | apply Kd.R_drew)); exact Kd.R_mono (Kd.R_far (p := ⟨gb887, 1, none⟩) (Kd.R_far (p := ⟨gb887, 0, none⟩) (Kd.R_types HO854.out BK887.out (by decide)) (fun _ hk => hk.2) (.int .i64 t879)) (fun _ hk => hk.2) (.slice Ao79 t880.length co79)) (fun _ hk => hk.1)⟩
                    have n2_ : Aside0 (Kd.R (Kd.int .u8) 5 ((w77.setCell ⟨gb887, 0, none⟩ (.int .i64 t879)).setCell ⟨gb887, 1, none⟩ (.slice Ao79 t880.length co79)) w.heap.size (fun k_ => some k_ ≠ (.slice Ao27 t845.length co27 : Value).ownBlock) (.slice Ao66 t861.length co66) t861) := ⟨by (with_reducible repeat (first | apply Kd.R_alloc | apply Kd.R_drewN | apply Kd.R_drew)); exact Kd.R_mono (Kd.R_far (p := ⟨gb887, 1, none⟩) (Kd.R_far (p := ⟨gb887, 0, none⟩) (Kd.R_types HO863.out BK887.out (by decide)) (fun _ hk => hk.2) (.int .i64 t879)) (fun _ hk => hk.2) (.slice Ao79 t880.length co79)) (fun _ hk => hk.1)⟩
                    have n3_ : Aside0 (Kd.R k95 95 ((w77.setCell ⟨gb887, 0, none⟩ (.int .i64 t879)).setCell ⟨gb887, 1, none⟩ (.slice Ao79 t880.length co79)) w.heap.size (fun k_ => some k_ ≠ (.slice Ao27 t845.length co27 : Value).ownBlock) (.slice Ao68 t864.length co68) t864) := ⟨by (with_reducible repeat (first | apply Kd.R_alloc | apply Kd.R_drewN | apply Kd.R_drew)); exact Kd.R_mono (Kd.R_far (p := ⟨gb887, 1, none⟩) (Kd.R_far (p := ⟨gb887, 0, none⟩) (Kd.R_types HO866.out BK887.out (by decide)) (fun _ hk => hk.2) (.int .i64 t879)) (fun _ hk => hk.2) (.slice Ao79 t880.length co79)) (fun _ hk => hk.1)⟩
                    have n4_ : Aside0 (Kd.R (Kd.int .u8) 5 ((w77.setCell ⟨gb887, 0, none⟩ (.int .i64 t879)).setCell ⟨gb887, 1, none⟩ (.slice Ao79 t880.length co79)) w.heap.size (fun k_ => some k_ ≠ (.slice Ao27 t845.length co27 : Value).ownBlock) v868 t867) := ⟨by (with_reducible repeat (first | apply Kd.R_alloc | apply Kd.R_drewN | apply Kd.R_drew)); exact Kd.R_mono (Kd.R_far (p := ⟨gb887, 1, none⟩) (Kd.R_far (p := ⟨gb887, 0, none⟩) (Kd.R_types HO869.out BK887.out (by decide)) (fun _ hk => hk.2) (.int .i64 t879)) (fun _ hk => hk.2) (.slice Ao79 t880.length co79)) (fun _ hk => hk.1)⟩
                    have n5_ : Aside0 (Kd.R (Kd.int .u8) 5 ((w77.setCell ⟨gb887, 0, none⟩ (.int .i64 t879)).setCell ⟨gb887, 1, none⟩ (.slice Ao79 t880.length co79)) w.heap.size (fun k_ => some k_ ≠ (.slice Ao27 t845.length co27 : Value).ownBlock) v877 t876) := ⟨by (with_reducible repeat (first | apply Kd.R_alloc | apply Kd.R_drewN | apply Kd.R_drew)); exact Kd.R_mono (Kd.R_far (p := ⟨gb887, 1, none⟩) (Kd.R_far (p := ⟨gb887, 0, none⟩) (Kd.R_types HO878.out BK887.out (by decide)) (fun _ hk => hk.2) (.int .i64 t879)) (fun _ hk => hk.2) (.slice Ao79 t880.length co79)) (fun _ hk => hk.1)⟩
                    have n6_ : Aside0 (Kd.R (Kd.int .u8) 5 ((w77.setCell ⟨gb887, 0, none⟩ (.int .i64 t879)).setCell ⟨gb887, 1, none⟩ (.slice Ao79 t880.length co79)) w.heap.size (fun k_ => some k_ ≠ (.slice Ao27 t845.length co27 : Value).ownBlock) (.slice Ao79 t880.length co79) t880) := ⟨by (with_reducible repeat (first | apply Kd.R_alloc | apply Kd.R_drewN | apply Kd.R_drew)); exact Kd.R_mono (Kd.R_far (p := ⟨gb887, 1, none⟩) (Kd.R_far (p := ⟨gb887, 0, none⟩) (Kd.R_types HO882.out BK887.out (by decide)) (fun _ hk => hk.2) (.int .i64 t879)) (fun _ hk => hk.2) (.slice Ao79 t880.length co79)) (fun _ hk => hk.1)⟩
                    have n7_ : Aside0 (Kd.R (Kd.int .u8) 5 ((w77.setCell ⟨gb887, 0, none⟩ (.int .i64 t879)).setCell ⟨gb887, 1, none⟩ (.slice Ao79 t880.length co79)) w.heap.size (fun k_ => some k_ ≠ (.slice Ao27 t845.length co27 : Value).ownBlock) v884 t883) := ⟨by (with_reducible repeat (first | apply Kd.R_alloc | apply Kd.R_drewN | apply Kd.R_drew)); exact Kd.R_mono (Kd.R_far (p := ⟨gb887, 1, none⟩) (Kd.R_far (p := ⟨gb887, 0, none⟩) (Kd.R_types HO885.out BK887.out (by decide)) (fun _ hk => hk.2) (.int .i64 t879)) (fun _ hk => hk.2) (.slice Ao79 t880.length co79)) (fun _ hk => hk.1)⟩
                    have n8_ : Aside0 (((w77.setCell ⟨gb887, 0, none⟩ (.int .i64 t879)).setCell ⟨gb887, 1, none⟩ (.slice Ao79 t880.length co79)).heap[gb841]? = some (.cells #[.int .i64 a1_0, .string a1_1, .string a1_2, .int .i64 a1_3, .int .u64 a1_4, .int .u64 a1_5, .slice A1_6 l1_6.length c1_6, .slice A1_7 l1_7.length c1_7] 44 (0, 0))) := ⟨by (with_reducible repeat (first | refine blk_drewN ?_ _ | refine blk_drew ?_ | refine blk_alloc ?_ _)); refine blk_far ?_ NB841_887.out _; (with_reducible repeat (first | refine blk_drewN ?_ _ | refine blk_drew ?_ | refine blk_alloc ?_ _)); refine blk_far ?_ NB841_887.out _; (with_reducible repeat (first | refine blk_drewN ?_ _ | refine blk_drew ?_ | refine blk_alloc ?_ _)); exact BK841.out⟩
                    have n9_ : Aside0 (((w77.setCell ⟨gb887, 0, none⟩ (.int .i64 t879)).setCell ⟨gb887, 1, none⟩ (.slice Ao79 t880.length co79)).heap[gb871]? = some (.cells #[.int .i64 t855, .string t856, .string t857, .int .i64 t858, .int .u64 t859, .int .u64 t860, .slice Ao66 t861.length co66, .slice Ao68 t864.length co68] 44 (0, 0))) := ⟨by (with_reducible repeat (first | refine blk_drewN ?_ _ | refine blk_drew ?_ | refine blk_alloc ?_ _)); refine blk_far ?_ NB871_887.out _; (with_reducible repeat (first | refine blk_drewN ?_ _ | refine blk_drew ?_ | refine blk_alloc ?_ _)); refine blk_far ?_ NB871_887.out _; (with_reducible repeat (first | refine blk_drewN ?_ _ | refine blk_drew ?_ | refine blk_alloc ?_ _)); exact BK871.out⟩
                    have n10_ : Aside0 (((w77.setCell ⟨gb887, 0, none⟩ (.int .i64 t879)).setCell ⟨gb887, 1, none⟩ (.slice Ao79 t880.length co79)).heap[gb887]? = some (.cells #[.int .i64 t879, .slice Ao79 t880.length co79] 38 (0, 0))) := ⟨by (with_reducible repeat (first | refine blk_drewN ?_ _ | refine blk_drew ?_ | refine blk_alloc ?_ _)); refine blk_put (cs := #[.int .i64 t879, .slice none 0 0]) ?_ 1 _ rfl; (with_reducible repeat (first | refine blk_drewN ?_ _ | refine blk_drew ?_ | refine blk_alloc ?_ _)); refine blk_put (cs := #[.int .i64 0, .slice none 0 0]) ?_ 0 _ rfl; (with_reducible repeat (first | refine blk_drewN ?_ _ | refine blk_drew ?_ | refine blk_alloc ?_ _)); exact BK887.out⟩
                    have n11_ : Aside0 (Below w.heap.size w ((w77.setCell ⟨gb887, 0, none⟩ (.int .i64 t879)).setCell ⟨gb887, 1, none⟩ (.slice Ao79 t880.length co79))) := ⟨HW.zb⟩
                    (try clear HO_7)
                    (try clear HO854)
                    (try clear HO863)
                    (try clear HO866)
                    (try clear HO869)
                    (try clear HO878)
                    (try clear HO882)
                    (try clear HO885)
                    (try clear BK841)
                    (try clear BK871)
                    (try clear BK887)
                    (try clear HB)
                    generalize ((w77.setCell ⟨gb887, 0, none⟩ (.int .i64 t879)).setCell ⟨gb887, 1, none⟩ (.slice Ao79 t880.length co79)) = w81 at n0_ n1_ n2_ n3_ n4_ n5_ n6_ n7_ n8_ n9_ n10_ n11_ ⊢; have HO_7 := n0_; have HO854 := n1_; have HO863 := n2_; have HO866 := n3_; have HO869 := n4_; have HO878 := n5_; have HO882 := n6_; have HO885 := n7_; have BK841 := n8_; have BK871 := n9_; have BK887 := n10_; have HB := n11_; clear n0_ n1_ n2_ n3_ n4_ n5_ n6_ n7_ n8_ n9_ n10_ n11_; replace HO_7 := Aside0.mk (Kd.R_drew HO_7.out); replace HO854 := Aside0.mk (Kd.R_drew HO854.out); replace HO863 := Aside0.mk (Kd.R_drew HO863.out); replace HO866 := Aside0.mk (Kd.R_drew HO866.out); replace HO869 := Aside0.mk (Kd.R_drew HO869.out); replace HO878 := Aside0.mk (Kd.R_drew HO878.out); replace HO882 := Aside0.mk (Kd.R_drew HO882.out); replace HO885 := Aside0.mk (Kd.R_drew HO885.out); replace BK841 := Aside0.mk (blk_drew BK841.out); replace BK871 := Aside0.mk (blk_drew BK871.out); replace BK887 := Aside0.mk (blk_drew BK887.out); replace HB := Aside0.mk (below_drew1 HB.out)
                    have q83 : (x2_28 : Int) ≤ ((t845.length : Int) : Int) := HW.od
                    obtain ⟨i083, hi083, _, hsz83, _⟩ := info_parts info5; have hroom83 : t845.length ≤ co27 := (Kd.R_reads' HO_7.out).2.1; have hC83 : Kd.C (Kd.int .u8) _ Ao27 t845.length t845 := (Kd.R_reads' HO_7.out).2.2
                    (try clear hcut72)
                    have hcut83 := cut_to (P := Tryz.prog) 22 5 .i64 Tryz.underlying22 hi083 Ao27 t845.length co27 x2_28 (HW.od) q83 hroom83
                    have hr83 := Kd.C_take (m := (x2_28 : Int).toNat) hC83 (by omega)
                    have hy83 : y891.length = (x2_28 : Int).toNat := (by rw [Ny891.out, List.length_take]; omega)
                    rw [← Ny891.out] at hr83; rw [← hy83] at hcut83; have HR894 := Aside0.mk hr83
                    have HC894 := Aside0.mk (show y891.length ≤ co27 from by omega)
                    clear hr83 hC83 hroom83 hi083 hsz83; have KY83 := Aside0.mk hy83; clear hy83
                    have KL83 := Aside0.mk (show (x2_28 : Int).toNat ≤ t845.length from by omega)
                    replace q83 := eq_true q83
                    refine start_ (n := 16) (S := fun w' => w'.cell? ⟨gb841, 0, none⟩ = some (.int .i64 a1_0) ∧ w'.cell? ⟨gb841, 1, none⟩ = some (.string a1_1) ∧ w'.cell? ⟨gb841, 2, none⟩ = some (.string a1_2) ∧ w'.cell? ⟨gb841, 3, none⟩ = some (.int .i64 a1_3) ∧ w'.cell? ⟨gb841, 4, none⟩ = some (.int .u64 a1_4) ∧ w'.cell? ⟨gb841, 5, none⟩ = some (.int .u64 a1_5) ∧ w'.cell? ⟨gb841, 6, none⟩ = some (.slice A1_6 l1_6.length c1_6) ∧ w'.cell? ⟨gb841, 7, none⟩ = some (.slice A1_7 l1_7.length c1_7)) (ds := []) #[ff,ff,ff,ff,ff,ff,ff,ff,ff,ff,ff,ff,ff,ff,ff,ff] (by kernel_rfl) rfl rfl (HW.k8 BK841.out) (fun hHeld => ?_); refine with_tabW laws_FnDocShort.tab12 laws_FnDocShort.bits12 (fun HT_ HW_ => ?_)
                    generalize w81.drew = w82 at HO_7 HO854 HO863 HO866 HO869 HO878 HO882 HO885 BK841 BK871 BK887 HB HR894 hHeld ⊢
                    refine HW.pz (i := 0) (N := some 77) #[tt,ff,ff,ff,ff,ff,ff,ff,ff,ff,ff,ff,ff,ff,ff,ff] ?_ (hc := any_of HT_.out (by kernel_rfl))
                    refine HW.pz (i := 2) (N := some 79) #[tt,ff,tt,ff,ff,ff,ff,ff,ff,ff,ff,ff,ff,ff,ff,ff] ?_ (hc := any_of HT_.out (by kernel_rfl))
                    refine HW.pz (i := 4) (N := some 81) #[tt,ff,tt,ff,tt,ff,ff,ff,ff,ff,ff,ff,ff,ff,ff,ff] ?_ (hc := any_of HT_.out (by kernel_rfl))
                    refine HW.pz (i := 5) (N := some 82) #[tt,ff,tt,ff,tt,tt,ff,ff,ff,ff,ff,ff,ff,ff,ff,ff] ?_ (hc := any_of HT_.out (by kernel_rfl))
                    refine HW.pz (i := 6) (N := some 83) #[tt,ff,tt,ff,tt,tt,tt,ff,ff,ff,ff,ff,ff,ff,ff,ff] ?_ (hc := any_of HT_.out (by kernel_rfl))
                    refine take_ (i := 1) (N := some 78) (v := ?_) (a' := ?_) #[tt,tt,tt,ff,tt,tt,tt,ff,ff,ff,ff,ff,ff,ff,ff,ff] rfl rfl (take_ofW HT_.out HW_.out (by kernel_rfl)) (fun _ _ _ h => h) (Or.inl ⟨by rfl, ?_⟩) hHeld ?_ ?_
                    rotate_left
                    · rintro w' ⟨s0, s1, s2, s3, s4, s5, s6, s7⟩
                      go_simp
                      with_reducible rfl
                    rotate_left
                    · exact HW.pt
                    refine one_ (i := 3) (N := some 80) #[tt,tt,tt,tt,tt,tt,tt,ff,ff,ff,ff,ff,ff,ff,ff,ff] rfl rfl (one_of HT_.out (by kernel_rfl)) (by decide) (fun K hK => ?_)
                    refine goes_ Tryz.func37 (by kernel_rfl) rfl #[.int .i64 a1_0, .string a0] (by rfl) rfl rfl HW.mt ?_
                    with_reducible refine (spec_DocHead.calls a1_0 a0 t888 _ A39.out).mono ?_
                    rintro e w84 ⟨v889, rfl, ho0, hb⟩
                    refine ⟨_, rfl, ?_⟩
                    have n0_ := Aside0.mk (Kd.R_elder' (HW.zR HO_7.out) (Kd.R_base ho0) hb); have n8_ := Aside0.mk (Kd.R_lower (Kd.R_new' ho0 (Kd.R_lt (HW.zR HO_7.out))) (below_size HW.zb)); have n9_ := Aside0.mk (blk_below (HW.zB BK841.out) hb)
                    have n12_ := Aside0.mk (Kd.C_below (by repeat (first | (with_reducible exact HR894.out) | (with_reducible refine Kd.C_alloc ?_ _) | (with_reducible refine Kd.C_drewN ?_ _) | (with_reducible refine Kd.C_drew ?_) | exact HR894.out)) hb)
                    have n13_ := Aside0.mk (below_step HW.zb hb); clear HO_7; clear BK841; clear HR894; clear HB; have HO_7 := n0_; have HO890 := n8_; have BK841 := n9_; have HR894 := n12_; have HB := n13_; clear n0_ n8_ n9_ n12_ n13_
                    (try clear hb)
                    (try clear ho0)
                    refine hK.out _ _ (HW.k8 BK841.out) (fun hHeld => ?_)
                    clear hK K
                    refine HW.nz (N := (some 80)) ?_
                    refine one_ (i := 7) (N := some 84) #[tt,tt,tt,tt,tt,tt,tt,tt,ff,ff,ff,ff,ff,ff,ff,ff] rfl rfl (one_of HT_.out (by kernel_rfl)) (by decide) (fun K hK => ?_)
                    refine Kd.R_append_rows_step (Kd.int .u8) (w0 := w) w.heap.size (by rfl) (.tmp 80) (.tmp 83) 22 5 (.int .u8 0) 1 rfl Tryz.underlying22 info5 rfl (by decide) (by omega) v889 t888 y891 _ _ _ (fun k_ => some k_ ≠ (.slice Ao27 t845.length co27 : Value).ownBlock) (fun _ => False) rfl rfl ?aO ?aR (fun _ _ h => h) (fun _ h => h.elim) ?aF ?aB ?aS ?aL ?_
                    (case aR => repeat (first | exact (by repeat (first | (with_reducible exact HR894.out) | (with_reducible refine Kd.C_alloc ?_ _) | (with_reducible refine Kd.C_drewN ?_ _) | (with_reducible refine Kd.C_drew ?_) | exact HR894.out)) | (with_reducible refine Kd.C_alloc ?_ _) | (with_reducible refine Kd.C_drewN ?_ _) | (with_reducible refine Kd.C_drew ?_)))
                    (case aB => exact HW.zb)
                    (case aF => exact (fun k_ hk => Kd.fresh' (Kd.R_lt (HW.zR HO_7.out)) k_ hk))
                    (case aO => exact (HW.zR (Kd.R_mono HO890.out (fun _ hk => hk.2))))
                    (case aS => exact (below_size HW.zb))
                    (case aL => have := LMc42.out; omega)
                    intro v896 w85 ho hb hg hat
                    rw [← Ny895.out] at ho; have n0_ := Aside0.mk (Kd.R_after (ok := (fun _ => True)) (HW.zR HO_7.out) hg hat)
                    have n1_ := Aside0.mk (blk_grown (g := gb841) (o := .cells #[.int .i64 a1_0, .string a1_1, .string a1_2, .int .i64 a1_3, .int .u64 a1_4, .int .u64 a1_5, .slice A1_6 l1_6.length c1_6, .slice A1_7 l1_7.length c1_7] 44 (0, 0)) (HW.zB BK841.out) hg (Kd.R_ne HO890.out BK841.out (by decide)))
                    have n11_ := Aside0.mk (hb); have n13_ := Aside0.mk (ho); clear HO_7; clear BK841; clear HB; clear HO890; have HO_7 := n0_; have BK841 := n1_; have HB := n11_; have HO897 := n13_; clear n0_ n1_ n11_ n13_; clear ho hb hg hat; obtain ⟨Ao86, co86, eo86⟩ := Kd.R_slice HO897.out
                    (first | subst eo86 | (injection eo86 with f1_ f2_ f3_; have f4_ := f1_.symm; have f5_ := f3_.symm; clear f1_ f2_ f3_; subst f4_; subst f5_))
                    refine hK.out _ _ (HW.k8 BK841.out) (fun hHeld => ?_)
                    clear hK K
                    refine HW.nz (N := (some 84)) ?_
                    refine one_ (i := 8) (N := some 85) #[tt,tt,tt,tt,tt,tt,tt,tt,tt,ff,ff,ff,ff,ff,ff,ff] rfl rfl (one_of HT_.out (by kernel_rfl)) (by decide) (fun K hK => ?_)
                    refine goes_ Tryz.func36 (by kernel_rfl) rfl #[.slice Ao86 y895.length co86] (by rfl) rfl rfl HW.mt ?_
                    with_reducible refine (impl_ReadElement.calls kj28 _ _ y895 t898 t899 false _ ?side1 ?side2 A43.out).mono ?_
                    (case side1 => repeat (first | exact (Kd.R_reads' HO897.out).2.2 | (with_reducible refine Kd.C_alloc ?_ _) | (with_reducible refine Kd.C_drewN ?_ _) | (with_reducible refine Kd.C_drew ?_)))
                    (case side2 => exact (Kd.R_reads' HO897.out).2.1)
                    rintro e w87 ⟨v901, v903, rfl, ho0, ho1, hb⟩
                    refine ⟨_, rfl, ?_⟩
                    replace HO_7 := Aside0.mk (Kd.R_below (HW.zR HO_7.out) hb); replace HO897 := Aside0.mk (Kd.R_below (HW.zR HO897.out) hb); replace BK841 := Aside0.mk (blk_below (HW.zB BK841.out) hb); replace HB := Aside0.mk (below_step HW.zb hb)
                    (try clear hb)
                    (try clear ho0)
                    (try clear ho1)
                    refine hK.out _ _ (HW.k8 BK841.out) (fun hHeld => ?_)
                    clear hK K
                    refine HW.nz (N := (some 85)) ?_
                    refine HW.pz (i := 9) (N := some 76) #[tt,tt,tt,tt,tt,tt,tt,tt,tt,tt,ff,ff,ff,ff,ff,ff] ?_ (hc := any_of HT_.out (by kernel_rfl))
                    refine HW.pz (i := 10) (N := some 86) #[tt,tt,tt,tt,tt,tt,tt,tt,tt,tt,tt,ff,ff,ff,ff,ff] ?_ (hc := any_of HT_.out (by kernel_rfl))
                    refine HW.pz (i := 11) (N := some 87) #[tt,tt,tt,tt,tt,tt,tt,tt,tt,tt,tt,tt,ff,ff,ff,ff] ?_ (hc := any_of HT_.out (by kernel_rfl))
                    refine HW.pz (i := 12) (N := some 88) #[tt,tt,tt,tt,tt,tt,tt,tt,tt,tt,tt,tt,tt,ff,ff,ff] ?_ (hc := any_of HT_.out (by kernel_rfl))
                    refine HW.pz (i := 13) (N := some 14) #[tt,tt,tt,tt,tt,tt,tt,tt,tt,tt,tt,tt,tt,tt,ff,ff] ?_ (hc := any_of HT_.out (by kernel_rfl))
                    refine HW.pz (i := 14) (N := some 15) #[tt,tt,tt,tt,tt,tt,tt,tt,tt,tt,tt,tt,tt,tt,tt,ff] ?_ (hc := any_of HT_.out (by kernel_rfl))
                    refine HW.pz (i := 15) (N := some 16) #[tt,tt,tt,tt,tt,tt,tt,tt,tt,tt,tt,tt,tt,tt,tt,tt] ?_ (hc := any_of HT_.out (by kernel_rfl))
                    refine done_ (done_of HT_.out (by kernel_rfl)) ?_
                    try go_wp2
                    have n0_ := Aside0.mk (Kd.R_drew HO_7.out); have n1_ := Aside0.mk (Kd.R_drew HO897.out); have n2_ := Aside0.mk (blk_drew BK841.out); have n3_ := Aside0.mk (below_drew1 HB.out); clear HO_7; clear HO897; clear BK841; clear HB
                    (try clear HO854)
                    (try clear HO863)
                    (try clear HO866)
                    (try clear HO869)
                    (try clear BK871)
                    (try clear HO878)
                    (try clear HO882)
                    (try clear HO885)
                    (try clear BK887)
                    (try clear HR894)
                    (try clear HO902)
                    (try clear HO904)
                    have HO_7 := n0_; have HO897 := n1_; have BK841 := n2_; have HB := n3_; clear n0_ n1_ n2_ n3_
                    refine start_ (n := 25) (S := fun w' => w'.cell? ⟨gb841, 0, none⟩ = some (.int .i64 a1_0) ∧ w'.cell? ⟨gb841, 1, none⟩ = some (.string a1_1) ∧ w'.cell? ⟨gb841, 2, none⟩ = some (.string a1_2) ∧ w'.cell? ⟨gb841, 3, none⟩ = some (.int .i64 a1_3) ∧ w'.cell? ⟨gb841, 4, none⟩ = some (.int .u64 a1_4) ∧ w'.cell? ⟨gb841, 5, none⟩ = some (.int .u64 a1_5) ∧ w'.cell? ⟨gb841, 6, none⟩ = some (.slice A1_6 l1_6.length c1_6) ∧ w'.cell? ⟨gb841, 7, none⟩ = some (.slice A1_7 l1_7.length c1_7)) (ds := []) #[ff,ff,ff,ff,ff,ff,ff,ff,ff,ff,ff,ff,ff,ff,ff,ff,ff,ff,ff,ff,ff,ff,ff,ff,ff] (by kernel_rfl) rfl rfl (HW.k8 BK841.out) (fun hHeld => ?_); refine with_tabW laws_FnDocShort.tab13 laws_FnDocShort.bits13 (fun HT_ HW_ => ?_)
                    generalize w87.drew = w88 at HO_7 HO897 BK841 HB hHeld ⊢
                    refine one_ (i := 0) (N := some 89) #[tt,ff,ff,ff,ff,ff,ff,ff,ff,ff,ff,ff,ff,ff,ff,ff,ff,ff,ff,ff,ff,ff,ff,ff,ff] rfl rfl (one_of HT_.out (by kernel_rfl)) (by decide) (fun K hK => ?_)
                    refine goes_ Tryz.func15 (by kernel_rfl) rfl #[] (by rfl) rfl rfl HW.mt ?_
                    with_reducible refine (laws_docAwake.calls kj28  true _ A44.out).mono ?_
                    rintro e w89 ⟨rfl, hb⟩
                    refine ⟨_, rfl, ?_⟩
                    replace HO_7 := Aside0.mk (Kd.R_below (HW.zR HO_7.out) hb); replace BK841 := Aside0.mk (blk_below (HW.zB BK841.out) hb); replace HB := Aside0.mk (below_step HW.zb hb)
                    (try clear hb)
                    have q90 : (x2_28 : Int) ≤ ((t845.length : Int) : Int) := HW.od
                    obtain ⟨i090, hi090, _, hsz90, _⟩ := info_parts info5; have hroom90 : t845.length ≤ co27 := (Kd.R_reads' HO_7.out).2.1; have hC90 : Kd.C (Kd.int .u8) _ Ao27 t845.length t845 := (Kd.R_reads' HO_7.out).2.2
                    (try clear hcut83)
                    have hcut90 := cut_to (P := Tryz.prog) 22 5 .i64 Tryz.underlying22 hi090 Ao27 t845.length co27 x2_28 (HW.od) q90 hroom90
                    have hr90 := Kd.C_take (m := (x2_28 : Int).toNat) hC90 (by omega)
                    have hy90 : y906.length = (x2_28 : Int).toNat := (by rw [Ny906.out, List.length_take]; omega)
                    rw [← Ny906.out] at hr90; rw [← hy90] at hcut90; have HR909 := Aside0.mk hr90
                    have HC909 := Aside0.mk (show y906.length ≤ co27 from by omega)
                    clear hr90 hC90 hroom90 hi090 hsz90; have KY90 := Aside0.mk hy90; clear hy90
                    have KL90 := Aside0.mk (show (x2_28 : Int).toNat ≤ t845.length from by omega)
                    replace q90 := eq_true q90
                    refine hK.out _ _ (HW.k8 BK841.out) (fun hHeld => ?_)
                    clear hK K
                    refine HW.nz (N := (some 89)) ?_
                    refine HW.pz (i := 1) (N := some 90) #[tt,tt,ff,ff,ff,ff,ff,ff,ff,ff,ff,ff,ff,ff,ff,ff,ff,ff,ff,ff,ff,ff,ff,ff,ff] ?_ (hc := any_of HT_.out (by kernel_rfl))
                    refine HW.pz (i := 2) (N := some 91) #[tt,tt,tt,ff,ff,ff,ff,ff,ff,ff,ff,ff,ff,ff,ff,ff,ff,ff,ff,ff,ff,ff,ff,ff,ff] ?_ (hc := any_of HT_.out (by kernel_rfl))
                    refine HW.pz (i := 3) (N := some 92) #[tt,tt,tt,tt,ff,ff,ff,ff,ff,ff,ff,ff,ff,ff,ff,ff,ff,ff,ff,ff,ff,ff,ff,ff,ff] ?_ (hc := any_of HT_.out (by kernel_rfl))
                    refine HW.pz (i := 4) (N := some 93) #[tt,tt,tt,tt,tt,ff,ff,ff,ff,ff,ff,ff,ff,ff,ff,ff,ff,ff,ff,ff,ff,ff,ff,ff,ff] ?_ (hc := any_of HT_.out (by kernel_rfl))
                    refine HW.pz (i := 5) (N := some 94) #[tt,tt,tt,tt,tt,tt,ff,ff,ff,ff,ff,ff,ff,ff,ff,ff,ff,ff,ff,ff,ff,ff,ff,ff,ff] ?_ (hc := any_of HT_.out (by kernel_rfl))
                    refine HW.pz (i := 6) (N := some 95) #[tt,tt,tt,tt,tt,tt,tt,ff,ff,ff,ff,ff,ff,ff,ff,ff,ff,ff,ff,ff,ff,ff,ff,ff,ff] ?_ (hc := any_of HT_.out (by kernel_rfl))
                    refine HW.pz (i := 7) (N := some 96) #[tt,tt,tt,tt,tt,tt,tt,tt,ff,ff,ff,ff,ff,ff,ff,ff,ff,ff,ff,ff,ff,ff,ff,ff,ff] ?_ (hc := any_of HT_.out (by kernel_rfl))
                    refine HW.pz (i := 8) (N := some 97) #[tt,tt,tt,tt,tt,tt,tt,tt,tt,ff,ff,ff,ff,ff,ff,ff,ff,ff,ff,ff,ff,ff,ff,ff,ff] ?_ (hc := any_of HT_.out (by kernel_rfl))
                    refine HW.pz (i := 9) (N := some 98) #[tt,tt,tt,tt,tt,tt,tt,tt,tt,tt,ff,ff,ff,ff,ff,ff,ff,ff,ff,ff,ff,ff,ff,ff,ff] ?_ (hc := any_of HT_.out (by kernel_rfl))
                    refine HW.pz (i := 10) (N := some 99) #[tt,tt,tt,tt,tt,tt,tt,tt,tt,tt,tt,ff,ff,ff,ff,ff,ff,ff,ff,ff,ff,ff,ff,ff,ff] ?_ (hc := any_of HT_.out (by kernel_rfl))
                    refine HW.pz (i := 11) (N := some 100) #[tt,tt,tt,tt,tt,tt,tt,tt,tt,tt,tt,tt,ff,ff,ff,ff,ff,ff,ff,ff,ff,ff,ff,ff,ff] ?_ (hc := any_of HT_.out (by kernel_rfl))
                    refine HW.pz (i := 12) (N := some 101) #[tt,tt,tt,tt,tt,tt,tt,tt,tt,tt,tt,tt,tt,ff,ff,ff,ff,ff,ff,ff,ff,ff,ff,ff,ff] ?_ (hc := any_of HT_.out (by kernel_rfl))
                    refine HW.pz (i := 13) (N := some 102) #[tt,tt,tt,tt,tt,tt,tt,tt,tt,tt,tt,tt,tt,tt,ff,ff,ff,ff,ff,ff,ff,ff,ff,ff,ff] ?_ (hc := any_of HT_.out (by kernel_rfl))
                    refine HW.pz (i := 14) (N := some 103) #[tt,tt,tt,tt,tt,tt,tt,tt,tt,tt,tt,tt,tt,tt,tt,ff,ff,ff,ff,ff,ff,ff,ff,ff,ff] ?_ (hc := any_of HT_.out (by kernel_rfl))
                    refine HW.pz (i := 16) (N := some 105) #[tt,tt,tt,tt,tt,tt,tt,tt,tt,tt,tt,tt,tt,tt,tt,ff,tt,ff,ff,ff,ff,ff,ff,ff,ff] ?_ (hc := any_of HT_.out (by kernel_rfl))
                    refine HW.pz (i := 17) (N := some 106) #[tt,tt,tt,tt,tt,tt,tt,tt,tt,tt,tt,tt,tt,tt,tt,ff,tt,tt,ff,ff,ff,ff,ff,ff,ff] ?_ (hc := any_of HT_.out (by kernel_rfl))
                    refine HW.pz (i := 18) (N := some 107) #[tt,tt,tt,tt,tt,tt,tt,tt,tt,tt,tt,tt,tt,tt,tt,ff,tt,tt,tt,ff,ff,ff,ff,ff,ff] ?_ (hc := any_of HT_.out (by kernel_rfl))
                    refine take_ (i := 15) (N := some 104) (v := ?_) (a' := ?_) #[tt,tt,tt,tt,tt,tt,tt,tt,tt,tt,tt,tt,tt,tt,tt,tt,tt,tt,tt,ff,ff,ff,ff,ff,ff] rfl rfl (take_ofW HT_.out HW_.out (by kernel_rfl)) (fun _ _ _ h => h) (Or.inl ⟨by rfl, ?_⟩) hHeld ?_ ?_
                    rotate_left
                    · rintro w' ⟨s0, s1, s2, s3, s4, s5, s6, s7⟩
                      go_simp
                      with_reducible rfl
                    rotate_left
                    · exact HW.pt
                    refine one_ (i := 19) (N := some 108) #[tt,tt,tt,tt,tt,tt,tt,tt,tt,tt,tt,tt,tt,tt,tt,tt,tt,tt,tt,tt,ff,ff,ff,ff,ff] rfl rfl (one_of HT_.out (by kernel_rfl)) (by decide) (fun K hK => ?_)
                    refine goes_ Tryz.func11 (by kernel_rfl) rfl #[.slice Ao27 y906.length co27] (by rfl) rfl rfl HW.mt ?_
                    with_reducible refine (laws_docCopy.calls _ _ y906 t910 _ ?side1 ?side2 A51.out).mono ?_
                    (case side1 => repeat (first | exact (by repeat (first | (with_reducible exact HR909.out) | (with_reducible refine Kd.C_alloc ?_ _) | (with_reducible refine Kd.C_drewN ?_ _) | (with_reducible refine Kd.C_drew ?_) | exact HR909.out)) | (with_reducible refine Kd.C_alloc ?_ _) | (with_reducible refine Kd.C_drewN ?_ _) | (with_reducible refine Kd.C_drew ?_)))
                    (case side2 => exact HC909.out)
                    rintro e w91 ⟨v911, rfl, ho0, hb⟩
                    refine ⟨_, rfl, ?_⟩
                    have HO912 := Aside0.mk (Kd.R_lower (Kd.R_new' ho0 (Kd.R_lt (HW.zR HO_7.out))) (below_size HW.zb)); replace HO_7 := Aside0.mk (Kd.R_below (HW.zR HO_7.out) hb); replace BK841 := Aside0.mk (blk_below (HW.zB BK841.out) hb); replace HB := Aside0.mk (below_step HW.zb hb)
                    (try clear hb)
                    (try clear ho0)
                    obtain ⟨Ao92, co92, eo92⟩ := Kd.R_slice HO912.out
                    (first | subst eo92 | (injection eo92 with f1_ f2_ f3_; have f4_ := f1_.symm; have f5_ := f3_.symm; clear f1_ f2_ f3_; subst f4_; subst f5_))
                    refine hK.out _ _ (HW.k8 BK841.out) (fun hHeld => ?_)
                    clear hK K
                    refine HW.nz (N := (some 108)) ?_
                    refine HW.pz (i := 20) (N := some 109) #[tt,tt,tt,tt,tt,tt,tt,tt,tt,tt,tt,tt,tt,tt,tt,tt,tt,tt,tt,tt,tt,ff,ff,ff,ff] ?_ (hc := any_of HT_.out (by kernel_rfl))
                    refine one_ (i := 21) (N := some 110) #[tt,tt,tt,tt,tt,tt,tt,tt,tt,tt,tt,tt,tt,tt,tt,tt,tt,tt,tt,tt,tt,tt,ff,ff,ff] rfl rfl (one_of HT_.out (by kernel_rfl)) (by decide) (fun K hK => ?_)
                    refine goes_ Tryz.func38 (by kernel_rfl) rfl #[.agg #[.int .i64 a1_0, .slice Ao92 t910.length co92]] (by rfl) rfl rfl HW.mt ?_
                    with_reducible refine (impl_ValidateValue.calls kj28 a1_0 _ _ t910 t913 _ ?side1 ?side2 A52.out).mono ?_
                    (case side1 => repeat (first | exact (Kd.R_reads' HO912.out).2.2 | (with_reducible refine Kd.C_alloc ?_ _) | (with_reducible refine Kd.C_drewN ?_ _) | (with_reducible refine Kd.C_drew ?_)))
                    (case side2 => exact (Kd.R_reads' HO912.out).2.1)
                    rintro e w93 ⟨rfl, hb⟩
                    refine ⟨_, rfl, ?_⟩
                    replace BK841 := Aside0.mk (blk_below (HW.zB BK841.out) hb); replace HB := Aside0.mk (below_step HW.zb hb)
                    (try clear hb)
                    refine hK.out _ _ (HW.k8 BK841.out) (fun hHeld => ?_)
                    clear hK K
                    refine HW.nz (N := (some 110)) ?_
                    refine HW.pz (i := 22) (N := some 111) #[tt,tt,tt,tt,tt,tt,tt,tt,tt,tt,tt,tt,tt,tt,tt,tt,tt,tt,tt,tt,tt,tt,tt,ff,ff] ?_ (hc := any_of HT_.out (by kernel_rfl))
                    refine HW.pz (i := 23) (N := some 112) #[tt,tt,tt,tt,tt,tt,tt,tt,tt,tt,tt,tt,tt,tt,tt,tt,tt,tt,tt,tt,tt,tt,tt,tt,ff] ?_ (hc := any_of HT_.out (by kernel_rfl))
                    refine HW.pz (i := 24) (N := some 6) #[tt,tt,tt,tt,tt,tt,tt,tt,tt,tt,tt,tt,tt,tt,tt,tt,tt,tt,tt,tt,tt,tt,tt,tt,tt] ?_ (hc := any_of HT_.out (by kernel_rfl))
                    refine done_ (done_of HT_.out (by kernel_rfl)) ?_
                    try go_wp2
                    go_ret
                    exact ⟨rfl, HW.zb⟩
end Go.Proofs.YtanecebppagakaaGreatDoor.PSx
