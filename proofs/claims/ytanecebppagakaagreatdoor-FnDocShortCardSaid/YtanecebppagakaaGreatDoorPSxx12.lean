import Derived.Test.YtanecebppagakaaGreatDoorPSxx0
import Derived.Test.YtanecebppagakaaGreatDoorPSxx11
namespace Go.Proofs.YtanecebppagakaaGreatDoor.PSx
open Go.Proofs.YtanecebppagakaaGreatDoor.HW (tt ff)
open Go.RowKit Go.Proofs.YtanecebppagakaaGreatDoorW.PrintWords Go.Proofs.YtanecebppagakaaGreatDoorW.PrintLast Go.Proofs.YtanecebppagakaaGreatDoorW.PrintMore
attribute [local go_sem] max2_int min2_int max_two min_two max_three min_three max_four min_four
set_option linter.unusedVariables false
set_option maxHeartbeats 8000000
set_option maxRecDepth 100000
set_option linter.unusedSimpArgs false
mutual
def spec_DocElem.f : Nat → ByteArray → Int → ByteArray → ByteArray → Int → Int → Int → List Int → List (S95) → Option (List Int)
  | 0, _, _, _, _, _, _, _, _, _ => none
  | k + 1, a0_0, a0_1, a0_2, a0_3, a0_4, a0_5, a0_6, l0_7, l0_8 => (spec_DocHead.f a0_1 a0_0).bind fun t704 => ((spec_DocValue.f k a0_1 a0_2 a0_3 a0_4 a0_5 a0_6 l0_7 l0_8).bind fun t707 => (if t704.length + t707.length < 140737488355328 then (some (t704 ++ t707)) else (none)))
def spec_DocBytes.l0 : Nat → List (S95) → List Int → Int → Option (List Int)
  | 0, _, _, _ => none
  | k + 1, x0, x3, x4 => if x4 < (x0.length : Int) then (if 0 ≤ x4 then ((spec_DocElem.f k ((rd_T95 x0 x4).f0) ((rd_T95 x0 x4).f1.f0) ((rd_T95 x0 x4).f1.f1) ((rd_T95 x0 x4).f1.f2) ((rd_T95 x0 x4).f1.f3) ((rd_T95 x0 x4).f1.f4) ((rd_T95 x0 x4).f1.f5) ((rd_T95 x0 x4).f1.f6) ((rd_T95 x0 x4).f1.f7)).bind fun t714 => (if x3.length + t714.length < 140737488355328 then (spec_DocBytes.l0 k x0 (x3 ++ t714) (wrap64 (x4 + 1))) else (none))) else (none)) else ((spec_DocInt32.f ([] : List Int) (wrap64 ((x3.length : Int) + 5))).bind fun t720 => (if t720.length + x3.length < 140737488355328 then ((some (t720 ++ x3 : List Int)).bind fun y723 => (if y723.length < 140737488355328 then (some (y723 ++ [0])) else (none))) else (none)))
def spec_DocBytes.f : Nat → List (S95) → Option (List Int)
  | 0, _ => none
  | k + 1, l0 => spec_DocBytes.l0 k l0 ([] : List Int) 0
def spec_DocValue.j0 : Nat → List Int → Int → Bool → Int → ByteArray → ByteArray → Int → Int → Int → List Int → List (S95) → Option (List Int)
  | 0, _, _, _, _, _, _, _, _, _, _, _ => none
  | k + 1, x3, x8, x9, x730000, x730001, x730002, x730003, x730004, x730005, x730006, x730007 => if x9 = true then ((spec_DocInt64.f k x3 x730004).bind fun t730 => (some t730)) else (if x8 = 2 then (spec_DocValue.j1 k x3 x8 (x8 == 2) x730000 x730001 x730002 x730003 x730004 x730005 x730006 x730007) else (if x8 = 13 then (spec_DocValue.j1 k x3 x8 (x8 == 13) x730000 x730001 x730002 x730003 x730004 x730005 x730006 x730007) else (spec_DocValue.j1 k x3 x8 (x8 == 14) x730000 x730001 x730002 x730003 x730004 x730005 x730006 x730007)))
def spec_DocValue.j1 : Nat → List Int → Int → Bool → Int → ByteArray → ByteArray → Int → Int → Int → List Int → List (S95) → Option (List Int)
  | 0, _, _, _, _, _, _, _, _, _, _, _ => none
  | k + 1, x3, x8, x16, x730000, x730001, x730002, x730003, x730004, x730005, x730006, x730007 => if x16 = true then ((spec_docText.f x3 x730001).bind fun t733 => (some t733)) else (if x8 = 3 then (spec_DocValue.j2 k x3 x8 (x8 == 3) x730000 x730001 x730002 x730003 x730004 x730005 x730006 x730007) else (spec_DocValue.j2 k x3 x8 (x8 == 4) x730000 x730001 x730002 x730003 x730004 x730005 x730006 x730007))
def spec_DocValue.j2 : Nat → List Int → Int → Bool → Int → ByteArray → ByteArray → Int → Int → Int → List Int → List (S95) → Option (List Int)
  | 0, _, _, _, _, _, _, _, _, _, _, _ => none
  | k + 1, x3, x8, x24, x730000, x730001, x730002, x730003, x730004, x730005, x730006, x730007 => if x24 = true then ((spec_DocBytes.f k x730007).bind fun t736 => (some t736)) else (if x8 = 5 then (if x730003 = 2 then ((spec_DocInt32.f x3 (wrap64 ((x730006.length : Int) + 4))).bind fun t739 => (if t739.length < 140737488355328 then ((spec_DocInt32.f (t739 ++ [2]) (x730006.length : Int)).bind fun t745 => (if t745.length + x730006.length < 140737488355328 then (some (t745 ++ x730006)) else (none))) else (none))) else ((spec_DocInt32.f x3 (x730006.length : Int)).bind fun t751 => (if t751.length < 140737488355328 then ((some (t751 ++ [(x730003) % 256] : List Int)).bind fun y754 => (if y754.length + x730006.length < 140737488355328 then (some (y754 ++ x730006)) else (none))) else (none)))) else (if x8 = 7 then (if x3.length + x730006.length < 140737488355328 then (some (x3 ++ x730006)) else (none)) else (if x8 = 8 then (if x3.length < 140737488355328 then (some (x3 ++ [(x730003) % 256])) else (none)) else (if x8 = 9 then (spec_DocValue.j3 k x3 x8 (x8 == 9) x730000 x730001 x730002 x730003 x730004 x730005 x730006 x730007) else (spec_DocValue.j3 k x3 x8 (x8 == 18) x730000 x730001 x730002 x730003 x730004 x730005 x730006 x730007)))))
def spec_DocValue.j3 : Nat → List Int → Int → Bool → Int → ByteArray → ByteArray → Int → Int → Int → List Int → List (S95) → Option (List Int)
  | 0, _, _, _, _, _, _, _, _, _, _, _ => none
  | k + 1, x3, x8, x75, x730000, x730001, x730002, x730003, x730004, x730005, x730006, x730007 => if x75 = true then ((spec_DocInt64.f k x3 (IntKind.u64.wrap (x730003))).bind fun t766 => (some t766)) else (if x8 = 16 then ((spec_DocInt32.f x3 x730003).bind fun t769 => (some t769)) else (if x8 = 11 then (if x3.length + x730001.size < 140737488355328 then ((some (x3 ++ bytesOf x730001 : List Int)).bind fun y772 => (if y772.length < 140737488355328 then ((some (y772 ++ [0] : List Int)).bind fun y775 => (if y775.length + x730002.size < 140737488355328 then ((some (y775 ++ bytesOf x730002 : List Int)).bind fun y778 => (if y778.length < 140737488355328 then (some (y778 ++ [0])) else (none))) else (none))) else (none))) else (none)) else (if x8 = 12 then ((spec_docText.f x3 x730001).bind fun t784 => (if t784.length + x730006.length < 140737488355328 then (some (t784 ++ x730006)) else (none))) else (if x8 = 15 then ((spec_docText.f ([] : List Int) x730001).bind fun t790 => ((spec_DocBytes.f k x730007).bind fun t793 => ((spec_DocInt32.f x3 (wrap64 ((wrap64 (4 + (t790.length : Int))) + (t793.length : Int)))).bind fun t796 => (if t796.length + t790.length < 140737488355328 then ((some (t796 ++ t790 : List Int)).bind fun y799 => (if y799.length + t793.length < 140737488355328 then (some (y799 ++ t793)) else (none))) else (none))))) else (if x8 = 19 then ((spec_DocInt64.f k x3 x730004).bind fun t805 => ((spec_DocInt64.f k t805 x730005).bind fun t808 => (some t808))) else (some x3))))))
def spec_DocValue.f : Nat → Int → ByteArray → ByteArray → Int → Int → Int → List Int → List (S95) → Option (List Int)
  | 0, _, _, _, _, _, _, _, _ => none
  | k + 1, a0_0, a0_1, a0_2, a0_3, a0_4, a0_5, l0_6, l0_7 => if a0_0 = 1 then (spec_DocValue.j0 k ([] : List Int) a0_0 (a0_0 == 1) a0_0 a0_1 a0_2 a0_3 a0_4 a0_5 l0_6 l0_7) else (spec_DocValue.j0 k ([] : List Int) a0_0 (a0_0 == 17) a0_0 a0_1 a0_2 a0_3 a0_4 a0_5 l0_6 l0_7)
end
theorem Grp_spec_DocElem.mono_l : ∀ k, (∀ y0 y1 y2 y3 y4 y5 y6 y7 y8, LeO (spec_DocElem.f k y0 y1 y2 y3 y4 y5 y6 y7 y8) (spec_DocElem.f (k + 1) y0 y1 y2 y3 y4 y5 y6 y7 y8)) ∧ (∀ y0, LeO (spec_DocBytes.f k y0) (spec_DocBytes.f (k + 1) y0)) ∧ (∀ y0 y1 y2 y3 y4 y5 y6 y7, LeO (spec_DocValue.f k y0 y1 y2 y3 y4 y5 y6 y7) (spec_DocValue.f (k + 1) y0 y1 y2 y3 y4 y5 y6 y7)) ∧ (∀ y0 y1 y2, LeO (spec_DocBytes.l0 k y0 y1 y2) (spec_DocBytes.l0 (k + 1) y0 y1 y2)) ∧ (∀ y0 y1 y2 y3 y4 y5 y6 y7 y8 y9 y10, LeO (spec_DocValue.j0 k y0 y1 y2 y3 y4 y5 y6 y7 y8 y9 y10) (spec_DocValue.j0 (k + 1) y0 y1 y2 y3 y4 y5 y6 y7 y8 y9 y10)) ∧ (∀ y0 y1 y2 y3 y4 y5 y6 y7 y8 y9 y10, LeO (spec_DocValue.j1 k y0 y1 y2 y3 y4 y5 y6 y7 y8 y9 y10) (spec_DocValue.j1 (k + 1) y0 y1 y2 y3 y4 y5 y6 y7 y8 y9 y10)) ∧ (∀ y0 y1 y2 y3 y4 y5 y6 y7 y8 y9 y10, LeO (spec_DocValue.j2 k y0 y1 y2 y3 y4 y5 y6 y7 y8 y9 y10) (spec_DocValue.j2 (k + 1) y0 y1 y2 y3 y4 y5 y6 y7 y8 y9 y10)) ∧ (∀ y0 y1 y2 y3 y4 y5 y6 y7 y8 y9 y10, LeO (spec_DocValue.j3 k y0 y1 y2 y3 y4 y5 y6 y7 y8 y9 y10) (spec_DocValue.j3 (k + 1) y0 y1 y2 y3 y4 y5 y6 y7 y8 y9 y10))
  | 0 => ⟨fun _ _ _ _ _ _ _ _ _ r h => by simp [spec_DocElem.f] at h, fun _ r h => by simp [spec_DocBytes.f] at h, fun _ _ _ _ _ _ _ _ r h => by simp [spec_DocValue.f] at h, fun _ _ _ r h => by simp [spec_DocBytes.l0] at h, fun _ _ _ _ _ _ _ _ _ _ _ r h => by simp [spec_DocValue.j0] at h, fun _ _ _ _ _ _ _ _ _ _ _ r h => by simp [spec_DocValue.j1] at h, fun _ _ _ _ _ _ _ _ _ _ _ r h => by simp [spec_DocValue.j2] at h, fun _ _ _ _ _ _ _ _ _ _ _ r h => by simp [spec_DocValue.j3] at h⟩
  | k + 1 => by
    obtain ⟨ih0, ih1, ih2, ih3, ih4, ih5, ih6, ih7⟩ := Grp_spec_DocElem.mono_l k
    refine ⟨?_, ?_, ?_, ?_, ?_, ?_, ?_, ?_⟩
    · intro y0 y1 y2 y3 y4 y5 y6 y7 y8
      unfold spec_DocElem.f
      repeat' first
      | (with_reducible exact LeO.refl _)
      | (with_reducible exact LeO.none _)
      | (with_reducible refine LeO.ite ?_ ?_)
      | (with_reducible refine LeO.bind ?_ (fun _ => ?_))
      | exact ih0 _ _ _ _ _ _ _ _ _
      | exact ih1 _
      | exact ih2 _ _ _ _ _ _ _ _
      | exact ih3 _ _ _
      | exact ih4 _ _ _ _ _ _ _ _ _ _ _
      | exact ih5 _ _ _ _ _ _ _ _ _ _ _
      | exact ih6 _ _ _ _ _ _ _ _ _ _ _
      | exact ih7 _ _ _ _ _ _ _ _ _ _ _
      | exact spec_DocInt64.mono _ _ _
      | exact LeO.none _
      | refine LeO.ite ?_ ?_
      | refine LeO.bind ?_ (fun _ => ?_)
    · intro y0
      unfold spec_DocBytes.f
      repeat' first
      | (with_reducible exact LeO.refl _)
      | (with_reducible exact LeO.none _)
      | (with_reducible refine LeO.ite ?_ ?_)
      | (with_reducible refine LeO.bind ?_ (fun _ => ?_))
      | exact ih0 _ _ _ _ _ _ _ _ _
      | exact ih1 _
      | exact ih2 _ _ _ _ _ _ _ _
      | exact ih3 _ _ _
      | exact ih4 _ _ _ _ _ _ _ _ _ _ _
      | exact ih5 _ _ _ _ _ _ _ _ _ _ _
      | exact ih6 _ _ _ _ _ _ _ _ _ _ _
      | exact ih7 _ _ _ _ _ _ _ _ _ _ _
      | exact spec_DocInt64.mono _ _ _
      | exact LeO.none _
      | refine LeO.ite ?_ ?_
      | refine LeO.bind ?_ (fun _ => ?_)
    · intro y0 y1 y2 y3 y4 y5 y6 y7
      unfold spec_DocValue.f
      repeat' first
      | (with_reducible exact LeO.refl _)
      | (with_reducible exact LeO.none _)
      | (with_reducible refine LeO.ite ?_ ?_)
      | (with_reducible refine LeO.bind ?_ (fun _ => ?_))
      | exact ih0 _ _ _ _ _ _ _ _ _
      | exact ih1 _
      | exact ih2 _ _ _ _ _ _ _ _
      | exact ih3 _ _ _
      | exact ih4 _ _ _ _ _ _ _ _ _ _ _
      | exact ih5 _ _ _ _ _ _ _ _ _ _ _
      | exact ih6 _ _ _ _ _ _ _ _ _ _ _
      | exact ih7 _ _ _ _ _ _ _ _ _ _ _
      | exact spec_DocInt64.mono _ _ _
      | exact LeO.none _
      | refine LeO.ite ?_ ?_
      | refine LeO.bind ?_ (fun _ => ?_)
    · intro y0 y1 y2
      unfold spec_DocBytes.l0
      repeat' first
      | (with_reducible exact LeO.refl _)
      | (with_reducible exact LeO.none _)
      | (with_reducible refine LeO.ite ?_ ?_)
      | (with_reducible refine LeO.bind ?_ (fun _ => ?_))
      | exact ih0 _ _ _ _ _ _ _ _ _
      | exact ih1 _
      | exact ih2 _ _ _ _ _ _ _ _
      | exact ih3 _ _ _
      | exact ih4 _ _ _ _ _ _ _ _ _ _ _
      | exact ih5 _ _ _ _ _ _ _ _ _ _ _
      | exact ih6 _ _ _ _ _ _ _ _ _ _ _
      | exact ih7 _ _ _ _ _ _ _ _ _ _ _
      | exact spec_DocInt64.mono _ _ _
      | exact LeO.none _
      | refine LeO.ite ?_ ?_
      | refine LeO.bind ?_ (fun _ => ?_)
    · intro y0 y1 y2 y3 y4 y5 y6 y7 y8 y9 y10
      unfold spec_DocValue.j0
      repeat' first
      | (with_reducible exact LeO.refl _)
      | (with_reducible exact LeO.none _)
      | (with_reducible refine LeO.ite ?_ ?_)
      | (with_reducible refine LeO.bind ?_ (fun _ => ?_))
      | exact ih0 _ _ _ _ _ _ _ _ _
      | exact ih1 _
      | exact ih2 _ _ _ _ _ _ _ _
      | exact ih3 _ _ _
      | exact ih4 _ _ _ _ _ _ _ _ _ _ _
      | exact ih5 _ _ _ _ _ _ _ _ _ _ _
      | exact ih6 _ _ _ _ _ _ _ _ _ _ _
      | exact ih7 _ _ _ _ _ _ _ _ _ _ _
      | exact spec_DocInt64.mono _ _ _
      | exact LeO.none _
      | refine LeO.ite ?_ ?_
      | refine LeO.bind ?_ (fun _ => ?_)
    · intro y0 y1 y2 y3 y4 y5 y6 y7 y8 y9 y10
      unfold spec_DocValue.j1
      repeat' first
      | (with_reducible exact LeO.refl _)
      | (with_reducible exact LeO.none _)
      | (with_reducible refine LeO.ite ?_ ?_)
      | (with_reducible refine LeO.bind ?_ (fun _ => ?_))
      | exact ih0 _ _ _ _ _ _ _ _ _
      | exact ih1 _
      | exact ih2 _ _ _ _ _ _ _ _
      | exact ih3 _ _ _
      | exact ih4 _ _ _ _ _ _ _ _ _ _ _
      | exact ih5 _ _ _ _ _ _ _ _ _ _ _
      | exact ih6 _ _ _ _ _ _ _ _ _ _ _
      | exact ih7 _ _ _ _ _ _ _ _ _ _ _
      | exact spec_DocInt64.mono _ _ _
      | exact LeO.none _
      | refine LeO.ite ?_ ?_
      | refine LeO.bind ?_ (fun _ => ?_)
    · intro y0 y1 y2 y3 y4 y5 y6 y7 y8 y9 y10
      unfold spec_DocValue.j2
      repeat' first
      | (with_reducible exact LeO.refl _)
      | (with_reducible exact LeO.none _)
      | (with_reducible refine LeO.ite ?_ ?_)
      | (with_reducible refine LeO.bind ?_ (fun _ => ?_))
      | exact ih0 _ _ _ _ _ _ _ _ _
      | exact ih1 _
      | exact ih2 _ _ _ _ _ _ _ _
      | exact ih3 _ _ _
      | exact ih4 _ _ _ _ _ _ _ _ _ _ _
      | exact ih5 _ _ _ _ _ _ _ _ _ _ _
      | exact ih6 _ _ _ _ _ _ _ _ _ _ _
      | exact ih7 _ _ _ _ _ _ _ _ _ _ _
      | exact spec_DocInt64.mono _ _ _
      | exact LeO.none _
      | refine LeO.ite ?_ ?_
      | refine LeO.bind ?_ (fun _ => ?_)
    · intro y0 y1 y2 y3 y4 y5 y6 y7 y8 y9 y10
      unfold spec_DocValue.j3
      repeat' first
      | (with_reducible exact LeO.refl _)
      | (with_reducible exact LeO.none _)
      | (with_reducible refine LeO.ite ?_ ?_)
      | (with_reducible refine LeO.bind ?_ (fun _ => ?_))
      | exact ih0 _ _ _ _ _ _ _ _ _
      | exact ih1 _
      | exact ih2 _ _ _ _ _ _ _ _
      | exact ih3 _ _ _
      | exact ih4 _ _ _ _ _ _ _ _ _ _ _
      | exact ih5 _ _ _ _ _ _ _ _ _ _ _
      | exact ih6 _ _ _ _ _ _ _ _ _ _ _
      | exact ih7 _ _ _ _ _ _ _ _ _ _ _
      | exact spec_DocInt64.mono _ _ _
      | exact LeO.none _
      | refine LeO.ite ?_ ?_
      | refine LeO.bind ?_ (fun _ => ?_)
theorem spec_DocElem.mono : ∀ a0 a1 a2 a3 a4 a5 a6 a7 a8 k, LeO (spec_DocElem.f k a0 a1 a2 a3 a4 a5 a6 a7 a8) (spec_DocElem.f (k + 1) a0 a1 a2 a3 a4 a5 a6 a7 a8) := by
  intro a0 a1 a2 a3 a4 a5 a6 a7 a8 k
  exact (Grp_spec_DocElem.mono_l k).1 a0 a1 a2 a3 a4 a5 a6 a7 a8
theorem spec_DocBytes.mono : ∀ a0 k, LeO (spec_DocBytes.f k a0) (spec_DocBytes.f (k + 1) a0) := by
  intro a0 k
  exact (Grp_spec_DocElem.mono_l k).2.1 a0
theorem spec_DocValue.mono : ∀ a0 a1 a2 a3 a4 a5 a6 a7 k, LeO (spec_DocValue.f k a0 a1 a2 a3 a4 a5 a6 a7) (spec_DocValue.f (k + 1) a0 a1 a2 a3 a4 a5 a6 a7) := by
  intro a0 a1 a2 a3 a4 a5 a6 a7 k
  exact (Grp_spec_DocElem.mono_l k).2.2.1 a0 a1 a2 a3 a4 a5 a6 a7
def spec_DocElem.Spec (k : Nat) : Prop := ∀ (a0_0 : ByteArray) (a0_1 : Int) (a0_2 : ByteArray) (a0_3 : ByteArray) (a0_4 : Int) (a0_5 : Int) (a0_6 : Int) (A0_7 : Option Addr) (c0_7 : Nat) (l0_7 : List Int) (A0_8 : Option Addr) (c0_8 : Nat) (l0_8 : List (S95)) (r : List Int) (w : World) (hr0_7 : Kd.C (Kd.int .u8) w A0_7 l0_7.length l0_7) (hc0_7 : l0_7.length ≤ c0_7) (hr0_8 : Kd.C k95 w A0_8 l0_8.length l0_8) (hc0_8 : l0_8.length ≤ c0_8) (h : spec_DocElem.f k a0_0 a0_1 a0_2 a0_3 a0_4 a0_5 a0_6 l0_7 l0_8 = some r),
    Calls Tryz.prog 95 #[.agg #[.string a0_0, .int .i64 a0_1, .string a0_2, .string a0_3, .int .i64 a0_4, .int .u64 a0_5, .int .u64 a0_6, .slice A0_7 l0_7.length c0_7, .slice A0_8 l0_8.length c0_8]] w fun e w' => ∃ v0_ : Value, e = .returned (v0_) ∧ Kd.R (Kd.int .u8) 5 w' w.heap.size (fun _ => True) v0_ r ∧ Below w.heap.size w w'
def spec_DocBytes.Spec (k : Nat) : Prop := ∀ (A0 : Option Addr) (c0 : Nat) (l0 : List (S95)) (r : List Int) (w : World) (hr0 : Kd.C k95 w A0 l0.length l0) (hc0 : l0.length ≤ c0) (h : spec_DocBytes.f k l0 = some r),
    Calls Tryz.prog 44 #[.slice A0 l0.length c0] w fun e w' => ∃ v0_ : Value, e = .returned (v0_) ∧ Kd.R (Kd.int .u8) 5 w' w.heap.size (fun _ => True) v0_ r ∧ Below w.heap.size w w'
def spec_DocValue.Spec (k : Nat) : Prop := ∀ (a0_0 : Int) (a0_1 : ByteArray) (a0_2 : ByteArray) (a0_3 : Int) (a0_4 : Int) (a0_5 : Int) (A0_6 : Option Addr) (c0_6 : Nat) (l0_6 : List Int) (A0_7 : Option Addr) (c0_7 : Nat) (l0_7 : List (S95)) (r : List Int) (w : World) (hr0_6 : Kd.C (Kd.int .u8) w A0_6 l0_6.length l0_6) (hc0_6 : l0_6.length ≤ c0_6) (hr0_7 : Kd.C k95 w A0_7 l0_7.length l0_7) (hc0_7 : l0_7.length ≤ c0_7) (h : spec_DocValue.f k a0_0 a0_1 a0_2 a0_3 a0_4 a0_5 l0_6 l0_7 = some r),
    Calls Tryz.prog 33 #[.agg #[.int .i64 a0_0, .string a0_1, .string a0_2, .int .i64 a0_3, .int .u64 a0_4, .int .u64 a0_5, .slice A0_6 l0_6.length c0_6, .slice A0_7 l0_7.length c0_7]] w fun e w' => ∃ v0_ : Value, e = .returned (v0_) ∧ Kd.R (Kd.int .u8) 5 w' w.heap.size (fun _ => True) v0_ r ∧ Below w.heap.size w w'
def Grp_spec_DocElem.Spec (k : Nat) : Prop := spec_DocElem.Spec k ∧ spec_DocBytes.Spec k ∧ spec_DocValue.Spec k
theorem Grp_spec_DocElem.get0 {k : Nat} (H : Grp_spec_DocElem.Spec k) : ∀ (a0_0 : ByteArray) (a0_1 : Int) (a0_2 : ByteArray) (a0_3 : ByteArray) (a0_4 : Int) (a0_5 : Int) (a0_6 : Int) (A0_7 : Option Addr) (c0_7 : Nat) (l0_7 : List Int) (A0_8 : Option Addr) (c0_8 : Nat) (l0_8 : List (S95)) (r : List Int) (w : World) (hr0_7 : Kd.C (Kd.int .u8) w A0_7 l0_7.length l0_7) (hc0_7 : l0_7.length ≤ c0_7) (hr0_8 : Kd.C k95 w A0_8 l0_8.length l0_8) (hc0_8 : l0_8.length ≤ c0_8) (h : spec_DocElem.f k a0_0 a0_1 a0_2 a0_3 a0_4 a0_5 a0_6 l0_7 l0_8 = some r),
    Calls Tryz.prog 95 #[.agg #[.string a0_0, .int .i64 a0_1, .string a0_2, .string a0_3, .int .i64 a0_4, .int .u64 a0_5, .int .u64 a0_6, .slice A0_7 l0_7.length c0_7, .slice A0_8 l0_8.length c0_8]] w fun e w' => ∃ v0_ : Value, e = .returned (v0_) ∧ Kd.R (Kd.int .u8) 5 w' w.heap.size (fun _ => True) v0_ r ∧ Below w.heap.size w w' := H.1
theorem Grp_spec_DocElem.get1 {k : Nat} (H : Grp_spec_DocElem.Spec k) : ∀ (A0 : Option Addr) (c0 : Nat) (l0 : List (S95)) (r : List Int) (w : World) (hr0 : Kd.C k95 w A0 l0.length l0) (hc0 : l0.length ≤ c0) (h : spec_DocBytes.f k l0 = some r),
    Calls Tryz.prog 44 #[.slice A0 l0.length c0] w fun e w' => ∃ v0_ : Value, e = .returned (v0_) ∧ Kd.R (Kd.int .u8) 5 w' w.heap.size (fun _ => True) v0_ r ∧ Below w.heap.size w w' := H.2.1
theorem Grp_spec_DocElem.get2 {k : Nat} (H : Grp_spec_DocElem.Spec k) : ∀ (a0_0 : Int) (a0_1 : ByteArray) (a0_2 : ByteArray) (a0_3 : Int) (a0_4 : Int) (a0_5 : Int) (A0_6 : Option Addr) (c0_6 : Nat) (l0_6 : List Int) (A0_7 : Option Addr) (c0_7 : Nat) (l0_7 : List (S95)) (r : List Int) (w : World) (hr0_6 : Kd.C (Kd.int .u8) w A0_6 l0_6.length l0_6) (hc0_6 : l0_6.length ≤ c0_6) (hr0_7 : Kd.C k95 w A0_7 l0_7.length l0_7) (hc0_7 : l0_7.length ≤ c0_7) (h : spec_DocValue.f k a0_0 a0_1 a0_2 a0_3 a0_4 a0_5 l0_6 l0_7 = some r),
    Calls Tryz.prog 33 #[.agg #[.int .i64 a0_0, .string a0_1, .string a0_2, .int .i64 a0_3, .int .u64 a0_4, .int .u64 a0_5, .slice A0_6 l0_6.length c0_6, .slice A0_7 l0_7.length c0_7]] w fun e w' => ∃ v0_ : Value, e = .returned (v0_) ∧ Kd.R (Kd.int .u8) 5 w' w.heap.size (fun _ => True) v0_ r ∧ Below w.heap.size w w' := H.2.2
def spec_DocElem.T1 : Bool × List (List Nat × List Nat) := (true, [([], []), ([0], [0]), ([1], [1]), ([], []), ([3], [3]), ([2, 4], [2, 4]), ([], []), ([6], [6]), ([7, 5], [7]), ([5, 8, 8], [5, 8]), ([9, 9, 0, 1, 2, 3, 4, 5, 6, 7, 8, 9], [9])])
def spec_DocElem.B1 : List Nat := [0, 1, 3, 0, 8, 31, 0, 64, 255, 511, 1023]
theorem spec_DocElem.tab1 : rtab .any (opsOf Tryz.f95 1) = spec_DocElem.T1 := by kernel_rfl
theorem spec_DocElem.bits1 : waitsOk spec_DocElem.T1.2 spec_DocElem.B1 = true := by kernel_rfl
theorem spec_DocElem.step (k : Nat) (ih : ∀ j, j < k → Grp_spec_DocElem.Spec j) : ∀ (a0_0 : ByteArray) (a0_1 : Int) (a0_2 : ByteArray) (a0_3 : ByteArray) (a0_4 : Int) (a0_5 : Int) (a0_6 : Int) (A0_7 : Option Addr) (c0_7 : Nat) (l0_7 : List Int) (A0_8 : Option Addr) (c0_8 : Nat) (l0_8 : List (S95)) (r : List Int) (w : World) (hr0_7 : Kd.C (Kd.int .u8) w A0_7 l0_7.length l0_7) (hc0_7 : l0_7.length ≤ c0_7) (hr0_8 : Kd.C k95 w A0_8 l0_8.length l0_8) (hc0_8 : l0_8.length ≤ c0_8) (h : spec_DocElem.f k a0_0 a0_1 a0_2 a0_3 a0_4 a0_5 a0_6 l0_7 l0_8 = some r),
    Calls Tryz.prog 95 #[.agg #[.string a0_0, .int .i64 a0_1, .string a0_2, .string a0_3, .int .i64 a0_4, .int .u64 a0_5, .int .u64 a0_6, .slice A0_7 l0_7.length c0_7, .slice A0_8 l0_8.length c0_8]] w fun e w' => ∃ v0_ : Value, e = .returned (v0_) ∧ Kd.R (Kd.int .u8) 5 w' w.heap.size (fun _ => True) v0_ r ∧ Below w.heap.size w w' := by
  intro a0_0 a0_1 a0_2 a0_3 a0_4 a0_5 a0_6 A0_7 c0_7 l0_7 A0_8 c0_8 l0_8 r w hr0_7 hc0_7 hr0_8 hc0_8 h
  cases k with
  | zero => exact absurd h (by simp [spec_DocElem.f])
  | succ k =>
  simp only [spec_DocElem.f] at h
  have hu95 := Tryz.underlying95; have hu44 := Tryz.underlying44; have HR0_7 := Aside0.mk hr0_7; have HC0_7 := Aside0.mk hc0_7; clear hr0_7 hc0_7; have HR0_8 := Aside0.mk hr0_8; have HC0_8 := Aside0.mk hc0_8; clear hr0_8 hc0_8; have HB := Aside0.mk (Below.refl w.heap.size w); have H : ((spec_DocHead.f a0_1 a0_0).bind fun t704 => ((spec_DocValue.f k a0_1 a0_2 a0_3 a0_4 a0_5 a0_6 l0_7 l0_8).bind fun t707 => (if t704.length + t707.length < 140737488355328 then (some (t704 ++ t707)) else (none)))) = some r := h; clear h; replace H := Option.bind_eq_some_iff.mp H; obtain ⟨t704, A20, H⟩ := H; replace H : ((spec_DocValue.f k a0_1 a0_2 a0_3 a0_4 a0_5 a0_6 l0_7 l0_8).bind fun t707 => (if t704.length + t707.length < 140737488355328 then (some (t704 ++ t707)) else (none))) = some r := H; have A2 := Aside0.mk A20; clear A20; replace H := Option.bind_eq_some_iff.mp H; obtain ⟨t707, A30, H⟩ := H; replace H : (if t704.length + t707.length < 140737488355328 then (some (t704 ++ t707)) else (none)) = some r := H; have A3 := Aside0.mk A30; clear A30
  by_cases c4 : t704.length + t707.length < 140737488355328
  rotate_left
  · rw [if_neg c4] at H
    exact absurd H (by simp)
  rw [if_pos c4] at H; have LMc4 := Aside0.mk c4; clear c4; obtain ⟨y710, hy710⟩ : ∃ y_ : List Int, y_ = (t704 ++ t707) := ⟨_, rfl⟩
  replace H : (some y710) = some r := by (try rw [hy710]); exact HW.rp
  have Ny710 := Aside0.mk hy710; clear hy710
  as_aux_lemma =>
    obtain rfl := Option.some.inj H
    go_enter Tryz.func95, Tryz.ntmps95
    try go_wp2_with (first | ((with_reducible refine gate_dst (N := 1) rfl ?_); refine box_event ?hg (N := 1) ?hd (cs := #[.string a0_0, .int .i64 a0_1, .string a0_2, .string a0_3, .int .i64 a0_4, .int .u64 a0_5, .int .u64 a0_6, .slice A0_7 l0_7.length c0_7, .slice A0_8 l0_8.length c0_8]) (t := 95) ?hr ?_; (case hd => rfl); (case hg => rfl); (case hr => first | (go_simp; done) | (go_simp; rfl)); intro gb703 hg w5 hbox hb; have n0_ := Aside0.mk (below_step HW.zb hb); have n1_ := Aside0.mk (hbox); have n3_ := Aside0.mk ((by rw [hg]; exact (below_size HW.zb) : w.heap.size ≤ gb703)); clear HB; have HB := n0_; have BK703 := n1_; have GE703 := n3_; clear n0_ n1_ n3_; clear hb hbox hg))
    replace BK703 := Aside0.mk (blk_drew BK703.out); replace HB := Aside0.mk (below_drew1 HB.out)
    refine start_ (n := 11) (S := fun w' => w'.cell? ⟨gb703, 0, none⟩ = some (.string a0_0) ∧ w'.cell? ⟨gb703, 1, none⟩ = some (.int .i64 a0_1) ∧ w'.cell? ⟨gb703, 2, none⟩ = some (.string a0_2) ∧ w'.cell? ⟨gb703, 3, none⟩ = some (.string a0_3) ∧ w'.cell? ⟨gb703, 4, none⟩ = some (.int .i64 a0_4) ∧ w'.cell? ⟨gb703, 5, none⟩ = some (.int .u64 a0_5) ∧ w'.cell? ⟨gb703, 6, none⟩ = some (.int .u64 a0_6) ∧ w'.cell? ⟨gb703, 7, none⟩ = some (.slice A0_7 l0_7.length c0_7) ∧ w'.cell? ⟨gb703, 8, none⟩ = some (.slice A0_8 l0_8.length c0_8)) (ds := []) #[ff,ff,ff,ff,ff,ff,ff,ff,ff,ff,ff] (by kernel_rfl) rfl rfl ⟨(blk_cell BK703.out 0).trans rfl, (blk_cell BK703.out 1).trans rfl, (blk_cell BK703.out 2).trans rfl, (blk_cell BK703.out 3).trans rfl, (blk_cell BK703.out 4).trans rfl, (blk_cell BK703.out 5).trans rfl, (blk_cell BK703.out 6).trans rfl, (blk_cell BK703.out 7).trans rfl, (blk_cell BK703.out 8).trans rfl⟩ (fun hHeld => ?_); refine with_tabW spec_DocElem.tab1 spec_DocElem.bits1 (fun HT_ HW_ => ?_)
    generalize w5.drew = w6 at BK703 HB hHeld ⊢
    refine HW.pz (i := 0) (N := some 3) #[tt,ff,ff,ff,ff,ff,ff,ff,ff,ff,ff] ?_ (hc := any_of HT_.out (by kernel_rfl))
    refine HW.pz (i := 1) (N := some 4) #[tt,tt,ff,ff,ff,ff,ff,ff,ff,ff,ff] ?_ (hc := any_of HT_.out (by kernel_rfl))
    refine HW.pz (i := 3) (N := some 6) #[tt,tt,ff,tt,ff,ff,ff,ff,ff,ff,ff] ?_ (hc := any_of HT_.out (by kernel_rfl))
    refine HW.pz (i := 6) (N := some 9) #[tt,tt,ff,tt,ff,ff,tt,ff,ff,ff,ff] ?_ (hc := any_of HT_.out (by kernel_rfl))
    refine take_ (i := 2) (N := some 5) (v := ?_) (a' := ?_) #[tt,tt,tt,tt,ff,ff,tt,ff,ff,ff,ff] rfl rfl (take_ofW HT_.out HW_.out (by kernel_rfl)) (fun _ _ _ h => h) (Or.inl ⟨by rfl, ?_⟩) hHeld ?_ ?_
    rotate_left
    · rintro w' ⟨s0, s1, s2, s3, s4, s5, s6, s7, s8⟩
      go_simp
      with_reducible rfl
    rotate_left
    · exact HW.pt
    refine take_ (i := 4) (N := some 7) (v := ?_) (a' := ?_) #[tt,tt,tt,tt,tt,ff,tt,ff,ff,ff,ff] rfl rfl (take_ofW HT_.out HW_.out (by kernel_rfl)) (fun _ _ _ h => h) (Or.inl ⟨by rfl, ?_⟩) hHeld ?_ ?_
    rotate_left
    · rintro w' ⟨s0, s1, s2, s3, s4, s5, s6, s7, s8⟩
      go_simp
      with_reducible rfl
    rotate_left
    · exact HW.pt
    refine take_ (i := 7) (N := some 10) (v := ?_) (a' := ?_) #[tt,tt,tt,tt,tt,ff,tt,tt,ff,ff,ff] rfl rfl (take_ofW HT_.out HW_.out (by kernel_rfl)) (fun _ _ _ h => h) (Or.inl ⟨by rfl, ?_⟩) hHeld ?_ ?_
    rotate_left
    · rintro w' ⟨s0, s1, s2, s3, s4, s5, s6, s7, s8⟩
      go_simp
      with_reducible rfl
    rotate_left
    · exact HW.pt
    refine one_ (i := 5) (N := some 8) #[tt,tt,tt,tt,tt,tt,tt,tt,ff,ff,ff] rfl rfl (one_of HT_.out (by kernel_rfl)) (by decide) (fun K hK => ?_)
    refine goes_ Tryz.func37 (by kernel_rfl) rfl #[.int .i64 a0_1, .string a0_0] (by rfl) rfl rfl HW.mt ?_
    with_reducible refine (spec_DocHead.calls a0_1 a0_0 t704 _ A2.out).mono ?_
    rintro e w7 ⟨v705, rfl, ho0, hb⟩
    refine ⟨_, rfl, ?_⟩
    have HO706 := Aside0.mk (Kd.R_lower ho0 (below_size HW.zb)); replace BK703 := Aside0.mk (blk_below (HW.zB BK703.out) hb); replace HB := Aside0.mk (below_step HW.zb hb)
    (try clear hb)
    (try clear hk)
    (try clear ho0)
    refine hK.out _ _ ⟨(blk_cell BK703.out 0).trans rfl, (blk_cell BK703.out 1).trans rfl, (blk_cell BK703.out 2).trans rfl, (blk_cell BK703.out 3).trans rfl, (blk_cell BK703.out 4).trans rfl, (blk_cell BK703.out 5).trans rfl, (blk_cell BK703.out 6).trans rfl, (blk_cell BK703.out 7).trans rfl, (blk_cell BK703.out 8).trans rfl⟩ (fun hHeld => ?_)
    clear hK K
    refine HW.nz (N := (some 8)) ?_
    refine one_ (i := 8) (N := some 11) #[tt,tt,tt,tt,tt,tt,tt,tt,tt,ff,ff] rfl rfl (one_of HT_.out (by kernel_rfl)) (by decide) (fun K hK => ?_)
    refine goes_ Tryz.func33 (by kernel_rfl) rfl #[.agg #[.int .i64 a0_1, .string a0_2, .string a0_3, .int .i64 a0_4, .int .u64 a0_5, .int .u64 a0_6, .slice A0_7 l0_7.length c0_7, .slice A0_8 l0_8.length c0_8]] (by rfl) rfl rfl HW.mt ?_
    with_reducible refine (Grp_spec_DocElem.get2 (ih k (by omega)) a0_1 a0_2 a0_3 a0_4 a0_5 a0_6 _ _ l0_7 _ _ l0_8 t707 _ ?side1 ?side2 ?side3 ?side4 A3.out).mono ?_
    (case side1 => repeat (first | exact (Kd.C_below HR0_7.out HB.out) | (with_reducible refine Kd.C_alloc ?_ _) | (with_reducible refine Kd.C_drewN ?_ _) | (with_reducible refine Kd.C_drew ?_)))
    (case side2 => exact HC0_7.out)
    (case side3 => repeat (first | exact (Kd.C_below HR0_8.out HB.out) | (with_reducible refine Kd.C_alloc ?_ _) | (with_reducible refine Kd.C_drewN ?_ _) | (with_reducible refine Kd.C_drew ?_)))
    (case side4 => exact HC0_8.out)
    rintro e w8 ⟨v708, rfl, ho0, hb⟩
    refine ⟨_, rfl, ?_⟩
    have HO709 := Aside0.mk (Kd.R_lower (Kd.R_new' ho0 (Kd.R_lt (HW.zR HO706.out))) (below_size HW.zb)); replace HO706 := Aside0.mk (Kd.R_elder' (HW.zR HO706.out) (Kd.R_base ho0) hb); replace BK703 := Aside0.mk (blk_below (HW.zB BK703.out) hb); replace HB := Aside0.mk (below_step HW.zb hb)
    (try clear hb)
    (try clear hk)
    (try clear ho0)
    obtain ⟨Ao10, co10, eo10⟩ := Kd.R_slice HO709.out
    (first | subst eo10 | (injection eo10 with f1_ f2_ f3_; have f4_ := f1_.symm; have f5_ := f3_.symm; clear f1_ f2_ f3_; subst f4_; subst f5_))
    refine hK.out _ _ ⟨(blk_cell BK703.out 0).trans rfl, (blk_cell BK703.out 1).trans rfl, (blk_cell BK703.out 2).trans rfl, (blk_cell BK703.out 3).trans rfl, (blk_cell BK703.out 4).trans rfl, (blk_cell BK703.out 5).trans rfl, (blk_cell BK703.out 6).trans rfl, (blk_cell BK703.out 7).trans rfl, (blk_cell BK703.out 8).trans rfl⟩ (fun hHeld => ?_)
    clear hK K
    refine HW.nz (N := (some 11)) ?_
    refine one_ (i := 9) (N := some 12) #[tt,tt,tt,tt,tt,tt,tt,tt,tt,tt,ff] rfl rfl (one_of HT_.out (by kernel_rfl)) (by decide) (fun K hK => ?_)
    refine Kd.R_append_rows_step (Kd.int .u8) (w0 := w) w.heap.size (by rfl) (.tmp 8) (.tmp 11) 22 5 (.int .u8 0) 1 rfl Tryz.underlying22 info5 rfl (by decide) (by omega) v705 t704 t707 _ _ _ (fun k_ => some k_ ≠ (.slice Ao10 t707.length co10 : Value).ownBlock) (fun _ => False) rfl rfl ?aO ?aR (fun _ _ h => h) (fun _ h => h.elim) ?aF ?aB ?aS ?aL ?_
    (case aR => repeat (first | exact (Kd.R_reads' HO709.out).2.2 | (with_reducible refine Kd.C_alloc ?_ _) | (with_reducible refine Kd.C_drewN ?_ _) | (with_reducible refine Kd.C_drew ?_)))
    (case aB => exact HW.zb)
    (case aF => exact (fun k_ hk => Kd.fresh' (Kd.R_lt (HW.zR HO709.out)) k_ hk))
    (case aO => exact (HW.zR (Kd.R_mono HO706.out (fun _ hk => hk.2))))
    (case aS => exact (below_size HW.zb))
    (case aL => have := LMc4.out; omega)
    intro v711 w9 ho hb hg hat
    rw [← Ny710.out] at ho
    have n0_ := Aside0.mk (blk_grown (g := gb703) (o := .cells #[.string a0_0, .int .i64 a0_1, .string a0_2, .string a0_3, .int .i64 a0_4, .int .u64 a0_5, .int .u64 a0_6, .slice A0_7 l0_7.length c0_7, .slice A0_8 l0_8.length c0_8] 95 (0, 0)) (HW.zB BK703.out) hg (Kd.R_ne HO706.out BK703.out (by decide)))
    have n2_ := Aside0.mk (hb); have n3_ := Aside0.mk (ho); clear BK703; clear HB; clear HO706; have BK703 := n0_; have HB := n2_; have HO712 := n3_; clear n0_ n2_ n3_; clear ho hb hg hat
    refine hK.out _ _ ⟨(blk_cell BK703.out 0).trans rfl, (blk_cell BK703.out 1).trans rfl, (blk_cell BK703.out 2).trans rfl, (blk_cell BK703.out 3).trans rfl, (blk_cell BK703.out 4).trans rfl, (blk_cell BK703.out 5).trans rfl, (blk_cell BK703.out 6).trans rfl, (blk_cell BK703.out 7).trans rfl, (blk_cell BK703.out 8).trans rfl⟩ (fun hHeld => ?_)
    clear hK K
    refine HW.nz (N := (some 12)) ?_
    refine HW.pz (i := 10) (N := some 2) #[tt,tt,tt,tt,tt,tt,tt,tt,tt,tt,tt] ?_ (hc := any_of HT_.out (by kernel_rfl))
    refine done_ (done_of HT_.out (by kernel_rfl)) ?_
    try go_wp2
    go_ret
    exact ⟨_, rfl, by (with_reducible repeat (first | apply Kd.R_alloc | apply Kd.R_drewN | apply Kd.R_drew)); exact Kd.R_mono HO712.out (fun _ hk => trivial), HW.zb⟩
theorem spec_DocBytes.step (k : Nat) (ih : ∀ j, j < k → Grp_spec_DocElem.Spec j) : ∀ (A0 : Option Addr) (c0 : Nat) (l0 : List (S95)) (r : List Int) (w : World) (hr0 : Kd.C k95 w A0 l0.length l0) (hc0 : l0.length ≤ c0) (h : spec_DocBytes.f k l0 = some r),
    Calls Tryz.prog 44 #[.slice A0 l0.length c0] w fun e w' => ∃ v0_ : Value, e = .returned (v0_) ∧ Kd.R (Kd.int .u8) 5 w' w.heap.size (fun _ => True) v0_ r ∧ Below w.heap.size w w' := by
  intro A0 c0 l0 r w hr0 hc0 h
  cases k with
  | zero => exact absurd h (by simp [spec_DocBytes.f])
  | succ k =>
  simp only [spec_DocBytes.f] at h
  have hu95 := Tryz.underlying95; have HR0 := Aside0.mk hr0; have HC0 := Aside0.mk hc0; clear hr0 hc0; have HB := Aside0.mk (Below.refl w.heap.size w); have H : (spec_DocBytes.l0 k l0 ([] : List Int) 0) = some r := h; clear h; have H' := Aside0.mk H; clear H
  go_enter Tryz.func44, Tryz.ntmps44
  go_wp2
  go_loopg [3, 4] k (fun kq v3 v4 w' => ∃ (x3_1 : List Int) (x4_1 : Int), v4 = .int .i64 x4_1 ∧ Aside0 (spec_DocBytes.l0 kq l0 x3_1 x4_1 = some r) ∧ Aside0 (kq ≤ k) ∧ Aside0 (Kd.R (Kd.int .u8) 5 w' w.heap.size (fun _ => True) v3 x3_1) ∧ Aside0 (Below w.heap.size w w'))
  case atStart => exact ⟨(([] : List Int)), (0), HW.rs, H', ⟨Nat.le_refl _⟩, ⟨by first | exact Kd.R_nil _ _ _ _ _ | exact Kd.N_nil _ _ _ _ _ | exact Kd.V_nil _ _ _ _ _ | exact Kd.Q_nil _ _ _ _ _ | exact Kd.S_nil _ _ _ _ _⟩, ⟨HW.zb⟩⟩
  case round =>
    clear H'; obtain ⟨x3_1, x4_1, rfl, HA, HK1, HO_3, HB⟩ := hrel
    cases gk with
    | zero => exact absurd HA.out (by simp [spec_DocBytes.l0])
    | succ k1 =>
      have H := HA.out; clear HA
      simp only [spec_DocBytes.l0] at H
      by_cases c2 : x4_1 < (l0.length : Int)
      rotate_left
      · rw [if_neg c2] at H
        have c2b0 : decide (x4_1 < (l0.length : Int)) = false := decide_eq_false c2; clear c2; replace H := Option.bind_eq_some_iff.mp H; obtain ⟨t720, A90, H⟩ := H; replace H : (if t720.length + x3_1.length < 140737488355328 then ((some (t720 ++ x3_1 : List Int)).bind fun y723 => (if y723.length < 140737488355328 then (some (y723 ++ [0])) else (none))) else (none)) = some r := H; have A9 := Aside0.mk A90; clear A90
        by_cases c10 : t720.length + x3_1.length < 140737488355328
        rotate_left
        · rw [if_neg c10] at H
          exact absurd H (by simp)
        rw [if_pos c10] at H; have LMc10 := Aside0.mk c10; clear c10; obtain ⟨y723, hy723⟩ : ∃ y_ : List Int, y_ = (t720 ++ x3_1) := ⟨_, rfl⟩
        replace H : (if y723.length < 140737488355328 then (some (y723 ++ [0])) else (none)) = some r := by (try rw [hy723]); exact HW.rp
        have Ny723 := Aside0.mk hy723; clear hy723
        by_cases c11 : y723.length < 140737488355328
        rotate_left
        · rw [if_neg c11] at H
          exact absurd H (by simp)
        rw [if_pos c11] at H; have LMc11 := Aside0.mk c11; clear c11; obtain ⟨y726, hy726⟩ : ∃ y_ : List Int, y_ = (y723 ++ [0]) := ⟨_, rfl⟩
        replace H : (some y726) = some r := by (try rw [hy726]); exact HW.rp
        have Ny726 := Aside0.mk hy726; clear hy726
        as_aux_lemma =>
          obtain rfl := Option.some.inj H; obtain ⟨Ao12, co12, eo12⟩ := Kd.R_slice HO_3.out; subst eo12
          go_wp2_with (first | ((with_reducible refine gate_callee (f := 70) rfl ?_); refine HW.gz (some 22) rfl rfl Tryz.func70 (by kernel_rfl) rfl #[.slice none 0 0, .int .i64 (wrap64 ((x3_1.length : Int) + 5))] rfl ?_; (refine (spec_DocInt32.calls (fun k_ => some k_ = (.slice none 0 0 : Value).ownBlock) (.slice none 0 0) ([] : List Int) (wrap64 ((x3_1.length : Int) + 5)) t720 w _ ?side1 ?side2 A9.out).mono ?_); (case side1 => exact HW.zb); (case side2 => exact Kd.R_nil _ _ _ _ _); rintro e w13 ⟨v721, rfl, ho0, hb, hkp⟩; refine ⟨_, rfl, ?_⟩; have HO722 := Aside0.mk (Kd.R_mono (ok' := fun k_ => some k_ ≠ (.slice Ao12 x3_1.length co12 : Value).ownBlock) ho0 (fun k_ hk_ => Or.elim hk_ (fun hs_ => absurd hs_ (by simp [Value.ownBlock])) (fun hn_ => (Kd.fresh' (Kd.R_lt (HW.zR HO_3.out)) k_ hn_)))); replace HO_3 := Aside0.mk (Kd.R_mono (ok' := fun k_ => some k_ ≠ (v721 : Value).ownBlock) (Kd.R_keptB (HO_3.out) hkp (fun k_ hk_ hs_ => (fun e_ => by simp [Value.ownBlock] at e_) hs_)) (fun k_ hk_ => fun e_ => Or.elim (ho0.1 k_ e_.symm) (fun hs_ => hk_.2.1 hs_) (fun hn_ => Nat.not_le.2 hk_.2.2 hn_))); replace HB := Aside0.mk (hb); (try clear hb); (try clear hkp); (try clear ho0)) | ((with_reducible refine gate_builtin (b := .append) (xs := #[.tmp 23, .tmp 24]) rfl ?_); at_builtin; refine Kd.R_append_rows (Kd.int .u8) (w0 := w) w.heap.size rfl (.tmp 23) (.tmp 24) 22 5 (.int .u8 0) 1 rfl Tryz.underlying22 info5 rfl (by decide) (by omega) v721 t720 x3_1 _ _ _ (fun k_ => some k_ ≠ (.slice Ao12 x3_1.length co12 : Value).ownBlock) (fun _ => False) rfl rfl ?aO ?aR (fun _ _ h => h) (fun _ h => h.elim) ?aF ?aB ?aS ?aL ?_; (case aR => repeat (first | exact (Kd.R_reads' HO_3.out).2.2 | (with_reducible refine Kd.C_alloc ?_ _) | (with_reducible refine Kd.C_drewN ?_ _) | (with_reducible refine Kd.C_drew ?_))); (case aB => exact HW.zb); (case aF => exact (fun k_ hk => Kd.fresh' (Kd.R_lt (HW.zR HO_3.out)) k_ hk)); (case aO => exact (HW.zR HO722.out)); (case aS => exact (below_size HW.zb)); (case aL => have := LMc10.out; omega); intro v724 w14 ho hb hg hat; rw [← Ny723.out] at ho; have n0_ := Aside0.mk (Kd.R_after (ok := (fun _ => True)) (HW.zR (Kd.R_mono HO_3.out (fun _ hk => ⟨trivial, hk⟩))) hg hat); have n1_ := Aside0.mk (hb); have n2_ := Aside0.mk (ho); clear HO_3; clear HB; clear HO722; have HO_3 := n0_; have HB := n1_; have HO725 := n2_; clear n0_ n1_ n2_; clear ho hb hg hat) | ((with_reducible refine gate_builtin (b := .append) (xs := #[.tmp 26, .tmp 27]) rfl ?_); at_builtin; refine Kd.R_append (Kd.int .u8) (w0 := w) w.heap.size rfl (.tmp 26) (.tmp 27) 22 5 (.int .u8 0) 1 rfl Tryz.underlying22 info5 rfl (by decide) (by omega) v724 y723 0 [.int .u8 0] (fun k_ => some k_ ≠ (.slice Ao12 x3_1.length co12 : Value).ownBlock) (fun _ => False) rfl rfl ?aP (fun _ hk => hk.elim) ?aF ?aO ?aB ?aS ?aL ?_; (case aP => exact rfl); (case aB => exact HW.zb); (case aF => exact (fun k_ hk => Kd.fresh' (Kd.R_lt (HW.zR HO_3.out)) k_ hk)); (case aO => exact (HW.zR HO725.out)); (case aS => exact (below_size HW.zb)); (case aL => have := LMc11.out; omega); intro v727 w15 ho hb hg hat; rw [← Ny726.out] at ho; have n0_ := Aside0.mk (Kd.R_after (ok := (fun _ => True)) (HW.zR HO_3.out) hg hat); have n1_ := Aside0.mk (hb); have n2_ := Aside0.mk (ho); clear HO_3; clear HB; clear HO725; have HO_3 := n0_; have HB := n1_; have HO728 := n2_; clear n0_ n1_ n2_; clear ho hb hg hat))
          go_ret
          exact ⟨_, rfl, by (with_reducible repeat (first | apply Kd.R_alloc | apply Kd.R_drewN | apply Kd.R_drew)); exact Kd.R_mono HO728.out (fun _ hk => trivial), HW.zb⟩
      rw [if_pos c2] at H; have c2b0 : decide (x4_1 < (l0.length : Int)) = true := decide_eq_true c2; clear c2
      by_cases c3 : 0 ≤ x4_1
      rotate_left
      · rw [if_neg c3] at H
        exact absurd H (by simp)
      rw [if_pos c3] at H; have c3b0 : decide (0 ≤ x4_1) = true := decide_eq_true c3; clear c3; replace H := Option.bind_eq_some_iff.mp H; obtain ⟨t714, A40, H⟩ := H; replace H : (if x3_1.length + t714.length < 140737488355328 then (spec_DocBytes.l0 k1 l0 (x3_1 ++ t714) (wrap64 (x4_1 + 1))) else (none)) = some r := H; have A4 := Aside0.mk A40; clear A40
      by_cases c5 : x3_1.length + t714.length < 140737488355328
      rotate_left
      · rw [if_neg c5] at H
        exact absurd H (by simp)
      rw [if_pos c5] at H; have LMc5 := Aside0.mk c5; clear c5; obtain ⟨y717, hy717⟩ : ∃ y_ : List Int, y_ = (x3_1 ++ t714) := ⟨_, rfl⟩
      replace H : (spec_DocBytes.l0 k1 l0 y717 (wrap64 (x4_1 + 1))) = some r := by (try rw [hy717]); exact HW.rp
      have Ny717 := Aside0.mk hy717; clear hy717
      as_aux_lemma =>
        have H' := Aside0.mk H; clear H
        have p713 : 0 ≤ (x4_1 : Int) := HW.od
        have q713 : x4_1 < (l0.length : Int) := HW.od
        obtain ⟨ad713, A713_7, c713_7, A713_8, c713_8, e713, hx713_0, hx713_1, hx713_2, hx713_3, hx713_4, hx713_5, hx713_6, hx713_7, hx713_8, hl713_7, hi713_7, hl713_8, hi713_8⟩ := at_T95 HR0.out x4_1 p713 q713
        cases e713
        replace hx713_0 := (HB.out.cell (World.block_lt_of_cell? w _ hx713_0)).trans hx713_0; replace hx713_1 := (HB.out.cell (World.block_lt_of_cell? w _ hx713_1)).trans hx713_1; replace hx713_2 := (HB.out.cell (World.block_lt_of_cell? w _ hx713_2)).trans hx713_2; replace hx713_3 := (HB.out.cell (World.block_lt_of_cell? w _ hx713_3)).trans hx713_3; replace hx713_4 := (HB.out.cell (World.block_lt_of_cell? w _ hx713_4)).trans hx713_4; replace hx713_5 := (HB.out.cell (World.block_lt_of_cell? w _ hx713_5)).trans hx713_5; replace hx713_6 := (HB.out.cell (World.block_lt_of_cell? w _ hx713_6)).trans hx713_6; replace hx713_7 := (HB.out.cell (World.block_lt_of_cell? w _ hx713_7)).trans hx713_7; replace hx713_8 := (HB.out.cell (World.block_lt_of_cell? w _ hx713_8)).trans hx713_8; have HR713_7 := Aside0.mk hi713_7; have HC713_7 := Aside0.mk hl713_7; clear hi713_7 hl713_7; have HR713_8 := Aside0.mk hi713_8; have HC713_8 := Aside0.mk hl713_8; clear hi713_8 hl713_8; replace p713 := eq_true p713; replace q713 := eq_true q713
        go_wp2_with (first | ((with_reducible refine gate_callee (f := 95) rfl ?_); refine HW.gz (some 17) rfl rfl Tryz.func95 (by kernel_rfl) rfl #[.agg #[.string ((rd_T95 l0 x4_1).f0), .int .i64 ((rd_T95 l0 x4_1).f1.f0), .string ((rd_T95 l0 x4_1).f1.f1), .string ((rd_T95 l0 x4_1).f1.f2), .int .i64 ((rd_T95 l0 x4_1).f1.f3), .int .u64 ((rd_T95 l0 x4_1).f1.f4), .int .u64 ((rd_T95 l0 x4_1).f1.f5), .slice A713_7 ((rd_T95 l0 x4_1).f1.f6).length c713_7, .slice A713_8 ((rd_T95 l0 x4_1).f1.f7).length c713_8]] rfl ?_; (with_reducible refine (Grp_spec_DocElem.get0 (ih k1 (by have := HK1.out; omega)) ((rd_T95 l0 x4_1).f0) ((rd_T95 l0 x4_1).f1.f0) ((rd_T95 l0 x4_1).f1.f1) ((rd_T95 l0 x4_1).f1.f2) ((rd_T95 l0 x4_1).f1.f3) ((rd_T95 l0 x4_1).f1.f4) ((rd_T95 l0 x4_1).f1.f5) _ _ ((rd_T95 l0 x4_1).f1.f6) _ _ ((rd_T95 l0 x4_1).f1.f7) t714 _ ?side1 ?side2 ?side3 ?side4 A4.out).mono ?_); (case side1 => repeat (first | exact (Kd.C_below HR713_7.out HB.out) | (with_reducible refine Kd.C_alloc ?_ _) | (with_reducible refine Kd.C_drewN ?_ _) | (with_reducible refine Kd.C_drew ?_))); (case side2 => exact HC713_7.out); (case side3 => repeat (first | exact (Kd.C_below HR713_8.out HB.out) | (with_reducible refine Kd.C_alloc ?_ _) | (with_reducible refine Kd.C_drewN ?_ _) | (with_reducible refine Kd.C_drew ?_))); (case side4 => exact HC713_8.out); rintro e w6 ⟨v715, rfl, ho0, hb⟩; refine ⟨_, rfl, ?_⟩; have HO716 := Aside0.mk (Kd.R_lower (Kd.R_new' ho0 (Kd.R_lt (HW.zR HO_3.out))) (below_size HW.zb)); replace HO_3 := Aside0.mk (Kd.R_elder' (HW.zR HO_3.out) (Kd.R_base ho0) hb); replace HB := Aside0.mk (below_step HW.zb hb); (try clear hb); (try clear ho0); obtain ⟨Ao8, co8, eo8⟩ := Kd.R_slice HO716.out; subst eo8) | ((with_reducible refine gate_builtin (b := .append) (xs := #[.tmp 12, .tmp 17]) rfl ?_); at_builtin; refine Kd.R_append_rows (Kd.int .u8) (w0 := w) w.heap.size rfl (.tmp 12) (.tmp 17) 22 5 (.int .u8 0) 1 rfl Tryz.underlying22 info5 rfl (by decide) (by omega) u3 x3_1 t714 _ _ _ (fun k_ => some k_ ≠ (.slice Ao8 t714.length co8 : Value).ownBlock) (fun _ => False) rfl rfl ?aO ?aR (fun _ _ h => h) (fun _ h => h.elim) ?aF ?aB ?aS ?aL ?_; (case aR => repeat (first | exact (Kd.R_reads' HO716.out).2.2 | (with_reducible refine Kd.C_alloc ?_ _) | (with_reducible refine Kd.C_drewN ?_ _) | (with_reducible refine Kd.C_drew ?_))); (case aB => exact HW.zb); (case aF => exact (fun k_ hk => Kd.fresh' (Kd.R_lt (HW.zR HO716.out)) k_ hk)); (case aO => exact (HW.zR (Kd.R_mono HO_3.out (fun _ hk => hk.2)))); (case aS => exact (below_size HW.zb)); (case aL => have := LMc5.out; omega); intro v718 w7 ho hb hg hat; rw [← Ny717.out] at ho; have n1_ := Aside0.mk (hb); have n2_ := Aside0.mk (ho); clear HB; clear HO_3; have HB := n1_; have HO719 := n2_; clear n1_ n2_; clear ho hb hg hat))
        go_roundg k1
        case measure => have := HK1.out; omega
        case rel => exact ⟨(y717), (wrap64 (x4_1 + 1)), HW.rs, H', ⟨by have := HK1.out; omega⟩, ⟨by (with_reducible repeat (first | apply Kd.R_alloc | apply Kd.R_drewN | apply Kd.R_drew)); exact Kd.R_mono HO719.out (fun _ hk => trivial)⟩, ⟨HW.zb⟩⟩
end Go.Proofs.YtanecebppagakaaGreatDoor.PSx
