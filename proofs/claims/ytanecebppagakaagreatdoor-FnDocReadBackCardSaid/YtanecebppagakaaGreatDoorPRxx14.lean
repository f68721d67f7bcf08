import Derived.Test.YtanecebppagakaaGreatDoorPRxx0
import Derived.Test.YtanecebppagakaaGreatDoorPRxx13
namespace Go.Proofs.YtanecebppagakaaGreatDoor.PRx
open Go.Proofs.YtanecebppagakaaGreatDoor.HW (tt ff)
open Go.RowKit Go.Proofs.YtanecebppagakaaGreatDoorW.PrintWords Go.Proofs.YtanecebppagakaaGreatDoorW.PrintLast Go.Proofs.YtanecebppagakaaGreatDoorW.PrintMore
attribute [local go_sem] max2_int min2_int max_two min_two max_three min_three max_four min_four
set_option linter.unusedVariables false
set_option maxHeartbeats 8000000
set_option maxRecDepth 100000
set_option linter.unusedSimpArgs false
mutual
def spec_DocElem.f : Nat → ByteArray → Int → ByteArray → ByteArray → Int → Int → Int → List Int → List (S95) → Option (List Int)
  | 0, _, _, _, _, _, _, _, _, _ => none
  | k + 1, a0_0, a0_1, a0_2, a0_3, a0_4, a0_5, a0_6, l0_7, l0_8 => (spec_DocHead.f a0_1 a0_0).bind fun t765 => ((spec_DocValue.f k a0_1 a0_2 a0_3 a0_4 a0_5 a0_6 l0_7 l0_8).bind fun t768 => (if t765.length + t768.length < 140737488355328 then (some (t765 ++ t768)) else (none)))
def spec_DocBytes.l0 : Nat → List (S95) → List Int → Int → Option (List Int)
  | 0, _, _, _ => none
  | k + 1, x0, x3, x4 => if x4 < (x0.length : Int) then (if 0 ≤ x4 then ((spec_DocElem.f k ((rd_T95 x0 x4).f0) ((rd_T95 x0 x4).f1.f0) ((rd_T95 x0 x4).f1.f1) ((rd_T95 x0 x4).f1.f2) ((rd_T95 x0 x4).f1.f3) ((rd_T95 x0 x4).f1.f4) ((rd_T95 x0 x4).f1.f5) ((rd_T95 x0 x4).f1.f6) ((rd_T95 x0 x4).f1.f7)).bind fun t775 => (if x3.length + t775.length < 140737488355328 then (spec_DocBytes.l0 k x0 (x3 ++ t775) (wrap64 (x4 + 1))) else (none))) else (none)) else ((spec_DocInt32.f ([] : List Int) (wrap64 ((x3.length : Int) + 5))).bind fun t781 => (if t781.length + x3.length < 140737488355328 then ((some (t781 ++ x3 : List Int)).bind fun y784 => (if y784.length < 140737488355328 then (some (y784 ++ [0])) else (none))) else (none)))
def spec_DocBytes.f : Nat → List (S95) → Option (List Int)
  | 0, _ => none
  | k + 1, l0 => spec_DocBytes.l0 k l0 ([] : List Int) 0
def spec_DocValue.j0 : Nat → List Int → Int → Bool → Int → ByteArray → ByteArray → Int → Int → Int → List Int → List (S95) → Option (List Int)
  | 0, _, _, _, _, _, _, _, _, _, _, _ => none
  | k + 1, x3, x8, x9, x791000, x791001, x791002, x791003, x791004, x791005, x791006, x791007 => if x9 = true then ((spec_DocInt64.f k x3 x791004).bind fun t791 => (some t791)) else (if x8 = 2 then (spec_DocValue.j1 k x3 x8 (x8 == 2) x791000 x791001 x791002 x791003 x791004 x791005 x791006 x791007) else (if x8 = 13 then (spec_DocValue.j1 k x3 x8 (x8 == 13) x791000 x791001 x791002 x791003 x791004 x791005 x791006 x791007) else (spec_DocValue.j1 k x3 x8 (x8 == 14) x791000 x791001 x791002 x791003 x791004 x791005 x791006 x791007)))
def spec_DocValue.j1 : Nat → List Int → Int → Bool → Int → ByteArray → ByteArray → Int → Int → Int → List Int → List (S95) → Option (List Int)
  | 0, _, _, _, _, _, _, _, _, _, _, _ => none
  | k + 1, x3, x8, x16, x791000, x791001, x791002, x791003, x791004, x791005, x791006, x791007 => if x16 = true then ((spec_docText.f x3 x791001).bind fun t794 => (some t794)) else (if x8 = 3 then (spec_DocValue.j2 k x3 x8 (x8 == 3) x791000 x791001 x791002 x791003 x791004 x791005 x791006 x791007) else (spec_DocValue.j2 k x3 x8 (x8 == 4) x791000 x791001 x791002 x791003 x791004 x791005 x791006 x791007))
def spec_DocValue.j2 : Nat → List Int → Int → Bool → Int → ByteArray → ByteArray → Int → Int → Int → List Int → List (S95) → Option (List Int)
  | 0, _, _, _, _, _, _, _, _, _, _, _ => none
  | k + 1, x3, x8, x24, x791000, x791001, x791002, x791003, x791004, x791005, x791006, x791007 => if x24 = true then ((spec_DocBytes.f k x791007).bind fun t797 => (some t797)) else (if x8 = 5 then (if x791003 = 2 then ((spec_DocInt32.f x3 (wrap64 ((x791006.length : Int) + 4))).bind fun t800 => (if t800.length < 140737488355328 then ((spec_DocInt32.f (t800 ++ [2]) (x791006.length : Int)).bind fun t806 => (if t806.length + x791006.length < 140737488355328 then (some (t806 ++ x791006)) else (none))) else (none))) else ((spec_DocInt32.f x3 (x791006.length : Int)).bind fun t812 => (if t812.length < 140737488355328 then ((some (t812 ++ [(x791003) % 256] : List Int)).bind fun y815 => (if y815.length + x791006.length < 140737488355328 then (some (y815 ++ x791006)) else (none))) else (none)))) else (if x8 = 7 then (if x3.length + x791006.length < 140737488355328 then (some (x3 ++ x791006)) else (none)) else (if x8 = 8 then (if x3.length < 140737488355328 then (some (x3 ++ [(x791003) % 256])) else (none)) else (if x8 = 9 then (spec_DocValue.j3 k x3 x8 (x8 == 9) x791000 x791001 x791002 x791003 x791004 x791005 x791006 x791007) else (spec_DocValue.j3 k x3 x8 (x8 == 18) x791000 x791001 x791002 x791003 x791004 x791005 x791006 x791007)))))
def spec_DocValue.j3 : Nat → List Int → Int → Bool → Int → ByteArray → ByteArray → Int → Int → Int → List Int → List (S95) → Option (List Int)
  | 0, _, _, _, _, _, _, _, _, _, _, _ => none
  | k + 1, x3, x8, x75, x791000, x791001, x791002, x791003, x791004, x791005, x791006, x791007 => if x75 = true then ((spec_DocInt64.f k x3 (IntKind.u64.wrap (x791003))).bind fun t827 => (some t827)) else (if x8 = 16 then ((spec_DocInt32.f x3 x791003).bind fun t830 => (some t830)) else (if x8 = 11 then (if x3.length + x791001.size < 140737488355328 then ((some (x3 ++ bytesOf x791001 : List Int)).bind fun y833 => (if y833.length < 140737488355328 then ((some (y833 ++ [0] : List Int)).bind fun y836 => (if y836.length + x791002.size < 140737488355328 then ((some (y836 ++ bytesOf x791002 : List Int)).bind fun y839 => (if y839.length < 140737488355328 then (some (y839 ++ [0])) else (none))) else (none))) else (none))) else (none)) else (if x8 = 12 then ((spec_docText.f x3 x791001).bind fun t845 => (if t845.length + x791006.length < 140737488355328 then (some (t845 ++ x791006)) else (none))) else (if x8 = 15 then ((spec_docText.f ([] : List Int) x791001).bind fun t851 => ((spec_DocBytes.f k x791007).bind fun t854 => ((spec_DocInt32.f x3 (wrap64 ((wrap64 (4 + (t851.length : Int))) + (t854.length : Int)))).bind fun t857 => (if t857.length + t851.length < 140737488355328 then ((some (t857 ++ t851 : List Int)).bind fun y860 => (if y860.length + t854.length < 140737488355328 then (some (y860 ++ t854)) else (none))) else (none))))) else (if x8 = 19 then ((spec_DocInt64.f k x3 x791004).bind fun t866 => ((spec_DocInt64.f k t866 x791005).bind fun t869 => (some t869))) else (some x3))))))
def spec_DocValue.f : Nat → Int → ByteArray → ByteArray → Int → Int → Int → List Int → List (S95) → Option (List Int)
  | 0, _, _, _, _, _, _, _, _ => none
  | k + 1, a0_0, a0_1, a0_2, a0_3, a0_4, a0_5, l0_6, l0_7 => if a0_0 = 1 then (spec_DocValue.j0 k ([] : List Int) a0_0 (a0_0 == 1) a0_0 a0_1 a0_2 a0_3 a0_4 a0_5 l0_6 l0_7) else (spec_DocValue.j0 k ([] : List Int) a0_0 (a0_0 == 17) a0_0 a0_1 a0_2 a0_3 a0_4 a0_5 l0_6 l0_7)
end
theorem Grp_spec_DocElem.mono_l : ∀ k, (∀ y0 y1 y2 y3 y4 y5 y6 y7 y8, LeO (spec_DocElem.f k y0 y1 y2 y3 y4 y5 y6 y7 y8) (spec_DocElem.f (k + 1) y0 y1 y2 y3 y4 y5 y6 y7 y8)) ∧ (∀ y0, LeO (spec_DocBytes.f k y0) (spec_DocBytes.f (k + 1) y0)) ∧ (∀ y0 y1 y2 y3 y4 y5 y6 y7, LeO (spec_DocValue.f k y0 y1 y2 y3 y4 y5 y6 y7) (spec_DocValue.f (k + 1) y0 y1 y2 y3 y4 y5 y6 y7)) ∧ (∀ y0 y1 y2, LeO (spec_DocBytes.l0 k y0 y1 y2) (spec_DocBytes.l0 (k + 1) y0 y1 y2)) ∧ (∀ y0 y1 y2 y3 y4 y5 y6 y7 y8 y9 y10, LeO (spec_DocValue.j0 k y0 y1 y2 y3 y4 y5 y6 y7 y8 y9 y10) (spec_DocValue.j0 (k + 1) y0 y1 y2 y3 y4 y5 y6 y7 y8 y9 y10)) ∧ (∀ y0 y1 y2 y3 y4 y5 y6 y7 y8 y9 y10, LeO (spec_DocValue.j1 k y0 y1 y2 y3 y4 y5 y6 y7 y8 y9 y10) (spec_DocValue.j1 (k + 1) y0 y1 y2 y3 y4 y5 y6 y7 y8 y9 y10)) ∧ (∀ y0 y1 y2 y3 y4 y5 y6 y7 y8 y9 y10, LeO (spec_DocValue.j2 k y0 y1 y2 y3 y4 y5 y6 y7 y8 y9 y10) (spec_DocValue.j2 (k + 1) y0 y1 y2 y3 y4 y5 y6 y7 y8 y9 y10)) ∧ (∀ y0 y1 y2 y3 y4 y5 y6 y7 y8 y9 y10, LeO (spec_DocValue.j3 k y0 y1 y2 y3 y4 y5 y6 y7 y8 y9 y10) (spec_DocValue.j3 (k + 1) y0 y1 y2 y3 y4 y5 y6 y7 y8 y9 y10))
  | 0 => ⟨fun _ _ _ _ _ _ _ _ _ r h => by simp [spec_DocElem.f] at h, fun _ r h => by simp [spec_DocBytes.f] at h, fun _ _ _ _ _ _ _ _ r h => by simp [spec_DocValue.f] at h, fun _ _ _ r h => by simp [spec_DocBytes.l0] at h, fun _ _ _ _ _ _ _ _ _ _ _ r h => by simp [spec_DocValue.j0] at h, fun _ _ _ _ _ _ _ _ _ _ _ r h => by simp [spec_DocValue.j1] at h, fun _ _ _ _ _ _ _ _ _ _ _ r h => by simp [spec_DocValue.j2] at h, fun _ _ _ _ _ _ _ _ _ _ _ r h => by simp [spec_DocValue.j3] at h⟩
  | k + 1 => by
    obtain ⟨ih0, ih1, ih2, ih3, ih4, ih5, ih6, ih7⟩ := Grp_spec_DocElem.mono_l k
    refine ⟨?_, ?_, ?_, ?_, ?_, ?_, ?_, ?_⟩
    · intro y0 y1 y2 y3 y4 y5 y6 y7 y8
      unfold spec_DocElem.f
      repeat' first
      | (with_reducible exact LeO.refl _)
      | (with_reducible exact LeO.none _)
      | (with_reducible refine LeO.ite ?_ ?_)
      | (with_reducible refine LeO.bind ?_ (fun _ => ?_))
      | exact ih0 _ _ _ _ _ _ _ _ _
      | exact ih1 _
      | exact ih2 _ _ _ _ _ _ _ _
      | exact ih3 _ _ _
      | exact ih4 _ _ _ _ _ _ _ _ _ _ _
      | exact ih5 _ _ _ _ _ _ _ _ _ _ _
      | exact ih6 _ _ _ _ _ _ _ _ _ _ _
      | exact ih7 _ _ _ _ _ _ _ _ _ _ _
      | exact spec_DocInt64.mono _ _ _
      | exact LeO.none _
      | refine LeO.ite ?_ ?_
      | refine LeO.bind ?_ (fun _ => ?_)
    · intro y0
      unfold spec_DocBytes.f
      repeat' first
      | (with_reducible exact LeO.refl _)
      | (with_reducible exact LeO.none _)
      | (with_reducible refine LeO.ite ?_ ?_)
      | (with_reducible refine LeO.bind ?_ (fun _ => ?_))
      | exact ih0 _ _ _ _ _ _ _ _ _
      | exact ih1 _
      | exact ih2 _ _ _ _ _ _ _ _
      | exact ih3 _ _ _
      | exact ih4 _ _ _ _ _ _ _ _ _ _ _
      | exact ih5 _ _ _ _ _ _ _ _ _ _ _
      | exact ih6 _ _ _ _ _ _ _ _ _ _ _
      | exact ih7 _ _ _ _ _ _ _ _ _ _ _
      | exact spec_DocInt64.mono _ _ _
      | exact LeO.none _
      | refine LeO.ite ?_ ?_
      | refine LeO.bind ?_ (fun _ => ?_)
    · intro y0 y1 y2 y3 y4 y5 y6 y7
      unfold spec_DocValue.f
      repeat' first
      | (with_reducible exact LeO.refl _)
      | (with_reducible exact LeO.none _)
      | (with_reducible refine LeO.ite ?_ ?_)
      | (with_reducible refine LeO.bind ?_ (fun _ => ?_))
      | exact ih0 _ _ _ _ _ _ _ _ _
      | exact ih1 _
      | exact ih2 _ _ _ _ _ _ _ _
      | exact ih3 _ _ _
      | exact ih4 _ _ _ _ _ _ _ _ _ _ _
      | exact ih5 _ _ _ _ _ _ _ _ _ _ _
      | exact ih6 _ _ _ _ _ _ _ _ _ _ _
      | exact ih7 _ _ _ _ _ _ _ _ _ _ _
      | exact spec_DocInt64.mono _ _ _
      | exact LeO.none _
      | refine LeO.ite ?_ ?_
      | refine LeO.bind ?_ (fun _ => ?_)
    · intro y0 y1 y2
      unfold spec_DocBytes.l0
      repeat' first
      | (with_reducible exact LeO.refl _)
      | (with_reducible exact LeO.none _)
      | (with_reducible refine LeO.ite ?_ ?_)
      | (with_reducible refine LeO.bind ?_ (fun _ => ?_))
      | exact ih0 _ _ _ _ _ _ _ _ _
      | exact ih1 _
      | exact ih2 _ _ _ _ _ _ _ _
      | exact ih3 _ _ _
      | exact ih4 _ _ _ _ _ _ _ _ _ _ _
      | exact ih5 _ _ _ _ _ _ _ _ _ _ _
      | exact ih6 _ _ _ _ _ _ _ _ _ _ _
      | exact ih7 _ _ _ _ _ _ _ _ _ _ _
      | exact spec_DocInt64.mono _ _ _
      | exact LeO.none _
      | refine LeO.ite ?_ ?_
      | refine LeO.bind ?_ (fun _ => ?_)
    · intro y0 y1 y2 y3 y4 y5 y6 y7 y8 y9 y10
      unfold spec_DocValue.j0
      repeat' first
      | (with_reducible exact LeO.refl _)
      | (with_reducible exact LeO.none _)
      | (with_reducible refine LeO.ite ?_ ?_)
      | (with_reducible refine LeO.bind ?_ (fun _ => ?_))
      | exact ih0 _ _ _ _ _ _ _ _ _
      | exact ih1 _
      | exact ih2 _ _ _ _ _ _ _ _
      | exact ih3 _ _ _
      | exact ih4 _ _ _ _ _ _ _ _ _ _ _
      | exact ih5 _ _ _ _ _ _ _ _ _ _ _
      | exact ih6 _ _ _ _ _ _ _ _ _ _ _
      | exact ih7 _ _ _ _ _ _ _ _ _ _ _
      | exact spec_DocInt64.mono _ _ _
      | exact LeO.none _
      | refine LeO.ite ?_ ?_
      | refine LeO.bind ?_ (fun _ => ?_)
    · intro y0 y1 y2 y3 y4 y5 y6 y7 y8 y9 y10
      unfold spec_DocValue.j1
      repeat' first
      | (with_reducible exact LeO.refl _)
      | (with_reducible exact LeO.none _)
      | (with_reducible refine LeO.ite ?_ ?_)
      | (with_reducible refine LeO.bind ?_ (fun _ => ?_))
      | exact ih0 _ _ _ _ _ _ _ _ _
      | exact ih1 _
      | exact ih2 _ _ _ _ _ _ _ _
      | exact ih3 _ _ _
      | exact ih4 _ _ _ _ _ _ _ _ _ _ _
      | exact ih5 _ _ _ _ _ _ _ _ _ _ _
      | exact ih6 _ _ _ _ _ _ _ _ _ _ _
      | exact ih7 _ _ _ _ _ _ _ _ _ _ _
      | exact spec_DocInt64.mono _ _ _
      | exact LeO.none _
      | refine LeO.ite ?_ ?_
      | refine LeO.bind ?_ (fun _ => ?_)
    · intro y0 y1 y2 y3 y4 y5 y6 y7 y8 y9 y10
      unfold spec_DocValue.j2
      repeat' first
      | (with_reducible exact LeO.refl _)
      | (with_reducible exact LeO.none _)
      | (with_reducible refine LeO.ite ?_ ?_)
      | (with_reducible refine LeO.bind ?_ (fun _ => ?_))
      | exact ih0 _ _ _ _ _ _ _ _ _
      | exact ih1 _
      | exact ih2 _ _ _ _ _ _ _ _
      | exact ih3 _ _ _
      | exact ih4 _ _ _ _ _ _ _ _ _ _ _
      | exact ih5 _ _ _ _ _ _ _ _ _ _ _
      | exact ih6 _ _ _ _ _ _ _ _ _ _ _
      | exact ih7 _ _ _ _ _ _ _ _ _ _ _
      | exact spec_DocInt64.mono _ _ _
      | exact LeO.none _
      | refine LeO.ite ?_ ?_
      | refine LeO.bind ?_ (fun _ => ?_)
    · intro y0 y1 y2 y3 y4 y5 y6 y7 y8 y9 y10
      unfold spec_DocValue.j3
      repeat' first
      | (with_reducible exact LeO.refl _)
      | (with_reducible exact LeO.none _)
      | (with_reducible refine LeO.ite ?_ ?_)
      | (with_reducible refine LeO.bind ?_ (fun _ => ?_))
      | exact ih0 _ _ _ _ _ _ _ _ _
      | exact ih1 _
      | exact ih2 _ _ _ _ _ _ _ _
      | exact ih3 _ _ _
      | exact ih4 _ _ _ _ _ _ _ _ _ _ _
      | exact ih5 _ _ _ _ _ _ _ _ _ _ _
      | exact ih6 _ _ _ _ _ _ _ _ _ _ _
      | exact ih7 _ _ _ _ _ _ _ _ _ _ _
      | exact spec_DocInt64.mono _ _ _
      | exact LeO.none _
      | refine LeO.ite ?_ ?_
      | refine LeO.bind ?_ (fun _ => ?_)
theorem spec_DocElem.mono : ∀ a0 a1 a2 a3 a4 a5 a6 a7 a8 k, LeO (spec_DocElem.f k a0 a1 a2 a3 a4 a5 a6 a7 a8) (spec_DocElem.f (k + 1) a0 a1 a2 a3 a4 a5 a6 a7 a8) := by
  intro a0 a1 a2 a3 a4 a5 a6 a7 a8 k
  exact (Grp_spec_DocElem.mono_l k).1 a0 a1 a2 a3 a4 a5 a6 a7 a8
theorem spec_DocBytes.mono : ∀ a0 k, LeO (spec_DocBytes.f k a0) (spec_DocBytes.f (k + 1) a0) := by
  intro a0 k
  exact (Grp_spec_DocElem.mono_l k).2.1 a0
theorem spec_DocValue.mono : ∀ a0 a1 a2 a3 a4 a5 a6 a7 k, LeO (spec_DocValue.f k a0 a1 a2 a3 a4 a5 a6 a7) (spec_DocValue.f (k + 1) a0 a1 a2 a3 a4 a5 a6 a7) := by
  intro a0 a1 a2 a3 a4 a5 a6 a7 k
  exact (Grp_spec_DocElem.mono_l k).2.2.1 a0 a1 a2 a3 a4 a5 a6 a7
def spec_DocElem.Spec (k : Nat) : Prop := ∀ (a0_0 : ByteArray) (a0_1 : Int) (a0_2 : ByteArray) (a0_3 : ByteArray) (a0_4 : Int) (a0_5 : Int) (a0_6 : Int) (A0_7 : Option Addr) (c0_7 : Nat) (l0_7 : List Int) (A0_8 : Option Addr) (c0_8 : Nat) (l0_8 : List (S95)) (r : List Int) (w : World) (hr0_7 : Kd.C (Kd.int .u8) w A0_7 l0_7.length l0_7) (hc0_7 : l0_7.length ≤ c0_7) (hr0_8 : Kd.C k95 w A0_8 l0_8.length l0_8) (hc0_8 : l0_8.length ≤ c0_8) (h : spec_DocElem.f k a0_0 a0_1 a0_2 a0_3 a0_4 a0_5 a0_6 l0_7 l0_8 = some r),
    Calls Tryz.prog 95 #[.agg #[.string a0_0, .int .i64 a0_1, .string a0_2, .string a0_3, .int .i64 a0_4, .int .u64 a0_5, .int .u64 a0_6, .slice A0_7 l0_7.length c0_7, .slice A0_8 l0_8.length c0_8]] w fun e w' => ∃ v0_ : Value, e = .returned (v0_) ∧ Kd.R (Kd.int .u8) 5 w' w.heap.size (fun _ => True) v0_ r ∧ Below w.heap.size w w'
def spec_DocBytes.Spec (k : Nat) : Prop := ∀ (A0 : Option Addr) (c0 : Nat) (l0 : List (S95)) (r : List Int) (w : World) (hr0 : Kd.C k95 w A0 l0.length l0) (hc0 : l0.length ≤ c0) (h : spec_DocBytes.f k l0 = some r),
    Calls Tryz.prog 44 #[.slice A0 l0.length c0] w fun e w' => ∃ v0_ : Value, e = .returned (v0_) ∧ Kd.R (Kd.int .u8) 5 w' w.heap.size (fun _ => True) v0_ r ∧ Below w.heap.size w w'
def spec_DocValue.Spec (k : Nat) : Prop := ∀ (a0_0 : Int) (a0_1 : ByteArray) (a0_2 : ByteArray) (a0_3 : Int) (a0_4 : Int) (a0_5 : Int) (A0_6 : Option Addr) (c0_6 : Nat) (l0_6 : List Int) (A0_7 : Option Addr) (c0_7 : Nat) (l0_7 : List (S95)) (r : List Int) (w : World) (hr0_6 : Kd.C (Kd.int .u8) w A0_6 l0_6.length l0_6) (hc0_6 : l0_6.length ≤ c0_6) (hr0_7 : Kd.C k95 w A0_7 l0_7.length l0_7) (hc0_7 : l0_7.length ≤ c0_7) (h : spec_DocValue.f k a0_0 a0_1 a0_2 a0_3 a0_4 a0_5 l0_6 l0_7 = some r),
    Calls Tryz.prog 33 #[.agg #[.int .i64 a0_0, .string a0_1, .string a0_2, .int .i64 a0_3, .int .u64 a0_4, .int .u64 a0_5, .slice A0_6 l0_6.length c0_6, .slice A0_7 l0_7.length c0_7]] w fun e w' => ∃ v0_ : Value, e = .returned (v0_) ∧ Kd.R (Kd.int .u8) 5 w' w.heap.size (fun _ => True) v0_ r ∧ Below w.heap.size w w'
def Grp_spec_DocElem.Spec (k : Nat) : Prop := spec_DocElem.Spec k ∧ spec_DocBytes.Spec k ∧ spec_DocValue.Spec k
theorem Grp_spec_DocElem.get0 {k : Nat} (H : Grp_spec_DocElem.Spec k) : ∀ (a0_0 : ByteArray) (a0_1 : Int) (a0_2 : ByteArray) (a0_3 : ByteArray) (a0_4 : Int) (a0_5 : Int) (a0_6 : Int) (A0_7 : Option Addr) (c0_7 : Nat) (l0_7 : List Int) (A0_8 : Option Addr) (c0_8 : Nat) (l0_8 : List (S95)) (r : List Int) (w : World) (hr0_7 : Kd.C (Kd.int .u8) w A0_7 l0_7.length l0_7) (hc0_7 : l0_7.length ≤ c0_7) (hr0_8 : Kd.C k95 w A0_8 l0_8.length l0_8) (hc0_8 : l0_8.length ≤ c0_8) (h : spec_DocElem.f k a0_0 a0_1 a0_2 a0_3 a0_4 a0_5 a0_6 l0_7 l0_8 = some r),
    Calls Tryz.prog 95 #[.agg #[.string a0_0, .int .i64 a0_1, .string a0_2, .string a0_3, .int .i64 a0_4, .int .u64 a0_5, .int .u64 a0_6, .slice A0_7 l0_7.length c0_7, .slice A0_8 l0_8.length c0_8]] w fun e w' => ∃ v0_ : Value, e = .returned (v0_) ∧ Kd.R (Kd.int .u8) 5 w' w.heap.size (fun _ => True) v0_ r ∧ Below w.heap.size w w' := H.1
theorem Grp_spec_DocElem.get1 {k : Nat} (H : Grp_spec_DocElem.Spec k) : ∀ (A0 : Option Addr) (c0 : Nat) (l0 : List (S95)) (r : List Int) (w : World) (hr0 : Kd.C k95 w A0 l0.length l0) (hc0 : l0.length ≤ c0) (h : spec_DocBytes.f k l0 = some r),
    Calls Tryz.prog 44 #[.slice A0 l0.length c0] w fun e w' => ∃ v0_ : Value, e = .returned (v0_) ∧ Kd.R (Kd.int .u8) 5 w' w.heap.size (fun _ => True) v0_ r ∧ Below w.heap.size w w' := H.2.1
theorem Grp_spec_DocElem.get2 {k : Nat} (H : Grp_spec_DocElem.Spec k) : ∀ (a0_0 : Int) (a0_1 : ByteArray) (a0_2 : ByteArray) (a0_3 : Int) (a0_4 : Int) (a0_5 : Int) (A0_6 : Option Addr) (c0_6 : Nat) (l0_6 : List Int) (A0_7 : Option Addr) (c0_7 : Nat) (l0_7 : List (S95)) (r : List Int) (w : World) (hr0_6 : Kd.C (Kd.int .u8) w A0_6 l0_6.length l0_6) (hc0_6 : l0_6.length ≤ c0_6) (hr0_7 : Kd.C k95 w A0_7 l0_7.length l0_7) (hc0_7 : l0_7.length ≤ c0_7) (h : spec_DocValue.f k a0_0 a0_1 a0_2 a0_3 a0_4 a0_5 l0_6 l0_7 = some r),
    Calls Tryz.prog 33 #[.agg #[.int .i64 a0_0, .string a0_1, .string a0_2, .int .i64 a0_3, .int .u64 a0_4, .int .u64 a0_5, .slice A0_6 l0_6.length c0_6, .slice A0_7 l0_7.length c0_7]] w fun e w' => ∃ v0_ : Value, e = .returned (v0_) ∧ Kd.R (Kd.int .u8) 5 w' w.heap.size (fun _ => True) v0_ r ∧ Below w.heap.size w w' := H.2.2
def spec_DocElem.T1 : Bool × List (List Nat × List Nat) := (true, [([], []), ([0], [0]), ([1], [1]), ([], []), ([3], [3]), ([2, 4], [2, 4]), ([], []), ([6], [6]), ([7, 5], [7]), ([5, 8, 8], [5, 8]), ([9, 9, 0, 1, 2, 3, 4, 5, 6, 7, 8, 9], [9])])
def spec_DocElem.B1 : List Nat := [0, 1, 3, 0, 8, 31, 0, 64, 255, 511, 1023]
theorem spec_DocElem.tab1 : rtab .any (opsOf Tryz.f95 1) = spec_DocElem.T1 := by kernel_rfl
theorem spec_DocElem.bits1 : waitsOk spec_DocElem.T1.2 spec_DocElem.B1 = true := by kernel_rfl
theorem spec_DocElem.step (k : Nat) (ih : ∀ j, j < k → Grp_spec_DocElem.Spec j) : ∀ (a0_0 : ByteArray) (a0_1 : Int) (a0_2 : ByteArray) (a0_3 : ByteArray) (a0_4 : Int) (a0_5 : Int) (a0_6 : Int) (A0_7 : Option Addr) (c0_7 : Nat) (l0_7 : List Int) (A0_8 : Option Addr) (c0_8 : Nat) (l0_8 : List (S95)) (r : List Int) (w : World) (hr0_7 : Kd.C (Kd.int .u8) w A0_7 l0_7.length l0_7) (hc0_7 : l0_7.length ≤ c0_7) (hr0_8 : Kd.C k95 w A0_8 l0_8.length l0_8) (hc0_8 : l0_8.length ≤ c0_8) (h : spec_DocElem.f k a0_0 a0_1 a0_2 a0_3 a0_4 a0_5 a0_6 l0_7 l0_8 = some r),
    Calls Tryz.prog 95 #[.agg #[.string a0_0, .int .i64 a0_1, .string a0_2, .string a0_3, .int .i64 a0_4, .int .u64 a0_5, .int .u64 a0_6, .slice A0_7 l0_7.length c0_7, .slice A0_8 l0_8.length c0_8]] w fun e w' => ∃ v0_ : Value, e = .returned (v0_) ∧ Kd.R (Kd.int .u8) 5 w' w.heap.size (fun _ => True) v0_ r ∧ Below w.heap.size w w' := by
  intro a0_0 a0_1 a0_2 a0_3 a0_4 a0_5 a0_6 A0_7 c0_7 l0_7 A0_8 c0_8 l0_8 r w hr0_7 hc0_7 hr0_8 hc0_8 h
  cases k with
  | zero => exact absurd h (by simp [spec_DocElem.f])
  | succ k =>
  simp only [spec_DocElem.f] at h
  have hu95 := Tryz.underlying95; have hu44 := Tryz.underlying44; have HR0_7 := Aside0.mk hr0_7; have HC0_7 := Aside0.mk hc0_7; clear hr0_7 hc0_7; have HR0_8 := Aside0.mk hr0_8; have HC0_8 := Aside0.mk hc0_8; clear hr0_8 hc0_8; have HB := Aside0.mk (Below.refl w.heap.size w); have H : ((spec_DocHead.f a0_1 a0_0).bind fun t765 => ((spec_DocValue.f k a0_1 a0_2 a0_3 a0_4 a0_5 a0_6 l0_7 l0_8).bind fun t768 => (if t765.length + t768.length < 140737488355328 then (some (t765 ++ t768)) else (none)))) = some r := h; clear h; replace H := Option.bind_eq_some_iff.mp H; obtain ⟨t765, A20, H⟩ := H; replace H : ((spec_DocValue.f k a0_1 a0_2 a0_3 a0_4 a0_5 a0_6 l0_7 l0_8).bind fun t768 => (if t765.length + t768.length < 140737488355328 then (some (t765 ++ t768)) else (none))) = some r := H; have A2 := Aside0.mk A20; clear A20; replace H := Option.bind_eq_some_iff.mp H; obtain ⟨t768, A30, H⟩ := H; replace H : (if t765.length + t768.length < 140737488355328 then (some (t765 ++ t768)) else (none)) = some r := H; have A3 := Aside0.mk A30; clear A30
  by_cases c4 : t765.length + t768.length < 140737488355328
  rotate_left
  · rw [if_neg c4] at H
    exact absurd H (by simp)
  rw [if_pos c4] at H; have LMc4 := Aside0.mk c4; clear c4; obtain ⟨y771, hy771⟩ : ∃ y_ : List Int, y_ = (t765 ++ t768) := ⟨_, rfl⟩
  replace H : (some y771) = some r := by (try rw [hy771]); exact HW.rp
  have Ny771 := Aside0.mk hy771; clear hy771
  as_aux_lemma =>
    obtain rfl := Option.some.inj H
    go_enter Tryz.func95, Tryz.ntmps95
    try go_wp2_with (first | ((with_reducible refine gate_dst (N := 1) rfl ?_); refine box_event ?hg (N := 1) ?hd (cs := #[.string a0_0, .int .i64 a0_1, .string a0_2, .string a0_3, .int .i64 a0_4, .int .u64 a0_5, .int .u64 a0_6, .slice A0_7 l0_7.length c0_7, .slice A0_8 l0_8.length c0_8]) (t := 95) ?hr ?_; (case hd => rfl); (case hg => rfl); (case hr => first | (go_simp; done) | (go_simp; rfl)); intro gb764 hg w5 hbox hb; have n0_ := Aside0.mk (below_step HW.zb hb); have n1_ := Aside0.mk (hbox); have n3_ := Aside0.mk ((by rw [hg]; exact (below_size HW.zb) : w.heap.size ≤ gb764)); clear HB; have HB := n0_; have BK764 := n1_; have GE764 := n3_; clear n0_ n1_ n3_; clear hb hbox hg))
    replace BK764 := Aside0.mk (blk_drew BK764.out); replace HB := Aside0.mk (below_drew1 HB.out)
    refine start_ (n := 11) (S := fun w' => w'.cell? ⟨gb764, 0, none⟩ = some (.string a0_0) ∧ w'.cell? ⟨gb764, 1, none⟩ = some (.int .i64 a0_1) ∧ w'.cell? ⟨gb764, 2, none⟩ = some (.string a0_2) ∧ w'.cell? ⟨gb764, 3, none⟩ = some (.string a0_3) ∧ w'.cell? ⟨gb764, 4, none⟩ = some (.int .i64 a0_4) ∧ w'.cell? ⟨gb764, 5, none⟩ = some (.int .u64 a0_5) ∧ w'.cell? ⟨gb764, 6, none⟩ = some (.int .u64 a0_6) ∧ w'.cell? ⟨gb764, 7, none⟩ = some (.slice A0_7 l0_7.length c0_7) ∧ w'.cell? ⟨gb764, 8, none⟩ = some (.slice A0_8 l0_8.length c0_8)) (ds := []) #[ff,ff,ff,ff,ff,ff,ff,ff,ff,ff,ff] (by kernel_rfl) rfl rfl ⟨(blk_cell BK764.out 0).trans rfl, (blk_cell BK764.out 1).trans rfl, (blk_cell BK764.out 2).trans rfl, (blk_cell BK764.out 3).trans rfl, (blk_cell BK764.out 4).trans rfl, (blk_cell BK764.out 5).trans rfl, (blk_cell BK764.out 6).trans rfl, (blk_cell BK764.out 7).trans rfl, (blk_cell BK764.out 8).trans rfl⟩ (fun hHeld => ?_); refine with_tabW spec_DocElem.tab1 spec_DocElem.bits1 (fun HT_ HW_ => ?_)
    generalize w5.drew = w6 at BK764 HB hHeld ⊢
    refine HW.pz (i := 0) (N := some 3) #[tt,ff,ff,ff,ff,ff,ff,ff,ff,ff,ff] ?_ (hc := any_of HT_.out (by kernel_rfl))
    refine HW.pz (i := 1) (N := some 4) #[tt,tt,ff,ff,ff,ff,ff,ff,ff,ff,ff] ?_ (hc := any_of HT_.out (by kernel_rfl))
    refine HW.pz (i := 3) (N := some 6) #[tt,tt,ff,tt,ff,ff,ff,ff,ff,ff,ff] ?_ (hc := any_of HT_.out (by kernel_rfl))
    refine HW.pz (i := 6) (N := some 9) #[tt,tt,ff,tt,ff,ff,tt,ff,ff,ff,ff] ?_ (hc := any_of HT_.out (by kernel_rfl))
    refine take_ (i := 2) (N := some 5) (v := ?_) (a' := ?_) #[tt,tt,tt,tt,ff,ff,tt,ff,ff,ff,ff] rfl rfl (take_ofW HT_.out HW_.out (by kernel_rfl)) (fun _ _ _ h => h) (Or.inl ⟨by rfl, ?_⟩) hHeld ?_ ?_
    rotate_left
    · rintro w' ⟨s0, s1, s2, s3, s4, s5, s6, s7, s8⟩
      go_simp
      with_reducible rfl
    rotate_left
    · exact HW.pt
    refine take_ (i := 4) (N := some 7) (v := ?_) (a' := ?_) #[tt,tt,tt,tt,tt,ff,tt,ff,ff,ff,ff] rfl rfl (take_ofW HT_.out HW_.out (by kernel_rfl)) (fun _ _ _ h => h) (Or.inl ⟨by rfl, ?_⟩) hHeld ?_ ?_
    rotate_left
    · rintro w' ⟨s0, s1, s2, s3, s4, s5, s6, s7, s8⟩
      go_simp
      with_reducible rfl
    rotate_left
    · exact HW.pt
    refine take_ (i := 7) (N := some 10) (v := ?_) (a' := ?_) #[tt,tt,tt,tt,tt,ff,tt,tt,ff,ff,ff] rfl rfl (take_ofW HT_.out HW_.out (by kernel_rfl)) (fun _ _ _ h => h) (Or.inl ⟨by rfl, ?_⟩) hHeld ?_ ?_
    rotate_left
    · rintro w' ⟨s0, s1, s2, s3, s4, s5, s6, s7, s8⟩
      go_simp
      with_reducible rfl
    rotate_left
    · exact HW.pt
    refine one_ (i := 5) (N := some 8) #[tt,tt,tt,tt,tt,tt,tt,tt,ff,ff,ff] rfl rfl (one_of HT_.out (by kernel_rfl)) (by decide) (fun K hK => ?_)
    refine goes_ Tryz.func37 (by kernel_rfl) rfl #[.int .i64 a0_1, .string a0_0] (by rfl) rfl rfl HW.mt ?_
    with_reducible refine (spec_DocHead.calls a0_1 a0_0 t765 _ A2.out).mono ?_
    rintro e w7 ⟨v766, rfl, ho0, hb⟩
    refine ⟨_, rfl, ?_⟩
    have HO767 := Aside0.mk (Kd.R_lower ho0 (below_size HW.zb)); replace BK764 := Aside0.mk (blk_below (HW.zB BK764.out) hb); replace HB := Aside0.mk (below_step HW.zb hb)
    (try clear hb)
    (try clear hk)
    (try clear ho0)
    refine hK.out _ _ ⟨(blk_cell BK764.out 0).trans rfl, (blk_cell BK764.out 1).trans rfl, (blk_cell BK764.out 2).trans rfl, (blk_cell BK764.out 3).trans rfl, (blk_cell BK764.out 4).trans rfl, (blk_cell BK764.out 5).trans rfl, (blk_cell BK764.out 6).trans rfl, (blk_cell BK764.out 7).trans rfl, (blk_cell BK764.out 8).trans rfl⟩ (fun hHeld => ?_)
    clear hK K
    refine HW.nz (N := (some 8)) ?_
    refine one_ (i := 8) (N := some 11) #[tt,tt,tt,tt,tt,tt,tt,tt,tt,ff,ff] rfl rfl (one_of HT_.out (by kernel_rfl)) (by decide) (fun K hK => ?_)
    refine goes_ Tryz.func33 (by kernel_rfl) rfl #[.agg #[.int .i64 a0_1, .string a0_2, .string a0_3, .int .i64 a0_4, .int .u64 a0_5, .int .u64 a0_6, .slice A0_7 l0_7.length c0_7, .slice A0_8 l0_8.length c0_8]] (by rfl) rfl rfl HW.mt ?_
    with_reducible refine (Grp_spec_DocElem.get2 (ih k (by omega)) a0_1 a0_2 a0_3 a0_4 a0_5 a0_6 _ _ l0_7 _ _ l0_8 t768 _ ?side1 ?side2 ?side3 ?side4 A3.out).mono ?_
    (case side1 => repeat (first | exact (Kd.C_below HR0_7.out HB.out) | (with_reducible refine Kd.C_alloc ?_ _) | (with_reducible refine Kd.C_drewN ?_ _) | (with_reducible refine Kd.C_drew ?_)))
    (case side2 => exact HC0_7.out)
    (case side3 => repeat (first | exact (Kd.C_below HR0_8.out HB.out) | (with_reducible refine Kd.C_alloc ?_ _) | (with_reducible refine Kd.C_drewN ?_ _) | (with_reducible refine Kd.C_drew ?_)))
    (case side4 => exact HC0_8.out)
    rintro e w8 ⟨v769, rfl, ho0, hb⟩
    refine ⟨_, rfl, ?_⟩
    have HO770 := Aside0.mk (Kd.R_lower (Kd.R_new' ho0 (Kd.R_lt (HW.zR HO767.out))) (below_size HW.zb)); replace HO767 := Aside0.mk (Kd.R_elder' (HW.zR HO767.out) (Kd.R_base ho0) hb); replace BK764 := Aside0.mk (blk_below (HW.zB BK764.out) hb); replace HB := Aside0.mk (below_step HW.zb hb)
    (try clear hb)
    (try clear hk)
    (try clear ho0)
    obtain ⟨Ao10, co10, eo10⟩ := Kd.R_slice HO770.out
    (first | subst eo10 | (injection eo10 with f1_ f2_ f3_; have f4_ := f1_.symm; have f5_ := f3_.symm; clear f1_ f2_ f3_; subst f4_; subst f5_))
    refine hK.out _ _ ⟨(blk_cell BK764.out 0).trans rfl, (blk_cell BK764.out 1).trans rfl, (blk_cell BK764.out 2).trans rfl, (blk_cell BK764.out 3).trans rfl, (blk_cell BK764.out 4).trans rfl, (blk_cell BK764.out 5).trans rfl, (blk_cell BK764.out 6).trans rfl, (blk_cell BK764.out 7).trans rfl, (blk_cell BK764.out 8).trans rfl⟩ (fun hHeld => ?_)
    clear hK K
    refine HW.nz (N := (some 11)) ?_
    refine one_ (i := 9) (N := some 12) #[tt,tt,tt,tt,tt,tt,tt,tt,tt,tt,ff] rfl rfl (one_of HT_.out (by kernel_rfl)) (by decide) (fun K hK => ?_)
    refine Kd.R_append_rows_step (Kd.int .u8) (w0 := w) w.heap.size (by rfl) (.tmp 8) (.tmp 11) 22 5 (.int .u8 0) 1 rfl Tryz.underlying22 info5 rfl (by decide) (by omega) v766 t765 t768 _ _ _ (fun k_ => some k_ ≠ (.slice Ao10 t768.length co10 : Value).ownBlock) (fun _ => False) rfl rfl ?aO ?aR (fun _ _ h => h) (fun _ h => h.elim) ?aF ?aB ?aS ?aL ?_
    (case aR => repeat (first | exact (Kd.R_reads' HO770.out).2.2 | (with_reducible refine Kd.C_alloc ?_ _) | (with_reducible refine Kd.C_drewN ?_ _) | (with_reducible refine Kd.C_drew ?_)))
    (case aB => exact HW.zb)
    (case aF => exact (fun k_ hk => Kd.fresh' (Kd.R_lt (HW.zR HO770.out)) k_ hk))
    (case aO => exact (HW.zR (Kd.R_mono HO767.out (fun _ hk => hk.2))))
    (case aS => exact (below_size HW.zb))
    (case aL => have := LMc4.out; omega)
    intro v772 w9 ho hb hg hat
    rw [← Ny771.out] at ho
    have n0_ := Aside0.mk (blk_grown (g := gb764) (o := .cells #[.string a0_0, .int .i64 a0_1, .string a0_2, .string a0_3, .int .i64 a0_4, .int .u64 a0_5, .int .u64 a0_6, .slice A0_7 l0_7.length c0_7, .slice A0_8 l0_8.length c0_8] 95 (0, 0)) (HW.zB BK764.out) hg (Kd.R_ne HO767.out BK764.out (by decide)))
    have n2_ := Aside0.mk (hb); have n3_ := Aside0.mk (ho); clear BK764; clear HB; clear HO767; have BK764 := n0_; have HB := n2_; have HO773 := n3_; clear n0_ n2_ n3_; clear ho hb hg hat
    refine hK.out _ _ ⟨(blk_cell BK764.out 0).trans rfl, (blk_cell BK764.out 1).trans rfl, (blk_cell BK764.out 2).trans rfl, (blk_cell BK764.out 3).trans rfl, (blk_cell BK764.out 4).trans rfl, (blk_cell BK764.out 5).trans rfl, (blk_cell BK764.out 6).trans rfl, (blk_cell BK764.out 7).trans rfl, (blk_cell BK764.out 8).trans rfl⟩ (fun hHeld => ?_)
    clear hK K
    refine HW.nz (N := (some 12)) ?_
    refine HW.pz (i := 10) (N := some 2) #[tt,tt,tt,tt,tt,tt,tt,tt,tt,tt,tt] ?_ (hc := any_of HT_.out (by kernel_rfl))
    refine done_ (done_of HT_.out (by kernel_rfl)) ?_
    try go_wp2
    go_ret
    exact ⟨_, rfl, by (with_reducible repeat (first | apply Kd.R_alloc | apply Kd.R_drewN | apply Kd.R_drew)); exact Kd.R_mono HO773.out (fun _ hk => trivial), HW.zb⟩
theorem spec_DocBytes.step (k : Nat) (ih : ∀ j, j < k → Grp_spec_DocElem.Spec j) : ∀ (A0 : Option Addr) (c0 : Nat) (l0 : List (S95)) (r : List Int) (w : World) (hr0 : Kd.C k95 w A0 l0.length l0) (hc0 : l0.length ≤ c0) (h : spec_DocBytes.f k l0 = some r),
    Calls Tryz.prog 44 #[.slice A0 l0.length c0] w fun e w' => ∃ v0_ : Value, e = .returned (v0_) ∧ Kd.R (Kd.int .u8) 5 w' w.heap.size (fun _ => True) v0_ r ∧ Below w.heap.size w w' := by
  intro A0 c0 l0 r w hr0 hc0 h
  cases k with
  | zero => exact absurd h (by simp [spec_DocBytes.f])
  | succ k =>
  simp only [spec_DocBytes.f] at h
  have hu95 := Tryz.underlying95; have HR0 := Aside0.mk hr0; have HC0 := Aside0.mk hc0; clear hr0 hc0; have HB := Aside0.mk (Below.refl w.heap.size w); have H : (spec_DocBytes.l0 k l0 ([] : List Int) 0) = some r := h; clear h; have H' := Aside0.mk H; clear H
  go_enter Tryz.func44, Tryz.ntmps44
  go_wp2
  go_loopg [3, 4] k (fun kq v3 v4 w' => ∃ (x3_1 : List Int) (x4_1 : Int), v4 = .int .i64 x4_1 ∧ Aside0 (spec_DocBytes.l0 kq l0 x3_1 x4_1 = some r) ∧ Aside0 (kq ≤ k) ∧ Aside0 (Kd.R (Kd.int .u8) 5 w' w.heap.size (fun _ => True) v3 x3_1) ∧ Aside0 (Below w.heap.size w w'))
  case atStart => exact ⟨(([] : List Int)), (0), HW.rs, H', ⟨Nat.le_refl _⟩, ⟨by first | exact Kd.R_nil _ _ _ _ _ | exact Kd.N_nil _ _ _ _ _ | exact Kd.V_nil _ _ _ _ _ | exact Kd.Q_nil _ _ _ _ _ | exact Kd.S_nil _ _ _ _ _⟩, ⟨HW.zb⟩⟩
  case round =>
    clear H'; obtain ⟨x3_1, x4_1, rfl, HA, HK1, HO_3, HB⟩ := hrel
    cases gk with
    | zero => exact absurd HA.out (by simp [spec_DocBytes.l0])
    | succ k1 =>
      have H := HA.out; clear HA
      simp only [spec_DocBytes.l0] at H
      by_cases c2 : x4_1 < (l0.length : Int)
      rotate_left
      · rw [if_neg c2] at H
        have c2b0 : decide (x4_1 < (l0.length : Int)) = false := decide_eq_false c2; clear c2; replace H := Option.bind_eq_some_iff.mp H; obtain ⟨t781, A90, H⟩ := H; replace H : (if t781.length + x3_1.length < 140737488355328 then ((some (t781 ++ x3_1 : List Int)).bind fun y784 => (if y784.length < 140737488355328 then (some (y784 ++ [0])) else (none))) else (none)) = some r := H; have A9 := Aside0.mk A90; clear A90
        by_cases c10 : t781.length + x3_1.length < 140737488355328
        rotate_left
        · rw [if_neg c10] at H
          exact absurd H (by simp)
        rw [if_pos c10] at H; have LMc10 := Aside0.mk c10; clear c10; obtain ⟨y784, hy784⟩ : ∃ y_ : List Int, y_ = (t781 ++ x3_1) := ⟨_, rfl⟩
        replace H : (if y784.length < 140737488355328 then (some (y784 ++ [0])) else (none)) = some r := by (try rw [hy784]); exact HW.rp
        have Ny784 := Aside0.mk hy784; clear hy784
        by_cases c11 : y784.length < 140737488355328
        rotate_left
        · rw [if_neg c11] at H
          exact absurd H (by simp)
        rw [if_pos c11] at H; have LMc11 := Aside0.mk c11; clear c11; obtain ⟨y787, hy787⟩ : ∃ y_ : List Int, y_ = (y784 ++ [0]) := ⟨_, rfl⟩
        replace H : (some y787) = some r := by (try rw [hy787]); exact HW.rp
        have Ny787 := Aside0.mk hy787; clear hy787
        as_aux_lemma =>
          obtain rfl := Option.some.inj H; obtain ⟨Ao12, co12, eo12⟩ := Kd.R_slice HO_3.out; subst eo12
          go_wp2_with (first | ((with_reducible refine gate_callee (f := 70) rfl ?_); refine HW.gz (some 22) rfl rfl Tryz.func70 (by kernel_rfl) rfl #[.slice none 0 0, .int .i64 (wrap64 ((x3_1.length : Int) + 5))] rfl ?_; (refine (spec_DocInt32.calls (fun k_ => some k_ = (.slice none 0 0 : Value).ownBlock) (.slice none 0 0) ([] : List Int) (wrap64 ((x3_1.length : Int) + 5)) t781 w _ ?side1 ?side2 A9.out).mono ?_); (case side1 => exact HW.zb); (case side2 => exact Kd.R_nil _ _ _ _ _); rintro e w13 ⟨v782, rfl, ho0, hb, hkp⟩; refine ⟨_, rfl, ?_⟩; have HO783 := Aside0.mk (Kd.R_mono (ok' := fun k_ => some k_ ≠ (.slice Ao12 x3_1.length co12 : Value).ownBlock) ho0 (fun k_ hk_ => Or.elim hk_ (fun hs_ => absurd hs_ (by simp [Value.ownBlock])) (fun hn_ => (Kd.fresh' (Kd.R_lt (HW.zR HO_3.out)) k_ hn_)))); replace HO_3 := Aside0.mk (Kd.R_mono (ok' := fun k_ => some k_ ≠ (v782 : Value).ownBlock) (Kd.R_keptB (HO_3.out) hkp (fun k_ hk_ hs_ => (fun e_ => by simp [Value.ownBlock] at e_) hs_)) (fun k_ hk_ => fun e_ => Or.elim (ho0.1 k_ e_.symm) (fun hs_ => hk_.2.1 hs_) (fun hn_ => Nat.not_le.2 hk_.2.2 hn_))); replace HB := Aside0.mk (hb); (try clear hb); (try clear hkp); (try clear ho0)) | ((with_reducible refine gate_builtin (b := .append) (xs := #[.tmp 23, .tmp 24]) rfl ?_); at_builtin; refine Kd.R_append_rows (Kd.int .u8) (w0 := w) w.heap.size rfl (.tmp 23) (.tmp 24) 22 5 (.int .u8 0) 1 rfl Tryz.underlying22 info5 rfl (by decide) (by omega) v782 t781 x3_1 _ _ _ (fun k_ => some k_ ≠ (.slice Ao12 x3_1.length co12 : Value).ownBlock) (fun _ => False) rfl rfl ?aO ?aR (fun _ _ h => h) (fun _ h => h.elim) ?aF ?aB ?aS ?aL ?_; (case aR => repeat (first | exact (Kd.R_reads' HO_3.out).2.2 | (with_reducible refine Kd.C_alloc ?_ _) | (with_reducible refine Kd.C_drewN ?_ _) | (with_reducible refine Kd.C_drew ?_))); (case aB => exact HW.zb); (case aF => exact (fun k_ hk => Kd.fresh' (Kd.R_lt (HW.zR HO_3.out)) k_ hk)); (case aO => exact (HW.zR HO783.out)); (case aS => exact (below_size HW.zb)); (case aL => have := LMc10.out; omega); intro v785 w14 ho hb hg hat; rw [← Ny784.out] at ho; have n0_ := Aside0.mk (Kd.R_after (ok := (fun _ => True)) (HW.zR (Kd.R_mono HO_3.out (fun _ hk => ⟨trivial, hk⟩))) hg hat); have n1_ := Aside0.mk (hb); have n2_ := Aside0.mk (ho); clear HO_3; clear HB; clear HO783; have HO_3 := n0_; have HB := n1_; have HO786 := n2_; clear n0_ n1_ n2_; clear ho hb hg hat) | ((with_reducible refine gate_builtin (b := .append) (xs := #[.tmp 26, .tmp 27]) rfl ?_); at_builtin; refine Kd.R_append (Kd.int .u8) (w0 := w) w.heap.size rfl (.tmp 26) (.tmp 27) 22 5 (.int .u8 0) 1 rfl Tryz.underlying22 info5 rfl (by decide) (by omega) v785 y784 0 [.int .u8 0] (fun k_ => some k_ ≠ (.slice Ao12 x3_1.length co12 : Value).ownBlock) (fun _ => False) rfl rfl ?aP (fun _ hk => hk.elim) ?aF ?aO ?aB ?aS ?aL ?_; (case aP => exact rfl); (case aB => exact HW.zb); (case aF => exact (fun k_ hk => Kd.fresh' (Kd.R_lt (HW.zR HO_3.out)) k_ hk)); (case aO => exact (HW.zR HO786.out)); (case aS => exact (below_size HW.zb)); (case aL => have := LMc11.out; omega); intro v788 w15 ho hb hg hat; rw [← Ny787.out] at ho; have n0_ := Aside0.mk (Kd.R_after (ok := (fun _ => True)) (HW.zR HO_3.out) hg hat); have n1_ := Aside0.mk (hb); have n2_ := Aside0.mk (ho); clear HO_3; clear HB; clear HO786; have HO_3 := n0_; have HB := n1_; have HO789 := n2_; clear n0_ n1_ n2_; clear ho hb hg hat))
          go_ret
          exact ⟨_, rfl, by (with_reducible repeat (first | apply Kd.R_alloc | apply Kd.R_drewN | apply Kd.R_drew)); exact Kd.R_mono HO789.out (fun _ hk => trivial), HW.zb⟩
      rw [if_pos c2] at H; have c2b0 : decide (x4_1 < (l0.length : Int)) = true := decide_eq_true c2; clear c2
      by_cases c3 : 0 ≤ x4_1
      rotate_left
      · rw [if_neg c3] at H
        exact absurd H (by simp)
      rw [if_pos c3] at H; have c3b0 : decide (0 ≤ x4_1) = true := decide_eq_true c3; clear c3; replace H := Option.bind_eq_some_iff.mp H; obtain ⟨t775, A40, H⟩ := H; replace H : (if x3_1.length + t775.length < 140737488355328 then (spec_DocBytes.l0 k1 l0 (x3_1 ++ t775) (wrap64 (x4_1 + 1))) else (none)) = some r := H; have A4 := Aside0.mk A40; clear A40
      by_cases c5 : x3_1.length + t775.length < 140737488355328
      rotate_left
      · rw [if_neg c5] at H
        exact absurd H (by simp)
      rw [if_pos c5] at H; have LMc5 := Aside0.mk c5; clear c5; obtain ⟨y778, hy778⟩ : ∃ y_ : List Int, y_ = (x3_1 ++ t775) := ⟨_, rfl⟩
      replace H : (spec_DocBytes.l0 k1 l0 y778 (wrap64 (x4_1 + 1))) = some r := by (try rw [hy778]); exact HW.rp
      have Ny778 := Aside0.mk hy778; clear hy778
      as_aux_lemma =>
        have H' := Aside0.mk H; clear H
        have p774 : 0 ≤ (x4_1 : Int) := HW.od
        have q774 : x4_1 < (l0.length : Int) := HW.od
        obtain ⟨ad774, A774_7, c774_7, A774_8, c774_8, e774, hx774_0, hx774_1, hx774_2, hx774_3, hx774_4, hx774_5, hx774_6, hx774_7, hx774_8, hl774_7, hi774_7, hl774_8, hi774_8⟩ := at_T95 HR0.out x4_1 p774 q774
        cases e774
        replace hx774_0 := (HB.out.cell (World.block_lt_of_cell? w _ hx774_0)).trans hx774_0; replace hx774_1 := (HB.out.cell (World.block_lt_of_cell? w _ hx774_1)).trans hx774_1; replace hx774_2 := (HB.out.cell (World.block_lt_of_cell? w _ hx774_2)).trans hx774_2; replace hx774_3 := (HB.out.cell (World.block_lt_of_cell? w _ hx774_3)).trans hx774_3; replace hx774_4 := (HB.out.cell (World.block_lt_of_cell? w _ hx774_4)).trans hx774_4; replace hx774_5 := (HB.out.cell (World.block_lt_of_cell? w _ hx774_5)).trans hx774_5; replace hx774_6 := (HB.out.cell (World.block_lt_of_cell? w _ hx774_6)).trans hx774_6; replace hx774_7 := (HB.out.cell (World.block_lt_of_cell? w _ hx774_7)).trans hx774_7; replace hx774_8 := (HB.out.cell (World.block_lt_of_cell? w _ hx774_8)).trans hx774_8; have HR774_7 := Aside0.mk hi774_7; have HC774_7 := Aside0.mk hl774_7; clear hi774_7 hl774_7; have HR774_8 := Aside0.mk hi774_8; have HC774_8 := Aside0.mk hl774_8; clear hi774_8 hl774_8; replace p774 := eq_true p774; replace q774 := eq_true q774
        go_wp2_with (first | ((with_reducible refine gate_callee (f := 95) rfl ?_); refine HW.gz (some 17) rfl rfl Tryz.func95 (by kernel_rfl) rfl #[.agg #[.string ((rd_T95 l0 x4_1).f0), .int .i64 ((rd_T95 l0 x4_1).f1.f0), .string ((rd_T95 l0 x4_1).f1.f1), .string ((rd_T95 l0 x4_1).f1.f2), .int .i64 ((rd_T95 l0 x4_1).f1.f3), .int .u64 ((rd_T95 l0 x4_1).f1.f4), .int .u64 ((rd_T95 l0 x4_1).f1.f5), .slice A774_7 ((rd_T95 l0 x4_1).f1.f6).length c774_7, .slice A774_8 ((rd_T95 l0 x4_1).f1.f7).length c774_8]] rfl ?_; (with_reducible refine (Grp_spec_DocElem.get0 (ih k1 (by have := HK1.out; omega)) ((rd_T95 l0 x4_1).f0) ((rd_T95 l0 x4_1).f1.f0) ((rd_T95 l0 x4_1).f1.f1) ((rd_T95 l0 x4_1).f1.f2) ((rd_T95 l0 x4_1).f1.f3) ((rd_T95 l0 x4_1).f1.f4) ((rd_T95 l0 x4_1).f1.f5) _ _ ((rd_T95 l0 x4_1).f1.f6) _ _ ((rd_T95 l0 x4_1).f1.f7) t775 _ ?side1 ?side2 ?side3 ?side4 A4.out).mono ?_); (case side1 => repeat (first | exact (Kd.C_below HR774_7.out HB.out) | (with_reducible refine Kd.C_alloc ?_ _) | (with_reducible refine Kd.C_drewN ?_ _) | (with_reducible refine Kd.C_drew ?_))); (case side2 => exact HC774_7.out); (case side3 => repeat (first | exact (Kd.C_below HR774_8.out HB.out) | (with_reducible refine Kd.C_alloc ?_ _) | (with_reducible refine Kd.C_drewN ?_ _) | (with_reducible refine Kd.C_drew ?_))); (case side4 => exact HC774_8.out); rintro e w6 ⟨v776, rfl, ho0, hb⟩; refine ⟨_, rfl, ?_⟩; have HO777 := Aside0.mk (Kd.R_lower (Kd.R_new' ho0 (Kd.R_lt (HW.zR HO_3.out))) (below_size HW.zb)); replace HO_3 := Aside0.mk (Kd.R_elder' (HW.zR HO_3.out) (Kd.R_base ho0) hb); replace HB := Aside0.mk (below_step HW.zb hb); (try clear hb); (try clear ho0); obtain ⟨Ao8, co8, eo8⟩ := Kd.R_slice HO777.out; subst eo8) | ((with_reducible refine gate_builtin (b := .append) (xs := #[.tmp 12, .tmp 17]) rfl ?_); at_builtin; refine Kd.R_append_rows (Kd.int .u8) (w0 := w) w.heap.size rfl (.tmp 12) (.tmp 17) 22 5 (.int .u8 0) 1 rfl Tryz.underlying22 info5 rfl (by decide) (by omega) u3 x3_1 t775 _ _ _ (fun k_ => some k_ ≠ (.slice Ao8 t775.length co8 : Value).ownBlock) (fun _ => False) rfl rfl ?aO ?aR (fun _ _ h => h) (fun _ h => h.elim) ?aF ?aB ?aS ?aL ?_; (case aR => repeat (first | exact (Kd.R_reads' HO777.out).2.2 | (with_reducible refine Kd.C_alloc ?_ _) | (with_reducible refine Kd.C_drewN ?_ _) | (with_reducible refine Kd.C_drew ?_))); (case aB => exact HW.zb); (case aF => exact (fun k_ hk => Kd.fresh' (Kd.R_lt (HW.zR HO777.out)) k_ hk)); (case aO => exact (HW.zR (Kd.R_mono HO_3.out (fun _ hk => hk.2)))); (case aS => exact (below_size HW.zb)); (case aL => have := LMc5.out; omega); intro v779 w7 ho hb hg hat; rw [← Ny778.out] at ho; have n1_ := Aside0.mk (hb); have n2_ := Aside0.mk (ho); clear HB; clear HO_3; have HB := n1_; have HO780 := n2_; clear n1_ n2_; clear ho hb hg hat))
        go_roundg k1
        case measure => have := HK1.out; omega
        case rel => exact ⟨(y778), (wrap64 (x4_1 + 1)), HW.rs, H', ⟨by have := HK1.out; omega⟩, ⟨by (with_reducible repeat (first | apply Kd.R_alloc | apply Kd.R_drewN | apply Kd.R_drew)); exact Kd.R_mono HO780.out (fun _ hk => trivial)⟩, ⟨HW.zb⟩⟩
end Go.Proofs.YtanecebppagakaaGreatDoor.PRx
