import Derived.Test.YtbfhpjkahobgnaaGreatDoorPLox0
import Derived.Test.YtbfhpjkahobgnaaGreatDoorPLox11
namespace Go.Proofs.YtbfhpjkahobgnaaGreatDoor.PLo
open Go.RowKit Go.Proofs.YtbfhpjkahobgnaaGreatDoorW.PrintWords Go.Proofs.YtbfhpjkahobgnaaGreatDoorW.PrintLast Go.Proofs.YtbfhpjkahobgnaaGreatDoorW.PrintMore
attribute [local go_sem] max2_int min2_int max_two min_two max_three min_three max_four min_four
set_option linter.unusedVariables false
set_option linter.unusedSimpArgs false
mutual
def spec_DocValue.j0 : Nat → List Int → Int → Bool → Int → ByteArray → ByteArray → Int → Int → Int → List Int → List (S73) → Option (List Int)
  | 0, _, _, _, _, _, _, _, _, _, _, _ => none
  | k + 1, x3, x8, x9, x620000, x620001, x620002, x620003, x620004, x620005, x620006, x620007 => if x9 = true then ((spec_DocInt64.f k x3 x620004).bind fun t620 => (some t620)) else (if x8 = 2 then (spec_DocValue.j1 k x3 x8 (x8 == 2) x620000 x620001 x620002 x620003 x620004 x620005 x620006 x620007) else (if x8 = 13 then (spec_DocValue.j1 k x3 x8 (x8 == 13) x620000 x620001 x620002 x620003 x620004 x620005 x620006 x620007) else (spec_DocValue.j1 k x3 x8 (x8 == 14) x620000 x620001 x620002 x620003 x620004 x620005 x620006 x620007)))
def spec_DocValue.j1 : Nat → List Int → Int → Bool → Int → ByteArray → ByteArray → Int → Int → Int → List Int → List (S73) → Option (List Int)
  | 0, _, _, _, _, _, _, _, _, _, _, _ => none
  | k + 1, x3, x8, x16, x620000, x620001, x620002, x620003, x620004, x620005, x620006, x620007 => if x16 = true then ((spec_docText.f x3 x620001).bind fun t623 => (some t623)) else (if x8 = 3 then (spec_DocValue.j2 k x3 x8 (x8 == 3) x620000 x620001 x620002 x620003 x620004 x620005 x620006 x620007) else (spec_DocValue.j2 k x3 x8 (x8 == 4) x620000 x620001 x620002 x620003 x620004 x620005 x620006 x620007))
def spec_DocValue.j2 : Nat → List Int → Int → Bool → Int → ByteArray → ByteArray → Int → Int → Int → List Int → List (S73) → Option (List Int)
  | 0, _, _, _, _, _, _, _, _, _, _, _ => none
  | k + 1, x3, x8, x24, x620000, x620001, x620002, x620003, x620004, x620005, x620006, x620007 => if x24 = true then ((spec_DocBytes.f k x620007).bind fun t626 => (some t626)) else (if x8 = 5 then (if x620003 = 2 then ((spec_DocInt32.f x3 (wrap64 ((x620006.length : Int) + 4))).bind fun t629 => (if t629.length < 140737488355328 then ((spec_DocInt32.f (t629 ++ [2]) (x620006.length : Int)).bind fun t635 => (if t635.length + x620006.length < 140737488355328 then (some (t635 ++ x620006)) else (none))) else (none))) else ((spec_DocInt32.f x3 (x620006.length : Int)).bind fun t641 => (if t641.length < 140737488355328 then ((some (t641 ++ [(x620003) % 256] : List Int)).bind fun y644 => (if y644.length + x620006.length < 140737488355328 then (some (y644 ++ x620006)) else (none))) else (none)))) else (if x8 = 7 then (if x3.length + x620006.length < 140737488355328 then (some (x3 ++ x620006)) else (none)) else (if x8 = 8 then (if x3.length < 140737488355328 then (some (x3 ++ [(x620003) % 256])) else (none)) else (if x8 = 9 then (spec_DocValue.j3 k x3 x8 (x8 == 9) x620000 x620001 x620002 x620003 x620004 x620005 x620006 x620007) else (spec_DocValue.j3 k x3 x8 (x8 == 18) x620000 x620001 x620002 x620003 x620004 x620005 x620006 x620007)))))
def spec_DocValue.j3 : Nat → List Int → Int → Bool → Int → ByteArray → ByteArray → Int → Int → Int → List Int → List (S73) → Option (List Int)
  | 0, _, _, _, _, _, _, _, _, _, _, _ => none
  | k + 1, x3, x8, x75, x620000, x620001, x620002, x620003, x620004, x620005, x620006, x620007 => if x75 = true then ((spec_DocInt64.f k x3 (IntKind.u64.wrap (x620003))).bind fun t656 => (some t656)) else (if x8 = 16 then ((spec_DocInt32.f x3 x620003).bind fun t659 => (some t659)) else (if x8 = 11 then (if x3.length + x620001.size < 140737488355328 then ((some (x3 ++ bytesOf x620001 : List Int)).bind fun y662 => (if y662.length < 140737488355328 then ((some (y662 ++ [0] : List Int)).bind fun y665 => (if y665.length + x620002.size < 140737488355328 then ((some (y665 ++ bytesOf x620002 : List Int)).bind fun y668 => (if y668.length < 140737488355328 then (some (y668 ++ [0])) else (none))) else (none))) else (none))) else (none)) else (if x8 = 12 then ((spec_docText.f x3 x620001).bind fun t674 => (if t674.length + x620006.length < 140737488355328 then (some (t674 ++ x620006)) else (none))) else (if x8 = 15 then ((spec_docText.f ([] : List Int) x620001).bind fun t680 => ((spec_DocBytes.f k x620007).bind fun t683 => ((spec_DocInt32.f x3 (wrap64 ((wrap64 (4 + (t680.length : Int))) + (t683.length : Int)))).bind fun t686 => (if t686.length + t680.length < 140737488355328 then ((some (t686 ++ t680 : List Int)).bind fun y689 => (if y689.length + t683.length < 140737488355328 then (some (y689 ++ t683)) else (none))) else (none))))) else (if x8 = 19 then ((spec_DocInt64.f k x3 x620004).bind fun t695 => ((spec_DocInt64.f k t695 x620005).bind fun t698 => (some t698))) else (some x3))))))
def spec_DocValue.f : Nat → Int → ByteArray → ByteArray → Int → Int → Int → List Int → List (S73) → Option (List Int)
  | 0, _, _, _, _, _, _, _, _ => none
  | k + 1, a0_0, a0_1, a0_2, a0_3, a0_4, a0_5, l0_6, l0_7 => if a0_0 = 1 then (spec_DocValue.j0 k ([] : List Int) a0_0 (a0_0 == 1) a0_0 a0_1 a0_2 a0_3 a0_4 a0_5 l0_6 l0_7) else (spec_DocValue.j0 k ([] : List Int) a0_0 (a0_0 == 17) a0_0 a0_1 a0_2 a0_3 a0_4 a0_5 l0_6 l0_7)
def spec_DocElem.f : Nat → ByteArray → Int → ByteArray → ByteArray → Int → Int → Int → List Int → List (S73) → Option (List Int)
  | 0, _, _, _, _, _, _, _, _, _ => none
  | k + 1, a0_0, a0_1, a0_2, a0_3, a0_4, a0_5, a0_6, l0_7, l0_8 => (spec_DocHead.f a0_1 a0_0).bind fun t702 => ((spec_DocValue.f k a0_1 a0_2 a0_3 a0_4 a0_5 a0_6 l0_7 l0_8).bind fun t705 => (if t702.length + t705.length < 140737488355328 then (some (t702 ++ t705)) else (none)))
def spec_DocBytes.l0 : Nat → List (S73) → List Int → Int → Option (List Int)
  | 0, _, _, _ => none
  | k + 1, x0, x3, x4 => if x4 < (x0.length : Int) then (if 0 ≤ x4 then ((spec_DocElem.f k ((rd_T73 x0 x4).f0) ((rd_T73 x0 x4).f1.f0) ((rd_T73 x0 x4).f1.f1) ((rd_T73 x0 x4).f1.f2) ((rd_T73 x0 x4).f1.f3) ((rd_T73 x0 x4).f1.f4) ((rd_T73 x0 x4).f1.f5) ((rd_T73 x0 x4).f1.f6) ((rd_T73 x0 x4).f1.f7)).bind fun t712 => (if x3.length + t712.length < 140737488355328 then (spec_DocBytes.l0 k x0 (x3 ++ t712) (wrap64 (x4 + 1))) else (none))) else (none)) else ((spec_DocInt32.f ([] : List Int) (wrap64 ((x3.length : Int) + 5))).bind fun t718 => (if t718.length + x3.length < 140737488355328 then ((some (t718 ++ x3 : List Int)).bind fun y721 => (if y721.length < 140737488355328 then (some (y721 ++ [0])) else (none))) else (none)))
def spec_DocBytes.f : Nat → List (S73) → Option (List Int)
  | 0, _ => none
  | k + 1, l0 => spec_DocBytes.l0 k l0 ([] : List Int) 0
end
theorem Grp_spec_DocValue.mono_l : ∀ k, (∀ y0 y1 y2 y3 y4 y5 y6 y7, LeO (spec_DocValue.f k y0 y1 y2 y3 y4 y5 y6 y7) (spec_DocValue.f (k + 1) y0 y1 y2 y3 y4 y5 y6 y7)) ∧ (∀ y0 y1 y2 y3 y4 y5 y6 y7 y8, LeO (spec_DocElem.f k y0 y1 y2 y3 y4 y5 y6 y7 y8) (spec_DocElem.f (k + 1) y0 y1 y2 y3 y4 y5 y6 y7 y8)) ∧ (∀ y0, LeO (spec_DocBytes.f k y0) (spec_DocBytes.f (k + 1) y0)) ∧ (∀ y0 y1 y2 y3 y4 y5 y6 y7 y8 y9 y10, LeO (spec_DocValue.j0 k y0 y1 y2 y3 y4 y5 y6 y7 y8 y9 y10) (spec_DocValue.j0 (k + 1) y0 y1 y2 y3 y4 y5 y6 y7 y8 y9 y10)) ∧ (∀ y0 y1 y2 y3 y4 y5 y6 y7 y8 y9 y10, LeO (spec_DocValue.j1 k y0 y1 y2 y3 y4 y5 y6 y7 y8 y9 y10) (spec_DocValue.j1 (k + 1) y0 y1 y2 y3 y4 y5 y6 y7 y8 y9 y10)) ∧ (∀ y0 y1 y2 y3 y4 y5 y6 y7 y8 y9 y10, LeO (spec_DocValue.j2 k y0 y1 y2 y3 y4 y5 y6 y7 y8 y9 y10) (spec_DocValue.j2 (k + 1) y0 y1 y2 y3 y4 y5 y6 y7 y8 y9 y10)) ∧ (∀ y0 y1 y2 y3 y4 y5 y6 y7 y8 y9 y10, LeO (spec_DocValue.j3 k y0 y1 y2 y3 y4 y5 y6 y7 y8 y9 y10) (spec_DocValue.j3 (k + 1) y0 y1 y2 y3 y4 y5 y6 y7 y8 y9 y10)) ∧ (∀ y0 y1 y2, LeO (spec_DocBytes.l0 k y0 y1 y2) (spec_DocBytes.l0 (k + 1) y0 y1 y2))
  | 0 => ⟨fun _ _ _ _ _ _ _ _ r h => by simp [spec_DocValue.f] at h, fun _ _ _ _ _ _ _ _ _ r h => by simp [spec_DocElem.f] at h, fun _ r h => by simp [spec_DocBytes.f] at h, fun _ _ _ _ _ _ _ _ _ _ _ r h => by simp [spec_DocValue.j0] at h, fun _ _ _ _ _ _ _ _ _ _ _ r h => by simp [spec_DocValue.j1] at h, fun _ _ _ _ _ _ _ _ _ _ _ r h => by simp [spec_DocValue.j2] at h, fun _ _ _ _ _ _ _ _ _ _ _ r h => by simp [spec_DocValue.j3] at h, fun _ _ _ r h => by simp [spec_DocBytes.l0] at h⟩
  | k + 1 => by
    obtain ⟨ih0, ih1, ih2, ih3, ih4, ih5, ih6, ih7⟩ := Grp_spec_DocValue.mono_l k
    refine ⟨?_, ?_, ?_, ?_, ?_, ?_, ?_, ?_⟩
    · intro y0 y1 y2 y3 y4 y5 y6 y7
      unfold spec_DocValue.f
      repeat' first
      | (with_reducible exact LeO.refl _)
      | (with_reducible exact LeO.none _)
      | (with_reducible refine LeO.ite ?_ ?_)
      | (with_reducible refine LeO.bind ?_ (fun _ => ?_))
      | exact ih0 _ _ _ _ _ _ _ _
      | exact ih1 _ _ _ _ _ _ _ _ _
      | exact ih2 _
      | exact ih3 _ _ _ _ _ _ _ _ _ _ _
      | exact ih4 _ _ _ _ _ _ _ _ _ _ _
      | exact ih5 _ _ _ _ _ _ _ _ _ _ _
      | exact ih6 _ _ _ _ _ _ _ _ _ _ _
      | exact ih7 _ _ _
      | exact spec_DocInt64.mono _ _ _
      | exact LeO.none _
      | refine LeO.ite ?_ ?_
      | refine LeO.bind ?_ (fun _ => ?_)
    · intro y0 y1 y2 y3 y4 y5 y6 y7 y8
      unfold spec_DocElem.f
      repeat' first
      | (with_reducible exact LeO.refl _)
      | (with_reducible exact LeO.none _)
      | (with_reducible refine LeO.ite ?_ ?_)
      | (with_reducible refine LeO.bind ?_ (fun _ => ?_))
      | exact ih0 _ _ _ _ _ _ _ _
      | exact ih1 _ _ _ _ _ _ _ _ _
      | exact ih2 _
      | exact ih3 _ _ _ _ _ _ _ _ _ _ _
      | exact ih4 _ _ _ _ _ _ _ _ _ _ _
      | exact ih5 _ _ _ _ _ _ _ _ _ _ _
      | exact ih6 _ _ _ _ _ _ _ _ _ _ _
      | exact ih7 _ _ _
      | exact spec_DocInt64.mono _ _ _
      | exact LeO.none _
      | refine LeO.ite ?_ ?_
      | refine LeO.bind ?_ (fun _ => ?_)
    · intro y0
      unfold spec_DocBytes.f
      repeat' first
      | (with_reducible exact LeO.refl _)
      | (with_reducible exact LeO.none _)
      | (with_reducible refine LeO.ite ?_ ?_)
      | (with_reducible refine LeO.bind ?_ (fun _ => ?_))
      | exact ih0 _ _ _ _ _ _ _ _
      | exact ih1 _ _ _ _ _ _ _ _ _
      | exact ih2 _
      | exact ih3 _ _ _ _ _ _ _ _ _ _ _
      | exact ih4 _ _ _ _ _ _ _ _ _ _ _
      | exact ih5 _ _ _ _ _ _ _ _ _ _ _
      | exact ih6 _ _ _ _ _ _ _ _ _ _ _
      | exact ih7 _ _ _
      | exact spec_DocInt64.mono _ _ _
      | exact LeO.none _
      | refine LeO.ite ?_ ?_
      | refine LeO.bind ?_ (fun _ => ?_)
    · intro y0 y1 y2 y3 y4 y5 y6 y7 y8 y9 y10
      unfold spec_DocValue.j0
      repeat' first
      | (with_reducible exact LeO.refl _)
      | (with_reducible exact LeO.none _)
      | (with_reducible refine LeO.ite ?_ ?_)
      | (with_reducible refine LeO.bind ?_ (fun _ => ?_))
      | exact ih0 _ _ _ _ _ _ _ _
      | exact ih1 _ _ _ _ _ _ _ _ _
      | exact ih2 _
      | exact ih3 _ _ _ _ _ _ _ _ _ _ _
      | exact ih4 _ _ _ _ _ _ _ _ _ _ _
      | exact ih5 _ _ _ _ _ _ _ _ _ _ _
      | exact ih6 _ _ _ _ _ _ _ _ _ _ _
      | exact ih7 _ _ _
      | exact spec_DocInt64.mono _ _ _
      | exact LeO.none _
      | refine LeO.ite ?_ ?_
      | refine LeO.bind ?_ (fun _ => ?_)
    · intro y0 y1 y2 y3 y4 y5 y6 y7 y8 y9 y10
      unfold spec_DocValue.j1
      repeat' first
      | (with_reducible exact LeO.refl _)
      | (with_reducible exact LeO.none _)
      | (with_reducible refine LeO.ite ?_ ?_)
      | (with_reducible refine LeO.bind ?_ (fun _ => ?_))
      | exact ih0 _ _ _ _ _ _ _ _
      | exact ih1 _ _ _ _ _ _ _ _ _
      | exact ih2 _
      | exact ih3 _ _ _ _ _ _ _ _ _ _ _
      | exact ih4 _ _ _ _ _ _ _ _ _ _ _
      | exact ih5 _ _ _ _ _ _ _ _ _ _ _
      | exact ih6 _ _ _ _ _ _ _ _ _ _ _
      | exact ih7 _ _ _
      | exact spec_DocInt64.mono _ _ _
      | exact LeO.none _
      | refine LeO.ite ?_ ?_
      | refine LeO.bind ?_ (fun _ => ?_)
    · intro y0 y1 y2 y3 y4 y5 y6 y7 y8 y9 y10
      unfold spec_DocValue.j2
      repeat' first
      | (with_reducible exact LeO.refl _)
      | (with_reducible exact LeO.none _)
      | (with_reducible refine LeO.ite ?_ ?_)
      | (with_reducible refine LeO.bind ?_ (fun _ => ?_))
      | exact ih0 _ _ _ _ _ _ _ _
      | exact ih1 _ _ _ _ _ _ _ _ _
      | exact ih2 _
      | exact ih3 _ _ _ _ _ _ _ _ _ _ _
      | exact ih4 _ _ _ _ _ _ _ _ _ _ _
      | exact ih5 _ _ _ _ _ _ _ _ _ _ _
      | exact ih6 _ _ _ _ _ _ _ _ _ _ _
      | exact ih7 _ _ _
      | exact spec_DocInt64.mono _ _ _
      | exact LeO.none _
      | refine LeO.ite ?_ ?_
      | refine LeO.bind ?_ (fun _ => ?_)
    · intro y0 y1 y2 y3 y4 y5 y6 y7 y8 y9 y10
      unfold spec_DocValue.j3
      repeat' first
      | (with_reducible exact LeO.refl _)
      | (with_reducible exact LeO.none _)
      | (with_reducible refine LeO.ite ?_ ?_)
      | (with_reducible refine LeO.bind ?_ (fun _ => ?_))
      | exact ih0 _ _ _ _ _ _ _ _
      | exact ih1 _ _ _ _ _ _ _ _ _
      | exact ih2 _
      | exact ih3 _ _ _ _ _ _ _ _ _ _ _
      | exact ih4 _ _ _ _ _ _ _ _ _ _ _
      | exact ih5 _ _ _ _ _ _ _ _ _ _ _
      | exact ih6 _ _ _ _ _ _ _ _ _ _ _
      | exact ih7 _ _ _
      | exact spec_DocInt64.mono _ _ _
      | exact LeO.none _
      | refine LeO.ite ?_ ?_
      | refine LeO.bind ?_ (fun _ => ?_)
    · intro y0 y1 y2
      unfold spec_DocBytes.l0
      repeat' first
      | (with_reducible exact LeO.refl _)
      | (with_reducible exact LeO.none _)
      | (with_reducible refine LeO.ite ?_ ?_)
      | (with_reducible refine LeO.bind ?_ (fun _ => ?_))
      | exact ih0 _ _ _ _ _ _ _ _
      | exact ih1 _ _ _ _ _ _ _ _ _
      | exact ih2 _
      | exact ih3 _ _ _ _ _ _ _ _ _ _ _
      | exact ih4 _ _ _ _ _ _ _ _ _ _ _
      | exact ih5 _ _ _ _ _ _ _ _ _ _ _
      | exact ih6 _ _ _ _ _ _ _ _ _ _ _
      | exact ih7 _ _ _
      | exact spec_DocInt64.mono _ _ _
      | exact LeO.none _
      | refine LeO.ite ?_ ?_
      | refine LeO.bind ?_ (fun _ => ?_)
theorem spec_DocValue.mono : ∀ a0 a1 a2 a3 a4 a5 a6 a7 k, LeO (spec_DocValue.f k a0 a1 a2 a3 a4 a5 a6 a7) (spec_DocValue.f (k + 1) a0 a1 a2 a3 a4 a5 a6 a7) := by
  intro a0 a1 a2 a3 a4 a5 a6 a7 k
  exact (Grp_spec_DocValue.mono_l k).1 a0 a1 a2 a3 a4 a5 a6 a7
theorem spec_DocElem.mono : ∀ a0 a1 a2 a3 a4 a5 a6 a7 a8 k, LeO (spec_DocElem.f k a0 a1 a2 a3 a4 a5 a6 a7 a8) (spec_DocElem.f (k + 1) a0 a1 a2 a3 a4 a5 a6 a7 a8) := by
  intro a0 a1 a2 a3 a4 a5 a6 a7 a8 k
  exact (Grp_spec_DocValue.mono_l k).2.1 a0 a1 a2 a3 a4 a5 a6 a7 a8
theorem spec_DocBytes.mono : ∀ a0 k, LeO (spec_DocBytes.f k a0) (spec_DocBytes.f (k + 1) a0) := by
  intro a0 k
  exact (Grp_spec_DocValue.mono_l k).2.2.1 a0
def spec_DocValue.Spec (k : Nat) : Prop := ∀ (a0_0 : Int) (a0_1 : ByteArray) (a0_2 : ByteArray) (a0_3 : Int) (a0_4 : Int) (a0_5 : Int) (A0_6 : Option Addr) (c0_6 : Nat) (l0_6 : List Int) (A0_7 : Option Addr) (c0_7 : Nat) (l0_7 : List (S73)) (r : List Int) (w : World) (hr0_6 : Kd.C (Kd.int .u8) w A0_6 l0_6.length l0_6) (hc0_6 : l0_6.length ≤ c0_6) (hr0_7 : Kd.C k73 w A0_7 l0_7.length l0_7) (hc0_7 : l0_7.length ≤ c0_7) (h : spec_DocValue.f k a0_0 a0_1 a0_2 a0_3 a0_4 a0_5 l0_6 l0_7 = some r),
    Calls Tryz.prog 20 #[.agg #[.int .i64 a0_0, .string a0_1, .string a0_2, .int .i64 a0_3, .int .u64 a0_4, .int .u64 a0_5, .slice A0_6 l0_6.length c0_6, .slice A0_7 l0_7.length c0_7]] w fun e w' => ∃ v0_ : Value, e = .returned (v0_) ∧ Kd.R (Kd.int .u8) 5 w' w.heap.size (fun _ => True) v0_ r ∧ Below w.heap.size w w'
def spec_DocElem.Spec (k : Nat) : Prop := ∀ (a0_0 : ByteArray) (a0_1 : Int) (a0_2 : ByteArray) (a0_3 : ByteArray) (a0_4 : Int) (a0_5 : Int) (a0_6 : Int) (A0_7 : Option Addr) (c0_7 : Nat) (l0_7 : List Int) (A0_8 : Option Addr) (c0_8 : Nat) (l0_8 : List (S73)) (r : List Int) (w : World) (hr0_7 : Kd.C (Kd.int .u8) w A0_7 l0_7.length l0_7) (hc0_7 : l0_7.length ≤ c0_7) (hr0_8 : Kd.C k73 w A0_8 l0_8.length l0_8) (hc0_8 : l0_8.length ≤ c0_8) (h : spec_DocElem.f k a0_0 a0_1 a0_2 a0_3 a0_4 a0_5 a0_6 l0_7 l0_8 = some r),
    Calls Tryz.prog 33 #[.agg #[.string a0_0, .int .i64 a0_1, .string a0_2, .string a0_3, .int .i64 a0_4, .int .u64 a0_5, .int .u64 a0_6, .slice A0_7 l0_7.length c0_7, .slice A0_8 l0_8.length c0_8]] w fun e w' => ∃ v0_ : Value, e = .returned (v0_) ∧ Kd.R (Kd.int .u8) 5 w' w.heap.size (fun _ => True) v0_ r ∧ Below w.heap.size w w'
def spec_DocBytes.Spec (k : Nat) : Prop := ∀ (A0 : Option Addr) (c0 : Nat) (l0 : List (S73)) (r : List Int) (w : World) (hr0 : Kd.C k73 w A0 l0.length l0) (hc0 : l0.length ≤ c0) (h : spec_DocBytes.f k l0 = some r),
    Calls Tryz.prog 17 #[.slice A0 l0.length c0] w fun e w' => ∃ v0_ : Value, e = .returned (v0_) ∧ Kd.R (Kd.int .u8) 5 w' w.heap.size (fun _ => True) v0_ r ∧ Below w.heap.size w w'
def Grp_spec_DocValue.Spec (k : Nat) : Prop := spec_DocValue.Spec k ∧ spec_DocElem.Spec k ∧ spec_DocBytes.Spec k
theorem Grp_spec_DocValue.get0 {k : Nat} (H : Grp_spec_DocValue.Spec k) : ∀ (a0_0 : Int) (a0_1 : ByteArray) (a0_2 : ByteArray) (a0_3 : Int) (a0_4 : Int) (a0_5 : Int) (A0_6 : Option Addr) (c0_6 : Nat) (l0_6 : List Int) (A0_7 : Option Addr) (c0_7 : Nat) (l0_7 : List (S73)) (r : List Int) (w : World) (hr0_6 : Kd.C (Kd.int .u8) w A0_6 l0_6.length l0_6) (hc0_6 : l0_6.length ≤ c0_6) (hr0_7 : Kd.C k73 w A0_7 l0_7.length l0_7) (hc0_7 : l0_7.length ≤ c0_7) (h : spec_DocValue.f k a0_0 a0_1 a0_2 a0_3 a0_4 a0_5 l0_6 l0_7 = some r),
    Calls Tryz.prog 20 #[.agg #[.int .i64 a0_0, .string a0_1, .string a0_2, .int .i64 a0_3, .int .u64 a0_4, .int .u64 a0_5, .slice A0_6 l0_6.length c0_6, .slice A0_7 l0_7.length c0_7]] w fun e w' => ∃ v0_ : Value, e = .returned (v0_) ∧ Kd.R (Kd.int .u8) 5 w' w.heap.size (fun _ => True) v0_ r ∧ Below w.heap.size w w' := H.1
theorem Grp_spec_DocValue.get1 {k : Nat} (H : Grp_spec_DocValue.Spec k) : ∀ (a0_0 : ByteArray) (a0_1 : Int) (a0_2 : ByteArray) (a0_3 : ByteArray) (a0_4 : Int) (a0_5 : Int) (a0_6 : Int) (A0_7 : Option Addr) (c0_7 : Nat) (l0_7 : List Int) (A0_8 : Option Addr) (c0_8 : Nat) (l0_8 : List (S73)) (r : List Int) (w : World) (hr0_7 : Kd.C (Kd.int .u8) w A0_7 l0_7.length l0_7) (hc0_7 : l0_7.length ≤ c0_7) (hr0_8 : Kd.C k73 w A0_8 l0_8.length l0_8) (hc0_8 : l0_8.length ≤ c0_8) (h : spec_DocElem.f k a0_0 a0_1 a0_2 a0_3 a0_4 a0_5 a0_6 l0_7 l0_8 = some r),
    Calls Tryz.prog 33 #[.agg #[.string a0_0, .int .i64 a0_1, .string a0_2, .string a0_3, .int .i64 a0_4, .int .u64 a0_5, .int .u64 a0_6, .slice A0_7 l0_7.length c0_7, .slice A0_8 l0_8.length c0_8]] w fun e w' => ∃ v0_ : Value, e = .returned (v0_) ∧ Kd.R (Kd.int .u8) 5 w' w.heap.size (fun _ => True) v0_ r ∧ Below w.heap.size w w' := H.2.1
theorem Grp_spec_DocValue.get2 {k : Nat} (H : Grp_spec_DocValue.Spec k) : ∀ (A0 : Option Addr) (c0 : Nat) (l0 : List (S73)) (r : List Int) (w : World) (hr0 : Kd.C k73 w A0 l0.length l0) (hc0 : l0.length ≤ c0) (h : spec_DocBytes.f k l0 = some r),
    Calls Tryz.prog 17 #[.slice A0 l0.length c0] w fun e w' => ∃ v0_ : Value, e = .returned (v0_) ∧ Kd.R (Kd.int .u8) 5 w' w.heap.size (fun _ => True) v0_ r ∧ Below w.heap.size w w' := H.2.2
end Go.Proofs.YtbfhpjkahobgnaaGreatDoor.PLo
