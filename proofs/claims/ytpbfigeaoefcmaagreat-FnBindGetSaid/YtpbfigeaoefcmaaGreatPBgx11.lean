import Derived.Test.YtpbfigeaoefcmaaGreatPBgx0
import Derived.Test.YtpbfigeaoefcmaaGreatPBgx10
namespace Go.Proofs.YtpbfigeaoefcmaaGreat.PBg
open Go.Proofs.YtpbfigeaoefcmaaGreat.HW (tt ff)
open Go.RowKit Go.Proofs.YtpbfigeaoefcmaaGreatW.PrintWords Go.Proofs.YtpbfigeaoefcmaaGreatW.PrintLast Go.Proofs.YtpbfigeaoefcmaaGreatW.PrintMore
attribute [local go_sem] max2_int min2_int max_two min_two max_three min_three max_four min_four
set_option linter.unusedVariables false
set_option maxHeartbeats 8000000
set_option maxRecDepth 100000
set_option linter.unusedSimpArgs false
mutual
def spec_DocElem.f : Nat → ByteArray → Int → ByteArray → ByteArray → Int → Int → Int → List Int → List (S89) → Option (List Int)
  | 0, _, _, _, _, _, _, _, _, _ => none
  | k + 1, a0_0, a0_1, a0_2, a0_3, a0_4, a0_5, a0_6, l0_7, l0_8 => (spec_DocHead.f a0_1 a0_0).bind fun t758 => ((spec_DocValue.f k a0_1 a0_2 a0_3 a0_4 a0_5 a0_6 l0_7 l0_8).bind fun t761 => (if t758.length + t761.length < 140737488355328 then (some (t758 ++ t761)) else (none)))
def spec_DocBytes.l0 : Nat → List (S89) → List Int → Int → Option (List Int)
  | 0, _, _, _ => none
  | k + 1, x0, x3, x4 => if x4 < (x0.length : Int) then (if 0 ≤ x4 then ((spec_DocElem.f k ((rd_T89 x0 x4).f0) ((rd_T89 x0 x4).f1.f0) ((rd_T89 x0 x4).f1.f1) ((rd_T89 x0 x4).f1.f2) ((rd_T89 x0 x4).f1.f3) ((rd_T89 x0 x4).f1.f4) ((rd_T89 x0 x4).f1.f5) ((rd_T89 x0 x4).f1.f6) ((rd_T89 x0 x4).f1.f7)).bind fun t768 => (if x3.length + t768.length < 140737488355328 then (spec_DocBytes.l0 k x0 (x3 ++ t768) (wrap64 (x4 + 1))) else (none))) else (none)) else ((spec_DocInt32.f ([] : List Int) (wrap64 ((x3.length : Int) + 5))).bind fun t774 => (if t774.length + x3.length < 140737488355328 then ((some (t774 ++ x3 : List Int)).bind fun y777 => (if y777.length < 140737488355328 then (some (y777 ++ [0])) else (none))) else (none)))
def spec_DocBytes.f : Nat → List (S89) → Option (List Int)
  | 0, _ => none
  | k + 1, l0 => spec_DocBytes.l0 k l0 ([] : List Int) 0
def spec_DocValue.j0 : Nat → List Int → Int → Bool → Int → ByteArray → ByteArray → Int → Int → Int → List Int → List (S89) → Option (List Int)
  | 0, _, _, _, _, _, _, _, _, _, _, _ => none
  | k + 1, x3, x8, x9, x784000, x784001, x784002, x784003, x784004, x784005, x784006, x784007 => if x9 = true then ((spec_DocInt64.f k x3 x784004).bind fun t784 => (some t784)) else (if x8 = 2 then (spec_DocValue.j1 k x3 x8 (x8 == 2) x784000 x784001 x784002 x784003 x784004 x784005 x784006 x784007) else (if x8 = 13 then (spec_DocValue.j1 k x3 x8 (x8 == 13) x784000 x784001 x784002 x784003 x784004 x784005 x784006 x784007) else (spec_DocValue.j1 k x3 x8 (x8 == 14) x784000 x784001 x784002 x784003 x784004 x784005 x784006 x784007)))
def spec_DocValue.j1 : Nat → List Int → Int → Bool → Int → ByteArray → ByteArray → Int → Int → Int → List Int → List (S89) → Option (List Int)
  | 0, _, _, _, _, _, _, _, _, _, _, _ => none
  | k + 1, x3, x8, x16, x784000, x784001, x784002, x784003, x784004, x784005, x784006, x784007 => if x16 = true then ((spec_docText.f x3 x784001).bind fun t787 => (some t787)) else (if x8 = 3 then (spec_DocValue.j2 k x3 x8 (x8 == 3) x784000 x784001 x784002 x784003 x784004 x784005 x784006 x784007) else (spec_DocValue.j2 k x3 x8 (x8 == 4) x784000 x784001 x784002 x784003 x784004 x784005 x784006 x784007))
def spec_DocValue.j2 : Nat → List Int → Int → Bool → Int → ByteArray → ByteArray → Int → Int → Int → List Int → List (S89) → Option (List Int)
  | 0, _, _, _, _, _, _, _, _, _, _, _ => none
  | k + 1, x3, x8, x24, x784000, x784001, x784002, x784003, x784004, x784005, x784006, x784007 => if x24 = true then ((spec_DocBytes.f k x784007).bind fun t790 => (some t790)) else (if x8 = 5 then (if x784003 = 2 then ((spec_DocInt32.f x3 (wrap64 ((x784006.length : Int) + 4))).bind fun t793 => (if t793.length < 140737488355328 then ((spec_DocInt32.f (t793 ++ [2]) (x784006.length : Int)).bind fun t799 => (if t799.length + x784006.length < 140737488355328 then (some (t799 ++ x784006)) else (none))) else (none))) else ((spec_DocInt32.f x3 (x784006.length : Int)).bind fun t805 => (if t805.length < 140737488355328 then ((some (t805 ++ [(x784003) % 256] : List Int)).bind fun y808 => (if y808.length + x784006.length < 140737488355328 then (some (y808 ++ x784006)) else (none))) else (none)))) else (if x8 = 7 then (if x3.length + x784006.length < 140737488355328 then (some (x3 ++ x784006)) else (none)) else (if x8 = 8 then (if x3.length < 140737488355328 then (some (x3 ++ [(x784003) % 256])) else (none)) else (if x8 = 9 then (spec_DocValue.j3 k x3 x8 (x8 == 9) x784000 x784001 x784002 x784003 x784004 x784005 x784006 x784007) else (spec_DocValue.j3 k x3 x8 (x8 == 18) x784000 x784001 x784002 x784003 x784004 x784005 x784006 x784007)))))
def spec_DocValue.j3 : Nat → List Int → Int → Bool → Int → ByteArray → ByteArray → Int → Int → Int → List Int → List (S89) → Option (List Int)
  | 0, _, _, _, _, _, _, _, _, _, _, _ => none
  | k + 1, x3, x8, x75, x784000, x784001, x784002, x784003, x784004, x784005, x784006, x784007 => if x75 = true then ((spec_DocInt64.f k x3 (IntKind.u64.wrap (x784003))).bind fun t820 => (some t820)) else (if x8 = 16 then ((spec_DocInt32.f x3 x784003).bind fun t823 => (some t823)) else (if x8 = 11 then (if x3.length + x784001.size < 140737488355328 then ((some (x3 ++ bytesOf x784001 : List Int)).bind fun y826 => (if y826.length < 140737488355328 then ((some (y826 ++ [0] : List Int)).bind fun y829 => (if y829.length + x784002.size < 140737488355328 then ((some (y829 ++ bytesOf x784002 : List Int)).bind fun y832 => (if y832.length < 140737488355328 then (some (y832 ++ [0])) else (none))) else (none))) else (none))) else (none)) else (if x8 = 12 then ((spec_docText.f x3 x784001).bind fun t838 => (if t838.length + x784006.length < 140737488355328 then (some (t838 ++ x784006)) else (none))) else (if x8 = 15 then ((spec_docText.f ([] : List Int) x784001).bind fun t844 => ((spec_DocBytes.f k x784007).bind fun t847 => ((spec_DocInt32.f x3 (wrap64 ((wrap64 (4 + (t844.length : Int))) + (t847.length : Int)))).bind fun t850 => (if t850.length + t844.length < 140737488355328 then ((some (t850 ++ t844 : List Int)).bind fun y853 => (if y853.length + t847.length < 140737488355328 then (some (y853 ++ t847)) else (none))) else (none))))) else (if x8 = 19 then ((spec_DocInt64.f k x3 x784004).bind fun t859 => ((spec_DocInt64.f k t859 x784005).bind fun t862 => (some t862))) else (some x3))))))
def spec_DocValue.f : Nat → Int → ByteArray → ByteArray → Int → Int → Int → List Int → List (S89) → Option (List Int)
  | 0, _, _, _, _, _, _, _, _ => none
  | k + 1, a0_0, a0_1, a0_2, a0_3, a0_4, a0_5, l0_6, l0_7 => if a0_0 = 1 then (spec_DocValue.j0 k ([] : List Int) a0_0 (a0_0 == 1) a0_0 a0_1 a0_2 a0_3 a0_4 a0_5 l0_6 l0_7) else (spec_DocValue.j0 k ([] : List Int) a0_0 (a0_0 == 17) a0_0 a0_1 a0_2 a0_3 a0_4 a0_5 l0_6 l0_7)
end
theorem Grp_spec_DocElem.mono_l : ∀ k, (∀ y0 y1 y2 y3 y4 y5 y6 y7 y8, LeO (spec_DocElem.f k y0 y1 y2 y3 y4 y5 y6 y7 y8) (spec_DocElem.f (k + 1) y0 y1 y2 y3 y4 y5 y6 y7 y8)) ∧ (∀ y0, LeO (spec_DocBytes.f k y0) (spec_DocBytes.f (k + 1) y0)) ∧ (∀ y0 y1 y2 y3 y4 y5 y6 y7, LeO (spec_DocValue.f k y0 y1 y2 y3 y4 y5 y6 y7) (spec_DocValue.f (k + 1) y0 y1 y2 y3 y4 y5 y6 y7)) ∧ (∀ y0 y1 y2, LeO (spec_DocBytes.l0 k y0 y1 y2) (spec_DocBytes.l0 (k + 1) y0 y1 y2)) ∧ (∀ y0 y1 y2 y3 y4 y5 y6 y7 y8 y9 y10, LeO (spec_DocValue.j0 k y0 y1 y2 y3 y4 y5 y6 y7 y8 y9 y10) (spec_DocValue.j0 (k + 1) y0 y1 y2 y3 y4 y5 y6 y7 y8 y9 y10)) ∧ (∀ y0 y1 y2 y3 y4 y5 y6 y7 y8 y9 y10, LeO (spec_DocValue.j1 k y0 y1 y2 y3 y4 y5 y6 y7 y8 y9 y10) (spec_DocValue.j1 (k + 1) y0 y1 y2 y3 y4 y5 y6 y7 y8 y9 y10)) ∧ (∀ y0 y1 y2 y3 y4 y5 y6 y7 y8 y9 y10, LeO (spec_DocValue.j2 k y0 y1 y2 y3 y4 y5 y6 y7 y8 y9 y10) (spec_DocValue.j2 (k + 1) y0 y1 y2 y3 y4 y5 y6 y7 y8 y9 y10)) ∧ (∀ y0 y1 y2 y3 y4 y5 y6 y7 y8 y9 y10, LeO (spec_DocValue.j3 k y0 y1 y2 y3 y4 y5 y6 y7 y8 y9 y10) (spec_DocValue.j3 (k + 1) y0 y1 y2 y3 y4 y5 y6 y7 y8 y9 y10))
  | 0 => ⟨fun _ _ _ _ _ _ _ _ _ r h => by simp [spec_DocElem.f] at h, fun _ r h => by simp [spec_DocBytes.f] at h, fun _ _ _ _ _ _ _ _ r h => by simp [spec_DocValue.f] at h, fun _ _ _ r h => by simp [spec_DocBytes.l0] at h, fun _ _ _ _ _ _ _ _ _ _ _ r h => by simp [spec_DocValue.j0] at h, fun _ _ _ _ _ _ _ _ _ _ _ r h => by simp [spec_DocValue.j1] at h, fun _ _ _ _ _ _ _ _ _ _ _ r h => by simp [spec_DocValue.j2] at h, fun _ _ _ _ _ _ _ _ _ _ _ r h => by simp [spec_DocValue.j3] at h⟩
  | k + 1 => by
    obtain ⟨ih0, ih1, ih2, ih3, ih4, ih5, ih6, ih7⟩ := Grp_spec_DocElem.mono_l k
    refine ⟨?_, ?_, ?_, ?_, ?_, ?_, ?_, ?_⟩
    · intro y0 y1 y2 y3 y4 y5 y6 y7 y8
      unfold spec_DocElem.f
      repeat' first
      | (with_reducible exact LeO.refl _)
      | (with_reducible exact LeO.none _)
      | (with_reducible refine LeO.ite ?_ ?_)
      | (with_reducible refine LeO.bind ?_ (fun _ => ?_))
      | exact ih0 _ _ _ _ _ _ _ _ _
      | exact ih1 _
      | exact ih2 _ _ _ _ _ _ _ _
      | exact ih3 _ _ _
      | exact ih4 _ _ _ _ _ _ _ _ _ _ _
      | exact ih5 _ _ _ _ _ _ _ _ _ _ _
      | exact ih6 _ _ _ _ _ _ _ _ _ _ _
      | exact ih7 _ _ _ _ _ _ _ _ _ _ _
      | exact spec_DocInt64.mono _ _ _
      | exact LeO.none _
      | refine LeO.ite ?_ ?_
      | refine LeO.bind ?_ (fun _ => ?_)
    · intro y0
      unfold spec_DocBytes.f
      repeat' first
      | (with_reducible exact LeO.refl _)
      | (with_reducible exact LeO.none _)
      | (with_reducible refine LeO.ite ?_ ?_)
      | (with_reducible refine LeO.bind ?_ (fun _ => ?_))
      | exact ih0 _ _ _ _ _ _ _ _ _
      | exact ih1 _
      | exact ih2 _ _ _ _ _ _ _ _
      | exact ih3 _ _ _
      | exact ih4 _ _ _ _ _ _ _ _ _ _ _
      | exact ih5 _ _ _ _ _ _ _ _ _ _ _
      | exact ih6 _ _ _ _ _ _ _ _ _ _ _
      | exact ih7 _ _ _ _ _ _ _ _ _ _ _
      | exact spec_DocInt64.mono _ _ _
      | exact LeO.none _
      | refine LeO.ite ?_ ?_
      | refine LeO.bind ?_ (fun _ => ?_)
    · intro y0 y1 y2 y3 y4 y5 y6 y7
      unfold spec_DocValue.f
      repeat' first
      | (with_reducible exact LeO.refl _)
      | (with_reducible exact LeO.none _)
      | (with_reducible refine LeO.ite ?_ ?_)
      | (with_reducible refine LeO.bind ?_ (fun _ => ?_))
      | exact ih0 _ _ _ _ _ _ _ _ _
      | exact ih1 _
      | exact ih2 _ _ _ _ _ _ _ _
      | exact ih3 _ _ _
      | exact ih4 _ _ _ _ _ _ _ _ _ _ _
      | exact ih5 _ _ _ _ _ _ _ _ _ _ _
      | exact ih6 _ _ _ _ _ _ _ _ _ _ _
      | exact ih7 _ _ _ _ _ _ _ _ _ _ _
      | exact spec_DocInt64.mono _ _ _
      | exact LeO.none _
      | refine LeO.ite ?_ ?_
      | refine LeO.bind ?_ (fun _ => ?_)
    · intro y0 y1 y2
      unfold spec_DocBytes.l0
      repeat' first
      | (with_reducible exact LeO.refl _)
      | (with_reducible exact LeO.none _)
      | (with_reducible refine LeO.ite ?_ ?_)
      | (with_reducible refine LeO.bind ?_ (fun _ => ?_))
      | exact ih0 _ _ _ _ _ _ _ _ _
      | exact ih1 _
      | exact ih2 _ _ _ _ _ _ _ _
      | exact ih3 _ _ _
      | exact ih4 _ _ _ _ _ _ _ _ _ _ _
      | exact ih5 _ _ _ _ _ _ _ _ _ _ _
      | exact ih6 _ _ _ _ _ _ _ _ _ _ _
      | exact ih7 _ _ _ _ _ _ _ _ _ _ _
      | exact spec_DocInt64.mono _ _ _
      | exact LeO.none _
      | refine LeO.ite ?_ ?_
      | refine LeO.bind ?_ (fun _ => ?_)
    · intro y0 y1 y2 y3 y4 y5 y6 y7 y8 y9 y10
      unfold spec_DocValue.j0
      repeat' first
      | (with_reducible exact LeO.refl _)
      | (with_reducible exact LeO.none _)
      | (with_reducible refine LeO.ite ?_ ?_)
      | (with_reducible refine LeO.bind ?_ (fun _ => ?_))
      | exact ih0 _ _ _ _ _ _ _ _ _
      | exact ih1 _
      | exact ih2 _ _ _ _ _ _ _ _
      | exact ih3 _ _ _
      | exact ih4 _ _ _ _ _ _ _ _ _ _ _
      | exact ih5 _ _ _ _ _ _ _ _ _ _ _
      | exact ih6 _ _ _ _ _ _ _ _ _ _ _
      | exact ih7 _ _ _ _ _ _ _ _ _ _ _
      | exact spec_DocInt64.mono _ _ _
      | exact LeO.none _
      | refine LeO.ite ?_ ?_
      | refine LeO.bind ?_ (fun _ => ?_)
    · intro y0 y1 y2 y3 y4 y5 y6 y7 y8 y9 y10
      unfold spec_DocValue.j1
      repeat' first
      | (with_reducible exact LeO.refl _)
      | (with_reducible exact LeO.none _)
      | (with_reducible refine LeO.ite ?_ ?_)
      | (with_reducible refine LeO.bind ?_ (fun _ => ?_))
      | exact ih0 _ _ _ _ _ _ _ _ _
      | exact ih1 _
      | exact ih2 _ _ _ _ _ _ _ _
      | exact ih3 _ _ _
      | exact ih4 _ _ _ _ _ _ _ _ _ _ _
      | exact ih5 _ _ _ _ _ _ _ _ _ _ _
      | exact ih6 _ _ _ _ _ _ _ _ _ _ _
      | exact ih7 _ _ _ _ _ _ _ _ _ _ _
      | exact spec_DocInt64.mono _ _ _
      | exact LeO.none _
      | refine LeO.ite ?_ ?_
      | refine LeO.bind ?_ (fun _ => ?_)
    · intro y0 y1 y2 y3 y4 y5 y6 y7 y8 y9 y10
      unfold spec_DocValue.j2
      repeat' first
      | (with_reducible exact LeO.refl _)
      | (with_reducible exact LeO.none _)
      | (with_reducible refine LeO.ite ?_ ?_)
      | (with_reducible refine LeO.bind ?_ (fun _ => ?_))
      | exact ih0 _ _ _ _ _ _ _ _ _
      | exact ih1 _
      | exact ih2 _ _ _ _ _ _ _ _
      | exact ih3 _ _ _
      | exact ih4 _ _ _ _ _ _ _ _ _ _ _
      | exact ih5 _ _ _ _ _ _ _ _ _ _ _
      | exact ih6 _ _ _ _ _ _ _ _ _ _ _
      | exact ih7 _ _ _ _ _ _ _ _ _ _ _
      | exact spec_DocInt64.mono _ _ _
      | exact LeO.none _
      | refine LeO.ite ?_ ?_
      | refine LeO.bind ?_ (fun _ => ?_)
    · intro y0 y1 y2 y3 y4 y5 y6 y7 y8 y9 y10
      unfold spec_DocValue.j3
      repeat' first
      | (with_reducible exact LeO.refl _)
      | (with_reducible exact LeO.none _)
      | (with_reducible refine LeO.ite ?_ ?_)
      | (with_reducible refine LeO.bind ?_ (fun _ => ?_))
      | exact ih0 _ _ _ _ _ _ _ _ _
      | exact ih1 _
      | exact ih2 _ _ _ _ _ _ _ _
      | exact ih3 _ _ _
      | exact ih4 _ _ _ _ _ _ _ _ _ _ _
      | exact ih5 _ _ _ _ _ _ _ _ _ _ _
      | exact ih6 _ _ _ _ _ _ _ _ _ _ _
      | exact ih7 _ _ _ _ _ _ _ _ _ _ _
      | exact spec_DocInt64.mono _ _ _
      | exact LeO.none _
      | refine LeO.ite ?_ ?_
      | refine LeO.bind ?_ (fun _ => ?_)
theorem spec_DocElem.mono : ∀ a0 a1 a2 a3 a4 a5 a6 a7 a8 k, LeO (spec_DocElem.f k a0 a1 a2 a3 a4 a5 a6 a7 a8) (spec_DocElem.f (k + 1) a0 a1 a2 a3 a4 a5 a6 a7 a8) := by
  intro a0 a1 a2 a3 a4 a5 a6 a7 a8 k
  exact (Grp_spec_DocElem.mono_l k).1 a0 a1 a2 a3 a4 a5 a6 a7 a8
theorem spec_DocBytes.mono : ∀ a0 k, LeO (spec_DocBytes.f k a0) (spec_DocBytes.f (k + 1) a0) := by
  intro a0 k
  exact (Grp_spec_DocElem.mono_l k).2.1 a0
theorem spec_DocValue.mono : ∀ a0 a1 a2 a3 a4 a5 a6 a7 k, LeO (spec_DocValue.f k a0 a1 a2 a3 a4 a5 a6 a7) (spec_DocValue.f (k + 1) a0 a1 a2 a3 a4 a5 a6 a7) := by
  intro a0 a1 a2 a3 a4 a5 a6 a7 k
  exact (Grp_spec_DocElem.mono_l k).2.2.1 a0 a1 a2 a3 a4 a5 a6 a7
def spec_DocElem.Spec (k : Nat) : Prop := ∀ (a0_0 : ByteArray) (a0_1 : Int) (a0_2 : ByteArray) (a0_3 : ByteArray) (a0_4 : Int) (a0_5 : Int) (a0_6 : Int) (A0_7 : Option Addr) (c0_7 : Nat) (l0_7 : List Int) (A0_8 : Option Addr) (c0_8 : Nat) (l0_8 : List (S89)) (r : List Int) (w : World) (hr0_7 : Kd.C (Kd.int .u8) w A0_7 l0_7.length l0_7) (hc0_7 : l0_7.length ≤ c0_7) (hr0_8 : Kd.C k89 w A0_8 l0_8.length l0_8) (hc0_8 : l0_8.length ≤ c0_8) (h : spec_DocElem.f k a0_0 a0_1 a0_2 a0_3 a0_4 a0_5 a0_6 l0_7 l0_8 = some r),
    Calls Tryz.prog 63 #[.agg #[.string a0_0, .int .i64 a0_1, .string a0_2, .string a0_3, .int .i64 a0_4, .int .u64 a0_5, .int .u64 a0_6, .slice A0_7 l0_7.length c0_7, .slice A0_8 l0_8.length c0_8]] w fun e w' => ∃ v0_ : Value, e = .returned (v0_) ∧ Kd.R (Kd.int .u8) 5 w' w.heap.size (fun _ => True) v0_ r ∧ Below w.heap.size w w'
def spec_DocBytes.Spec (k : Nat) : Prop := ∀ (A0 : Option Addr) (c0 : Nat) (l0 : List (S89)) (r : List Int) (w : World) (hr0 : Kd.C k89 w A0 l0.length l0) (hc0 : l0.length ≤ c0) (h : spec_DocBytes.f k l0 = some r),
    Calls Tryz.prog 39 #[.slice A0 l0.length c0] w fun e w' => ∃ v0_ : Value, e = .returned (v0_) ∧ Kd.R (Kd.int .u8) 5 w' w.heap.size (fun _ => True) v0_ r ∧ Below w.heap.size w w'
def spec_DocValue.Spec (k : Nat) : Prop := ∀ (a0_0 : Int) (a0_1 : ByteArray) (a0_2 : ByteArray) (a0_3 : Int) (a0_4 : Int) (a0_5 : Int) (A0_6 : Option Addr) (c0_6 : Nat) (l0_6 : List Int) (A0_7 : Option Addr) (c0_7 : Nat) (l0_7 : List (S89)) (r : List Int) (w : World) (hr0_6 : Kd.C (Kd.int .u8) w A0_6 l0_6.length l0_6) (hc0_6 : l0_6.length ≤ c0_6) (hr0_7 : Kd.C k89 w A0_7 l0_7.length l0_7) (hc0_7 : l0_7.length ≤ c0_7) (h : spec_DocValue.f k a0_0 a0_1 a0_2 a0_3 a0_4 a0_5 l0_6 l0_7 = some r),
    Calls Tryz.prog 37 #[.agg #[.int .i64 a0_0, .string a0_1, .string a0_2, .int .i64 a0_3, .int .u64 a0_4, .int .u64 a0_5, .slice A0_6 l0_6.length c0_6, .slice A0_7 l0_7.length c0_7]] w fun e w' => ∃ v0_ : Value, e = .returned (v0_) ∧ Kd.R (Kd.int .u8) 5 w' w.heap.size (fun _ => True) v0_ r ∧ Below w.heap.size w w'
def Grp_spec_DocElem.Spec (k : Nat) : Prop := spec_DocElem.Spec k ∧ spec_DocBytes.Spec k ∧ spec_DocValue.Spec k
theorem Grp_spec_DocElem.get0 {k : Nat} (H : Grp_spec_DocElem.Spec k) : ∀ (a0_0 : ByteArray) (a0_1 : Int) (a0_2 : ByteArray) (a0_3 : ByteArray) (a0_4 : Int) (a0_5 : Int) (a0_6 : Int) (A0_7 : Option Addr) (c0_7 : Nat) (l0_7 : List Int) (A0_8 : Option Addr) (c0_8 : Nat) (l0_8 : List (S89)) (r : List Int) (w : World) (hr0_7 : Kd.C (Kd.int .u8) w A0_7 l0_7.length l0_7) (hc0_7 : l0_7.length ≤ c0_7) (hr0_8 : Kd.C k89 w A0_8 l0_8.length l0_8) (hc0_8 : l0_8.length ≤ c0_8) (h : spec_DocElem.f k a0_0 a0_1 a0_2 a0_3 a0_4 a0_5 a0_6 l0_7 l0_8 = some r),
    Calls Tryz.prog 63 #[.agg #[.string a0_0, .int .i64 a0_1, .string a0_2, .string a0_3, .int .i64 a0_4, .int .u64 a0_5, .int .u64 a0_6, .slice A0_7 l0_7.length c0_7, .slice A0_8 l0_8.length c0_8]] w fun e w' => ∃ v0_ : Value, e = .returned (v0_) ∧ Kd.R (Kd.int .u8) 5 w' w.heap.size (fun _ => True) v0_ r ∧ Below w.heap.size w w' := H.1
theorem Grp_spec_DocElem.get1 {k : Nat} (H : Grp_spec_DocElem.Spec k) : ∀ (A0 : Option Addr) (c0 : Nat) (l0 : List (S89)) (r : List Int) (w : World) (hr0 : Kd.C k89 w A0 l0.length l0) (hc0 : l0.length ≤ c0) (h : spec_DocBytes.f k l0 = some r),
    Calls Tryz.prog 39 #[.slice A0 l0.length c0] w fun e w' => ∃ v0_ : Value, e = .returned (v0_) ∧ Kd.R (Kd.int .u8) 5 w' w.heap.size (fun _ => True) v0_ r ∧ Below w.heap.size w w' := H.2.1
theorem Grp_spec_DocElem.get2 {k : Nat} (H : Grp_spec_DocElem.Spec k) : ∀ (a0_0 : Int) (a0_1 : ByteArray) (a0_2 : ByteArray) (a0_3 : Int) (a0_4 : Int) (a0_5 : Int) (A0_6 : Option Addr) (c0_6 : Nat) (l0_6 : List Int) (A0_7 : Option Addr) (c0_7 : Nat) (l0_7 : List (S89)) (r : List Int) (w : World) (hr0_6 : Kd.C (Kd.int .u8) w A0_6 l0_6.length l0_6) (hc0_6 : l0_6.length ≤ c0_6) (hr0_7 : Kd.C k89 w A0_7 l0_7.length l0_7) (hc0_7 : l0_7.length ≤ c0_7) (h : spec_DocValue.f k a0_0 a0_1 a0_2 a0_3 a0_4 a0_5 l0_6 l0_7 = some r),
    Calls Tryz.prog 37 #[.agg #[.int .i64 a0_0, .string a0_1, .string a0_2, .int .i64 a0_3, .int .u64 a0_4, .int .u64 a0_5, .slice A0_6 l0_6.length c0_6, .slice A0_7 l0_7.length c0_7]] w fun e w' => ∃ v0_ : Value, e = .returned (v0_) ∧ Kd.R (Kd.int .u8) 5 w' w.heap.size (fun _ => True) v0_ r ∧ Below w.heap.size w w' := H.2.2
def spec_DocElem.T1 : Bool × List (List Nat × List Nat) := (true, [([], []), ([0], [0]), ([1], [1]), ([], []), ([3], [3]), ([2, 4], [2, 4]), ([], []), ([6], [6]), ([7, 5], [7]), ([5, 8, 8], [5, 8]), ([9, 9, 0, 1, 2, 3, 4, 5, 6, 7, 8, 9], [9])])
def spec_DocElem.B1 : List Nat := [0, 1, 3, 0, 8, 31, 0, 64, 255, 511, 1023]
theorem spec_DocElem.tab1 : rtab .any (opsOf Tryz.f63 1) = spec_DocElem.T1 := by kernel_rfl
theorem spec_DocElem.bits1 : waitsOk spec_DocElem.T1.2 spec_DocElem.B1 = true := by kernel_rfl
theorem spec_DocElem.step (k : Nat) (ih : ∀ j, j < k → Grp_spec_DocElem.Spec j) : ∀ (a0_0 : ByteArray) (a0_1 : Int) (a0_2 : ByteArray) (a0_3 : ByteArray) (a0_4 : Int) (a0_5 : Int) (a0_6 : Int) (A0_7 : Option Addr) (c0_7 : Nat) (l0_7 : List Int) (A0_8 : Option Addr) (c0_8 : Nat) (l0_8 : List (S89)) (r : List Int) (w : World) (hr0_7 : Kd.C (Kd.int .u8) w A0_7 l0_7.length l0_7) (hc0_7 : l0_7.length ≤ c0_7) (hr0_8 : Kd.C k89 w A0_8 l0_8.length l0_8) (hc0_8 : l0_8.length ≤ c0_8) (h : spec_DocElem.f k a0_0 a0_1 a0_2 a0_3 a0_4 a0_5 a0_6 l0_7 l0_8 = some r),
    Calls Tryz.prog 63 #[.agg #[.string a0_0, .int .i64 a0_1, .string a0_2, .string a0_3, .int .i64 a0_4, .int .u64 a0_5, .int .u64 a0_6, .slice A0_7 l0_7.length c0_7, .slice A0_8 l0_8.length c0_8]] w fun e w' => ∃ v0_ : Value, e = .returned (v0_) ∧ Kd.R (Kd.int .u8) 5 w' w.heap.size (fun _ => True) v0_ r ∧ Below w.heap.size w w' := by
  intro a0_0 a0_1 a0_2 a0_3 a0_4 a0_5 a0_6 A0_7 c0_7 l0_7 A0_8 c0_8 l0_8 r w hr0_7 hc0_7 hr0_8 hc0_8 h
  cases k with
  | zero => exact absurd h (by simp [spec_DocElem.f])
  | succ k =>
  simp only [spec_DocElem.f] at h
  have hu89 := Tryz.underlying89; have hu26 := Tryz.underlying26; have HR0_7 := Aside0.mk hr0_7; have HC0_7 := Aside0.mk hc0_7; clear hr0_7 hc0_7; have HR0_8 := Aside0.mk hr0_8; have HC0_8 := Aside0.mk hc0_8; clear hr0_8 hc0_8; have HB := Aside0.mk (Below.refl w.heap.size w); have H : ((spec_DocHead.f a0_1 a0_0).bind fun t758 => ((spec_DocValue.f k a0_1 a0_2 a0_3 a0_4 a0_5 a0_6 l0_7 l0_8).bind fun t761 => (if t758.length + t761.length < 140737488355328 then (some (t758 ++ t761)) else (none)))) = some r := h; clear h; replace H := Option.bind_eq_some_iff.mp H; obtain ⟨t758, A20, H⟩ := H; replace H : ((spec_DocValue.f k a0_1 a0_2 a0_3 a0_4 a0_5 a0_6 l0_7 l0_8).bind fun t761 => (if t758.length + t761.length < 140737488355328 then (some (t758 ++ t761)) else (none))) = some r := H; have A2 := Aside0.mk A20; clear A20; replace H := Option.bind_eq_some_iff.mp H; obtain ⟨t761, A30, H⟩ := H; replace H : (if t758.length + t761.length < 140737488355328 then (some (t758 ++ t761)) else (none)) = some r := H; have A3 := Aside0.mk A30; clear A30
  by_cases c4 : t758.length + t761.length < 140737488355328
  rotate_left
  · rw [if_neg c4] at H
    exact absurd H (by simp)
  rw [if_pos c4] at H; have LMc4 := Aside0.mk c4; clear c4; obtain ⟨y764, hy764⟩ : ∃ y_ : List Int, y_ = (t758 ++ t761) := ⟨_, rfl⟩
  replace H : (some y764) = some r := by (try rw [hy764]); exact HW.rp
  have Ny764 := Aside0.mk hy764; clear hy764
  as_aux_lemma =>
    obtain rfl := Option.some.inj H
    go_enter Tryz.func63, Tryz.ntmps63
    try go_wp2_with (first | ((with_reducible refine gate_dst (N := 1) rfl ?_); refine box_event ?hg (N := 1) ?hd (cs := #[.string a0_0, .int .i64 a0_1, .string a0_2, .string a0_3, .int .i64 a0_4, .int .u64 a0_5, .int .u64 a0_6, .slice A0_7 l0_7.length c0_7, .slice A0_8 l0_8.length c0_8]) (t := 89) ?hr ?_; (case hd => rfl); (case hg => rfl); (case hr => first | (go_simp; done) | (go_simp; rfl)); intro gb757 hg w5 hbox hb; have n0_ := Aside0.mk (below_step HW.zb hb); have n1_ := Aside0.mk (hbox); have n3_ := Aside0.mk ((by rw [hg]; exact (below_size HW.zb) : w.heap.size ≤ gb757)); clear HB; have HB := n0_; have BK757 := n1_; have GE757 := n3_; clear n0_ n1_ n3_; clear hb hbox hg))
    replace BK757 := Aside0.mk (blk_drew BK757.out); replace HB := Aside0.mk (below_drew1 HB.out)
    refine start_ (n := 11) (S := fun w' => w'.cell? ⟨gb757, 0, none⟩ = some (.string a0_0) ∧ w'.cell? ⟨gb757, 1, none⟩ = some (.int .i64 a0_1) ∧ w'.cell? ⟨gb757, 2, none⟩ = some (.string a0_2) ∧ w'.cell? ⟨gb757, 3, none⟩ = some (.string a0_3) ∧ w'.cell? ⟨gb757, 4, none⟩ = some (.int .i64 a0_4) ∧ w'.cell? ⟨gb757, 5, none⟩ = some (.int .u64 a0_5) ∧ w'.cell? ⟨gb757, 6, none⟩ = some (.int .u64 a0_6) ∧ w'.cell? ⟨gb757, 7, none⟩ = some (.slice A0_7 l0_7.length c0_7) ∧ w'.cell? ⟨gb757, 8, none⟩ = some (.slice A0_8 l0_8.length c0_8)) (ds := []) #[ff,ff,ff,ff,ff,ff,ff,ff,ff,ff,ff] (by kernel_rfl) rfl rfl ⟨(blk_cell BK757.out 0).trans rfl, (blk_cell BK757.out 1).trans rfl, (blk_cell BK757.out 2).trans rfl, (blk_cell BK757.out 3).trans rfl, (blk_cell BK757.out 4).trans rfl, (blk_cell BK757.out 5).trans rfl, (blk_cell BK757.out 6).trans rfl, (blk_cell BK757.out 7).trans rfl, (blk_cell BK757.out 8).trans rfl⟩ (fun hHeld => ?_); refine with_tabW spec_DocElem.tab1 spec_DocElem.bits1 (fun HT_ HW_ => ?_)
    generalize w5.drew = w6 at BK757 HB hHeld ⊢
    refine HW.pz (i := 0) (N := some 3) #[tt,ff,ff,ff,ff,ff,ff,ff,ff,ff,ff] ?_ (hc := any_of HT_.out (by kernel_rfl))
    refine HW.pz (i := 1) (N := some 4) #[tt,tt,ff,ff,ff,ff,ff,ff,ff,ff,ff] ?_ (hc := any_of HT_.out (by kernel_rfl))
    refine HW.pz (i := 3) (N := some 6) #[tt,tt,ff,tt,ff,ff,ff,ff,ff,ff,ff] ?_ (hc := any_of HT_.out (by kernel_rfl))
    refine HW.pz (i := 6) (N := some 9) #[tt,tt,ff,tt,ff,ff,tt,ff,ff,ff,ff] ?_ (hc := any_of HT_.out (by kernel_rfl))
    refine take_ (i := 2) (N := some 5) (v := ?_) (a' := ?_) #[tt,tt,tt,tt,ff,ff,tt,ff,ff,ff,ff] rfl rfl (take_ofW HT_.out HW_.out (by kernel_rfl)) (fun _ _ _ h => h) (Or.inl ⟨by rfl, ?_⟩) hHeld ?_ ?_
    rotate_left
    · rintro w' ⟨s0, s1, s2, s3, s4, s5, s6, s7, s8⟩
      go_simp
      with_reducible rfl
    rotate_left
    · exact HW.pt
    refine take_ (i := 4) (N := some 7) (v := ?_) (a' := ?_) #[tt,tt,tt,tt,tt,ff,tt,ff,ff,ff,ff] rfl rfl (take_ofW HT_.out HW_.out (by kernel_rfl)) (fun _ _ _ h => h) (Or.inl ⟨by rfl, ?_⟩) hHeld ?_ ?_
    rotate_left
    · rintro w' ⟨s0, s1, s2, s3, s4, s5, s6, s7, s8⟩
      go_simp
      with_reducible rfl
    rotate_left
    · exact HW.pt
    refine take_ (i := 7) (N := some 10) (v := ?_) (a' := ?_) #[tt,tt,tt,tt,tt,ff,tt,tt,ff,ff,ff] rfl rfl (take_ofW HT_.out HW_.out (by kernel_rfl)) (fun _ _ _ h => h) (Or.inl ⟨by rfl, ?_⟩) hHeld ?_ ?_
    rotate_left
    · rintro w' ⟨s0, s1, s2, s3, s4, s5, s6, s7, s8⟩
      go_simp
      with_reducible rfl
    rotate_left
    · exact HW.pt
    refine one_ (i := 5) (N := some 8) #[tt,tt,tt,tt,tt,tt,tt,tt,ff,ff,ff] rfl rfl (one_of HT_.out (by kernel_rfl)) (by decide) (fun K hK => ?_)
    refine goes_ Tryz.func84 (by kernel_rfl) rfl #[.int .i64 a0_1, .string a0_0] (by rfl) rfl rfl HW.mt ?_
    with_reducible refine (spec_DocHead.calls a0_1 a0_0 t758 _ A2.out).mono ?_
    rintro e w7 ⟨v759, rfl, ho0, hb⟩
    refine ⟨_, rfl, ?_⟩
    have HO760 := Aside0.mk (Kd.R_lower ho0 (below_size HW.zb)); replace BK757 := Aside0.mk (blk_below (HW.zB BK757.out) hb); replace HB := Aside0.mk (below_step HW.zb hb)
    (try clear hb)
    (try clear hk)
    (try clear ho0)
    refine hK.out _ _ ⟨(blk_cell BK757.out 0).trans rfl, (blk_cell BK757.out 1).trans rfl, (blk_cell BK757.out 2).trans rfl, (blk_cell BK757.out 3).trans rfl, (blk_cell BK757.out 4).trans rfl, (blk_cell BK757.out 5).trans rfl, (blk_cell BK757.out 6).trans rfl, (blk_cell BK757.out 7).trans rfl, (blk_cell BK757.out 8).trans rfl⟩ (fun hHeld => ?_)
    clear hK K
    refine HW.nz (N := (some 8)) ?_
    refine one_ (i := 8) (N := some 11) #[tt,tt,tt,tt,tt,tt,tt,tt,tt,ff,ff] rfl rfl (one_of HT_.out (by kernel_rfl)) (by decide) (fun K hK => ?_)
    refine goes_ Tryz.func37 (by kernel_rfl) rfl #[.agg #[.int .i64 a0_1, .string a0_2, .string a0_3, .int .i64 a0_4, .int .u64 a0_5, .int .u64 a0_6, .slice A0_7 l0_7.length c0_7, .slice A0_8 l0_8.length c0_8]] (by rfl) rfl rfl HW.mt ?_
    with_reducible refine (Grp_spec_DocElem.get2 (ih k (by omega)) a0_1 a0_2 a0_3 a0_4 a0_5 a0_6 _ _ l0_7 _ _ l0_8 t761 _ ?side1 ?side2 ?side3 ?side4 A3.out).mono ?_
    (case side1 => repeat (first | exact (Kd.C_below HR0_7.out HB.out) | (with_reducible refine Kd.C_alloc ?_ _) | (with_reducible refine Kd.C_drewN ?_ _) | (with_reducible refine Kd.C_drew ?_)))
    (case side2 => exact HC0_7.out)
    (case side3 => repeat (first | exact (Kd.C_below HR0_8.out HB.out) | (with_reducible refine Kd.C_alloc ?_ _) | (with_reducible refine Kd.C_drewN ?_ _) | (with_reducible refine Kd.C_drew ?_)))
    (case side4 => exact HC0_8.out)
    rintro e w8 ⟨v762, rfl, ho0, hb⟩
    refine ⟨_, rfl, ?_⟩
    have HO763 := Aside0.mk (Kd.R_lower (Kd.R_new' ho0 (Kd.R_lt (HW.zR HO760.out))) (below_size HW.zb)); replace HO760 := Aside0.mk (Kd.R_elder' (HW.zR HO760.out) (Kd.R_base ho0) hb); replace BK757 := Aside0.mk (blk_below (HW.zB BK757.out) hb); replace HB := Aside0.mk (below_step HW.zb hb)
    (try clear hb)
    (try clear hk)
    (try clear ho0)
    obtain ⟨Ao10, co10, eo10⟩ := Kd.R_slice HO763.out
    (first | subst eo10 | (injection eo10 with f1_ f2_ f3_; have f4_ := f1_.symm; have f5_ := f3_.symm; clear f1_ f2_ f3_; subst f4_; subst f5_))
    refine hK.out _ _ ⟨(blk_cell BK757.out 0).trans rfl, (blk_cell BK757.out 1).trans rfl, (blk_cell BK757.out 2).trans rfl, (blk_cell BK757.out 3).trans rfl, (blk_cell BK757.out 4).trans rfl, (blk_cell BK757.out 5).trans rfl, (blk_cell BK757.out 6).trans rfl, (blk_cell BK757.out 7).trans rfl, (blk_cell BK757.out 8).trans rfl⟩ (fun hHeld => ?_)
    clear hK K
    refine HW.nz (N := (some 11)) ?_
    refine one_ (i := 9) (N := some 12) #[tt,tt,tt,tt,tt,tt,tt,tt,tt,tt,ff] rfl rfl (one_of HT_.out (by kernel_rfl)) (by decide) (fun K hK => ?_)
    refine Kd.R_append_rows_step (Kd.int .u8) (w0 := w) w.heap.size (by rfl) (.tmp 8) (.tmp 11) 23 5 (.int .u8 0) 1 rfl Tryz.underlying23 info5 rfl (by decide) (by omega) v759 t758 t761 _ _ _ (fun k_ => some k_ ≠ (.slice Ao10 t761.length co10 : Value).ownBlock) (fun _ => False) rfl rfl ?aO ?aR (fun _ _ h => h) (fun _ h => h.elim) ?aF ?aB ?aS ?aL ?_
    (case aR => repeat (first | exact (Kd.R_reads' HO763.out).2.2 | (with_reducible refine Kd.C_alloc ?_ _) | (with_reducible refine Kd.C_drewN ?_ _) | (with_reducible refine Kd.C_drew ?_)))
    (case aB => exact HW.zb)
    (case aF => exact (fun k_ hk => Kd.fresh' (Kd.R_lt (HW.zR HO763.out)) k_ hk))
    (case aO => exact (HW.zR (Kd.R_mono HO760.out (fun _ hk => hk.2))))
    (case aS => exact (below_size HW.zb))
    (case aL => have := LMc4.out; omega)
    intro v765 w9 ho hb hg hat
    rw [← Ny764.out] at ho
    have n0_ := Aside0.mk (blk_grown (g := gb757) (o := .cells #[.string a0_0, .int .i64 a0_1, .string a0_2, .string a0_3, .int .i64 a0_4, .int .u64 a0_5, .int .u64 a0_6, .slice A0_7 l0_7.length c0_7, .slice A0_8 l0_8.length c0_8] 89 (0, 0)) (HW.zB BK757.out) hg (Kd.R_ne HO760.out BK757.out (by decide)))
    have n2_ := Aside0.mk (hb); have n3_ := Aside0.mk (ho); clear BK757; clear HB; clear HO760; have BK757 := n0_; have HB := n2_; have HO766 := n3_; clear n0_ n2_ n3_; clear ho hb hg hat
    refine hK.out _ _ ⟨(blk_cell BK757.out 0).trans rfl, (blk_cell BK757.out 1).trans rfl, (blk_cell BK757.out 2).trans rfl, (blk_cell BK757.out 3).trans rfl, (blk_cell BK757.out 4).trans rfl, (blk_cell BK757.out 5).trans rfl, (blk_cell BK757.out 6).trans rfl, (blk_cell BK757.out 7).trans rfl, (blk_cell BK757.out 8).trans rfl⟩ (fun hHeld => ?_)
    clear hK K
    refine HW.nz (N := (some 12)) ?_
    refine HW.pz (i := 10) (N := some 2) #[tt,tt,tt,tt,tt,tt,tt,tt,tt,tt,tt] ?_ (hc := any_of HT_.out (by kernel_rfl))
    refine done_ (done_of HT_.out (by kernel_rfl)) ?_
    try go_wp2
    go_ret
    exact ⟨_, rfl, by (with_reducible repeat (first | apply Kd.R_alloc | apply Kd.R_drewN | apply Kd.R_drew)); exact Kd.R_mono HO766.out (fun _ hk => trivial), HW.zb⟩
theorem spec_DocBytes.step (k : Nat) (ih : ∀ j, j < k → Grp_spec_DocElem.Spec j) : ∀ (A0 : Option Addr) (c0 : Nat) (l0 : List (S89)) (r : List Int) (w : World) (hr0 : Kd.C k89 w A0 l0.length l0) (hc0 : l0.length ≤ c0) (h : spec_DocBytes.f k l0 = some r),
    Calls Tryz.prog 39 #[.slice A0 l0.length c0] w fun e w' => ∃ v0_ : Value, e = .returned (v0_) ∧ Kd.R (Kd.int .u8) 5 w' w.heap.size (fun _ => True) v0_ r ∧ Below w.heap.size w w' := by
  intro A0 c0 l0 r w hr0 hc0 h
  cases k with
  | zero => exact absurd h (by simp [spec_DocBytes.f])
  | succ k =>
  simp only [spec_DocBytes.f] at h
  have hu89 := Tryz.underlying89; have HR0 := Aside0.mk hr0; have HC0 := Aside0.mk hc0; clear hr0 hc0; have HB := Aside0.mk (Below.refl w.heap.size w); have H : (spec_DocBytes.l0 k l0 ([] : List Int) 0) = some r := h; clear h; have H' := Aside0.mk H; clear H
  go_enter Tryz.func39, Tryz.ntmps39
  go_wp2
  go_loopg [3, 4] k (fun kq v3 v4 w' => ∃ (x3_1 : List Int) (x4_1 : Int), v4 = .int .i64 x4_1 ∧ Aside0 (spec_DocBytes.l0 kq l0 x3_1 x4_1 = some r) ∧ Aside0 (kq ≤ k) ∧ Aside0 (Kd.R (Kd.int .u8) 5 w' w.heap.size (fun _ => True) v3 x3_1) ∧ Aside0 (Below w.heap.size w w'))
  case atStart => exact ⟨(([] : List Int)), (0), HW.rs, H', ⟨Nat.le_refl _⟩, ⟨by first | exact Kd.R_nil _ _ _ _ _ | exact Kd.N_nil _ _ _ _ _ | exact Kd.V_nil _ _ _ _ _ | exact Kd.Q_nil _ _ _ _ _ | exact Kd.S_nil _ _ _ _ _⟩, ⟨HW.zb⟩⟩
  case round =>
    clear H'; obtain ⟨x3_1, x4_1, rfl, HA, HK1, HO_3, HB⟩ := hrel
    cases gk with
    | zero => exact absurd HA.out (by simp [spec_DocBytes.l0])
    | succ k1 =>
      have H := HA.out; clear HA
      simp only [spec_DocBytes.l0] at H
      by_cases c2 : x4_1 < (l0.length : Int)
      rotate_left
      · rw [if_neg c2] at H
        have c2b0 : decide (x4_1 < (l0.length : Int)) = false := decide_eq_false c2; clear c2; replace H := Option.bind_eq_some_iff.mp H; obtain ⟨t774, A90, H⟩ := H; replace H : (if t774.length + x3_1.length < 140737488355328 then ((some (t774 ++ x3_1 : List Int)).bind fun y777 => (if y777.length < 140737488355328 then (some (y777 ++ [0])) else (none))) else (none)) = some r := H; have A9 := Aside0.mk A90; clear A90
        by_cases c10 : t774.length + x3_1.length < 140737488355328
        rotate_left
        · rw [if_neg c10] at H
          exact absurd H (by simp)
        rw [if_pos c10] at H; have LMc10 := Aside0.mk c10; clear c10; obtain ⟨y777, hy777⟩ : ∃ y_ : List Int, y_ = (t774 ++ x3_1) := ⟨_, rfl⟩
        replace H : (if y777.length < 140737488355328 then (some (y777 ++ [0])) else (none)) = some r := by (try rw [hy777]); exact HW.rp
        have Ny777 := Aside0.mk hy777; clear hy777
        by_cases c11 : y777.length < 140737488355328
        rotate_left
        · rw [if_neg c11] at H
          exact absurd H (by simp)
        rw [if_pos c11] at H; have LMc11 := Aside0.mk c11; clear c11; obtain ⟨y780, hy780⟩ : ∃ y_ : List Int, y_ = (y777 ++ [0]) := ⟨_, rfl⟩
        replace H : (some y780) = some r := by (try rw [hy780]); exact HW.rp
        have Ny780 := Aside0.mk hy780; clear hy780
        as_aux_lemma =>
          obtain rfl := Option.some.inj H; obtain ⟨Ao12, co12, eo12⟩ := Kd.R_slice HO_3.out; subst eo12
          go_wp2_with (first | ((with_reducible refine gate_callee (f := 62) rfl ?_); refine HW.gz (some 22) rfl rfl Tryz.func62 (by kernel_rfl) rfl #[.slice none 0 0, .int .i64 (wrap64 ((x3_1.length : Int) + 5))] rfl ?_; (refine (spec_DocInt32.calls (fun k_ => some k_ = (.slice none 0 0 : Value).ownBlock) (.slice none 0 0) ([] : List Int) (wrap64 ((x3_1.length : Int) + 5)) t774 w _ ?side1 ?side2 A9.out).mono ?_); (case side1 => exact HW.zb); (case side2 => exact Kd.R_nil _ _ _ _ _); rintro e w13 ⟨v775, rfl, ho0, hb, hkp⟩; refine ⟨_, rfl, ?_⟩; have HO776 := Aside0.mk (Kd.R_mono (ok' := fun k_ => some k_ ≠ (.slice Ao12 x3_1.length co12 : Value).ownBlock) ho0 (fun k_ hk_ => Or.elim hk_ (fun hs_ => absurd hs_ (by simp [Value.ownBlock])) (fun hn_ => (Kd.fresh' (Kd.R_lt (HW.zR HO_3.out)) k_ hn_)))); replace HO_3 := Aside0.mk (Kd.R_mono (ok' := fun k_ => some k_ ≠ (v775 : Value).ownBlock) (Kd.R_keptB (HO_3.out) hkp (fun k_ hk_ hs_ => (fun e_ => by simp [Value.ownBlock] at e_) hs_)) (fun k_ hk_ => fun e_ => Or.elim (ho0.1 k_ e_.symm) (fun hs_ => hk_.2.1 hs_) (fun hn_ => Nat.not_le.2 hk_.2.2 hn_))); replace HB := Aside0.mk (hb); (try clear hb); (try clear hkp); (try clear ho0)) | ((with_reducible refine gate_builtin (b := .append) (xs := #[.tmp 23, .tmp 24]) rfl ?_); at_builtin; refine Kd.R_append_rows (Kd.int .u8) (w0 := w) w.heap.size rfl (.tmp 23) (.tmp 24) 23 5 (.int .u8 0) 1 rfl Tryz.underlying23 info5 rfl (by decide) (by omega) v775 t774 x3_1 _ _ _ (fun k_ => some k_ ≠ (.slice Ao12 x3_1.length co12 : Value).ownBlock) (fun _ => False) rfl rfl ?aO ?aR (fun _ _ h => h) (fun _ h => h.elim) ?aF ?aB ?aS ?aL ?_; (case aR => repeat (first | exact (Kd.R_reads' HO_3.out).2.2 | (with_reducible refine Kd.C_alloc ?_ _) | (with_reducible refine Kd.C_drewN ?_ _) | (with_reducible refine Kd.C_drew ?_))); (case aB => exact HW.zb); (case aF => exact (fun k_ hk => Kd.fresh' (Kd.R_lt (HW.zR HO_3.out)) k_ hk)); (case aO => exact (HW.zR HO776.out)); (case aS => exact (below_size HW.zb)); (case aL => have := LMc10.out; omega); intro v778 w14 ho hb hg hat; rw [← Ny777.out] at ho; have n0_ := Aside0.mk (Kd.R_after (ok := (fun _ => True)) (HW.zR (Kd.R_mono HO_3.out (fun _ hk => ⟨trivial, hk⟩))) hg hat); have n1_ := Aside0.mk (hb); have n2_ := Aside0.mk (ho); clear HO_3; clear HB; clear HO776; have HO_3 := n0_; have HB := n1_; have HO779 := n2_; clear n0_ n1_ n2_; clear ho hb hg hat) | ((with_reducible refine gate_builtin (b := .append) (xs := #[.tmp 26, .tmp 27]) rfl ?_); at_builtin; refine Kd.R_append (Kd.int .u8) (w0 := w) w.heap.size rfl (.tmp 26) (.tmp 27) 23 5 (.int .u8 0) 1 rfl Tryz.underlying23 info5 rfl (by decide) (by omega) v778 y777 0 [.int .u8 0] (fun k_ => some k_ ≠ (.slice Ao12 x3_1.length co12 : Value).ownBlock) (fun _ => False) rfl rfl ?aP (fun _ hk => hk.elim) ?aF ?aO ?aB ?aS ?aL ?_; (case aP => exact rfl); (case aB => exact HW.zb); (case aF => exact (fun k_ hk => Kd.fresh' (Kd.R_lt (HW.zR HO_3.out)) k_ hk)); (case aO => exact (HW.zR HO779.out)); (case aS => exact (below_size HW.zb)); (case aL => have := LMc11.out; omega); intro v781 w15 ho hb hg hat; rw [← Ny780.out] at ho; have n0_ := Aside0.mk (Kd.R_after (ok := (fun _ => True)) (HW.zR HO_3.out) hg hat); have n1_ := Aside0.mk (hb); have n2_ := Aside0.mk (ho); clear HO_3; clear HB; clear HO779; have HO_3 := n0_; have HB := n1_; have HO782 := n2_; clear n0_ n1_ n2_; clear ho hb hg hat))
          go_ret
          exact ⟨_, rfl, by (with_reducible repeat (first | apply Kd.R_alloc | apply Kd.R_drewN | apply Kd.R_drew)); exact Kd.R_mono HO782.out (fun _ hk => trivial), HW.zb⟩
      rw [if_pos c2] at H; have c2b0 : decide (x4_1 < (l0.length : Int)) = true := decide_eq_true c2; clear c2
      by_cases c3 : 0 ≤ x4_1
      rotate_left
      · rw [if_neg c3] at H
        exact absurd H (by simp)
      rw [if_pos c3] at H; have c3b0 : decide (0 ≤ x4_1) = true := decide_eq_true c3; clear c3; replace H := Option.bind_eq_some_iff.mp H; obtain ⟨t768, A40, H⟩ := H; replace H : (if x3_1.length + t768.length < 140737488355328 then (spec_DocBytes.l0 k1 l0 (x3_1 ++ t768) (wrap64 (x4_1 + 1))) else (none)) = some r := H; have A4 := Aside0.mk A40; clear A40
      by_cases c5 : x3_1.length + t768.length < 140737488355328
      rotate_left
      · rw [if_neg c5] at H
        exact absurd H (by simp)
      rw [if_pos c5] at H; have LMc5 := Aside0.mk c5; clear c5; obtain ⟨y771, hy771⟩ : ∃ y_ : List Int, y_ = (x3_1 ++ t768) := ⟨_, rfl⟩
      replace H : (spec_DocBytes.l0 k1 l0 y771 (wrap64 (x4_1 + 1))) = some r := by (try rw [hy771]); exact HW.rp
      have Ny771 := Aside0.mk hy771; clear hy771
      as_aux_lemma =>
        have H' := Aside0.mk H; clear H
        have p767 : 0 ≤ (x4_1 : Int) := HW.od
        have q767 : x4_1 < (l0.length : Int) := HW.od
        obtain ⟨ad767, A767_7, c767_7, A767_8, c767_8, e767, hx767_0, hx767_1, hx767_2, hx767_3, hx767_4, hx767_5, hx767_6, hx767_7, hx767_8, hl767_7, hi767_7, hl767_8, hi767_8⟩ := at_T89 HR0.out x4_1 p767 q767
        cases e767
        replace hx767_0 := (HB.out.cell (World.block_lt_of_cell? w _ hx767_0)).trans hx767_0; replace hx767_1 := (HB.out.cell (World.block_lt_of_cell? w _ hx767_1)).trans hx767_1; replace hx767_2 := (HB.out.cell (World.block_lt_of_cell? w _ hx767_2)).trans hx767_2; replace hx767_3 := (HB.out.cell (World.block_lt_of_cell? w _ hx767_3)).trans hx767_3; replace hx767_4 := (HB.out.cell (World.block_lt_of_cell? w _ hx767_4)).trans hx767_4; replace hx767_5 := (HB.out.cell (World.block_lt_of_cell? w _ hx767_5)).trans hx767_5; replace hx767_6 := (HB.out.cell (World.block_lt_of_cell? w _ hx767_6)).trans hx767_6; replace hx767_7 := (HB.out.cell (World.block_lt_of_cell? w _ hx767_7)).trans hx767_7; replace hx767_8 := (HB.out.cell (World.block_lt_of_cell? w _ hx767_8)).trans hx767_8; have HR767_7 := Aside0.mk hi767_7; have HC767_7 := Aside0.mk hl767_7; clear hi767_7 hl767_7; have HR767_8 := Aside0.mk hi767_8; have HC767_8 := Aside0.mk hl767_8; clear hi767_8 hl767_8; replace p767 := eq_true p767; replace q767 := eq_true q767
        go_wp2_with (first | ((with_reducible refine gate_callee (f := 63) rfl ?_); refine HW.gz (some 17) rfl rfl Tryz.func63 (by kernel_rfl) rfl #[.agg #[.string ((rd_T89 l0 x4_1).f0), .int .i64 ((rd_T89 l0 x4_1).f1.f0), .string ((rd_T89 l0 x4_1).f1.f1), .string ((rd_T89 l0 x4_1).f1.f2), .int .i64 ((rd_T89 l0 x4_1).f1.f3), .int .u64 ((rd_T89 l0 x4_1).f1.f4), .int .u64 ((rd_T89 l0 x4_1).f1.f5), .slice A767_7 ((rd_T89 l0 x4_1).f1.f6).length c767_7, .slice A767_8 ((rd_T89 l0 x4_1).f1.f7).length c767_8]] rfl ?_; (with_reducible refine (Grp_spec_DocElem.get0 (ih k1 (by have := HK1.out; omega)) ((rd_T89 l0 x4_1).f0) ((rd_T89 l0 x4_1).f1.f0) ((rd_T89 l0 x4_1).f1.f1) ((rd_T89 l0 x4_1).f1.f2) ((rd_T89 l0 x4_1).f1.f3) ((rd_T89 l0 x4_1).f1.f4) ((rd_T89 l0 x4_1).f1.f5) _ _ ((rd_T89 l0 x4_1).f1.f6) _ _ ((rd_T89 l0 x4_1).f1.f7) t768 _ ?side1 ?side2 ?side3 ?side4 A4.out).mono ?_); (case side1 => repeat (first | exact (Kd.C_below HR767_7.out HB.out) | (with_reducible refine Kd.C_alloc ?_ _) | (with_reducible refine Kd.C_drewN ?_ _) | (with_reducible refine Kd.C_drew ?_))); (case side2 => exact HC767_7.out); (case side3 => repeat (first | exact (Kd.C_below HR767_8.out HB.out) | (with_reducible refine Kd.C_alloc ?_ _) | (with_reducible refine Kd.C_drewN ?_ _) | (with_reducible refine Kd.C_drew ?_))); (case side4 => exact HC767_8.out); rintro e w6 ⟨v769, rfl, ho0, hb⟩; refine ⟨_, rfl, ?_⟩; have HO770 := Aside0.mk (Kd.R_lower (Kd.R_new' ho0 (Kd.R_lt (HW.zR HO_3.out))) (below_size HW.zb)); replace HO_3 := Aside0.mk (Kd.R_elder' (HW.zR HO_3.out) (Kd.R_base ho0) hb); replace HB := Aside0.mk (below_step HW.zb hb); (try clear hb); (try clear ho0); obtain ⟨Ao8, co8, eo8⟩ := Kd.R_slice HO770.out; subst eo8) | ((with_reducible refine gate_builtin (b := .append) (xs := #[.tmp 12, .tmp 17]) rfl ?_); at_builtin; refine Kd.R_append_rows (Kd.int .u8) (w0 := w) w.heap.size rfl (.tmp 12) (.tmp 17) 23 5 (.int .u8 0) 1 rfl Tryz.underlying23 info5 rfl (by decide) (by omega) u3 x3_1 t768 _ _ _ (fun k_ => some k_ ≠ (.slice Ao8 t768.length co8 : Value).ownBlock) (fun _ => False) rfl rfl ?aO ?aR (fun _ _ h => h) (fun _ h => h.elim) ?aF ?aB ?aS ?aL ?_; (case aR => repeat (first | exact (Kd.R_reads' HO770.out).2.2 | (with_reducible refine Kd.C_alloc ?_ _) | (with_reducible refine Kd.C_drewN ?_ _) | (with_reducible refine Kd.C_drew ?_))); (case aB => exact HW.zb); (case aF => exact (fun k_ hk => Kd.fresh' (Kd.R_lt (HW.zR HO770.out)) k_ hk)); (case aO => exact (HW.zR (Kd.R_mono HO_3.out (fun _ hk => hk.2)))); (case aS => exact (below_size HW.zb)); (case aL => have := LMc5.out; omega); intro v772 w7 ho hb hg hat; rw [← Ny771.out] at ho; have n1_ := Aside0.mk (hb); have n2_ := Aside0.mk (ho); clear HB; clear HO_3; have HB := n1_; have HO773 := n2_; clear n1_ n2_; clear ho hb hg hat))
        go_roundg k1
        case measure => have := HK1.out; omega
        case rel => exact ⟨(y771), (wrap64 (x4_1 + 1)), HW.rs, H', ⟨by have := HK1.out; omega⟩, ⟨by (with_reducible repeat (first | apply Kd.R_alloc | apply Kd.R_drewN | apply Kd.R_drew)); exact Kd.R_mono HO773.out (fun _ hk => trivial)⟩, ⟨HW.zb⟩⟩
end Go.Proofs.YtpbfigeaoefcmaaGreat.PBg
