/- Printed by a program of this session (a turned copy of the printer of the kit): contracts of functions of the translation, each with the Lean function that it computes. Conditions: as each theorem states them. -/
import Derived.Test.YtndpbbgniflckaaDoorPBax0
import Derived.Test.YtndpbbgniflckaaDoorPBax4
namespace Go.Proofs.YtndpbbgniflckaaDoor.PBa
open Go.RowKit Go.Proofs.YtndpbbgniflckaaDoorW.PrintWords Go.Proofs.YtndpbbgniflckaaDoorW.PrintLast Go.Proofs.YtndpbbgniflckaaDoorW.PrintMore
attribute [local go_sem] max2_int min2_int max_two min_two max_three min_three max_four min_four   -- for this text's walks alone
set_option linter.unusedVariables false
set_option linter.unusedSimpArgs false


mutual
def spec_DocBytes.l0 : Nat → List (S31) → List Int → Int → Option (List Int)
  | 0, _, _, _ => none
  | k + 1, x0, x3, x4 => if x4 < (x0.length : Int) then (if 0 ≤ x4 then ((spec_DocElem.f k ((rd_T31 x0 x4).f0) ((rd_T31 x0 x4).f1.f0) ((rd_T31 x0 x4).f1.f1) ((rd_T31 x0 x4).f1.f2) ((rd_T31 x0 x4).f1.f3) ((rd_T31 x0 x4).f1.f4) ((rd_T31 x0 x4).f1.f5) ((rd_T31 x0 x4).f1.f6) ((rd_T31 x0 x4).f1.f7)).bind fun t257 => (if x3.length + t257.length < 140737488355328 then (spec_DocBytes.l0 k x0 (x3 ++ t257) (wrap64 (x4 + 1))) else (none))) else (none)) else ((spec_DocInt32.f ([] : List Int) (wrap64 ((x3.length : Int) + 5))).bind fun t263 => (if t263.length + x3.length < 140737488355328 then ((some (t263 ++ x3 : List Int)).bind fun y266 => (if y266.length < 140737488355328 then (some (y266 ++ [0])) else (none))) else (none)))
def spec_DocBytes.f : Nat → List (S31) → Option (List Int)
  | 0, _ => none
  | k + 1, l0 => spec_DocBytes.l0 k l0 ([] : List Int) 0
def spec_DocValue.j0 : Nat → List Int → Int → Bool → Int → ByteArray → ByteArray → Int → Int → Int → List Int → List (S31) → Option (List Int)
  | 0, _, _, _, _, _, _, _, _, _, _, _ => none
  | k + 1, x3, x8, x9, x273000, x273001, x273002, x273003, x273004, x273005, x273006, x273007 => if x9 = true then ((spec_DocInt64.f k x3 x273004).bind fun t273 => (some t273)) else (if x8 = 2 then (spec_DocValue.j1 k x3 x8 (x8 == 2) x273000 x273001 x273002 x273003 x273004 x273005 x273006 x273007) else (if x8 = 13 then (spec_DocValue.j1 k x3 x8 (x8 == 13) x273000 x273001 x273002 x273003 x273004 x273005 x273006 x273007) else (spec_DocValue.j1 k x3 x8 (x8 == 14) x273000 x273001 x273002 x273003 x273004 x273005 x273006 x273007)))
def spec_DocValue.j1 : Nat → List Int → Int → Bool → Int → ByteArray → ByteArray → Int → Int → Int → List Int → List (S31) → Option (List Int)
  | 0, _, _, _, _, _, _, _, _, _, _, _ => none
  | k + 1, x3, x8, x16, x273000, x273001, x273002, x273003, x273004, x273005, x273006, x273007 => if x16 = true then ((spec_docText.f x3 x273001).bind fun t276 => (some t276)) else (if x8 = 3 then (spec_DocValue.j2 k x3 x8 (x8 == 3) x273000 x273001 x273002 x273003 x273004 x273005 x273006 x273007) else (spec_DocValue.j2 k x3 x8 (x8 == 4) x273000 x273001 x273002 x273003 x273004 x273005 x273006 x273007))
def spec_DocValue.j2 : Nat → List Int → Int → Bool → Int → ByteArray → ByteArray → Int → Int → Int → List Int → List (S31) → Option (List Int)
  | 0, _, _, _, _, _, _, _, _, _, _, _ => none
  | k + 1, x3, x8, x24, x273000, x273001, x273002, x273003, x273004, x273005, x273006, x273007 => if x24 = true then ((spec_DocBytes.f k x273007).bind fun t279 => (some t279)) else (if x8 = 5 then (if x273003 = 2 then ((spec_DocInt32.f x3 (wrap64 ((x273006.length : Int) + 4))).bind fun t282 => (if t282.length < 140737488355328 then ((spec_DocInt32.f (t282 ++ [2]) (x273006.length : Int)).bind fun t288 => (if t288.length + x273006.length < 140737488355328 then (some (t288 ++ x273006)) else (none))) else (none))) else ((spec_DocInt32.f x3 (x273006.length : Int)).bind fun t294 => (if t294.length < 140737488355328 then ((some (t294 ++ [(x273003) % 256] : List Int)).bind fun y297 => (if y297.length + x273006.length < 140737488355328 then (some (y297 ++ x273006)) else (none))) else (none)))) else (if x8 = 7 then (if x3.length + x273006.length < 140737488355328 then (some (x3 ++ x273006)) else (none)) else (if x8 = 8 then (if x3.length < 140737488355328 then (some (x3 ++ [(x273003) % 256])) else (none)) else (if x8 = 9 then (spec_DocValue.j3 k x3 x8 (x8 == 9) x273000 x273001 x273002 x273003 x273004 x273005 x273006 x273007) else (spec_DocValue.j3 k x3 x8 (x8 == 18) x273000 x273001 x273002 x273003 x273004 x273005 x273006 x273007)))))
def spec_DocValue.j3 : Nat → List Int → Int → Bool → Int → ByteArray → ByteArray → Int → Int → Int → List Int → List (S31) → Option (List Int)
  | 0, _, _, _, _, _, _, _, _, _, _, _ => none
  | k + 1, x3, x8, x75, x273000, x273001, x273002, x273003, x273004, x273005, x273006, x273007 => if x75 = true then ((spec_DocInt64.f k x3 (IntKind.u64.wrap (x273003))).bind fun t309 => (some t309)) else (if x8 = 16 then ((spec_DocInt32.f x3 x273003).bind fun t312 => (some t312)) else (if x8 = 11 then (if x3.length + x273001.size < 140737488355328 then ((some (x3 ++ bytesOf x273001 : List Int)).bind fun y315 => (if y315.length < 140737488355328 then ((some (y315 ++ [0] : List Int)).bind fun y318 => (if y318.length + x273002.size < 140737488355328 then ((some (y318 ++ bytesOf x273002 : List Int)).bind fun y321 => (if y321.length < 140737488355328 then (some (y321 ++ [0])) else (none))) else (none))) else (none))) else (none)) else (if x8 = 12 then ((spec_docText.f x3 x273001).bind fun t327 => (if t327.length + x273006.length < 140737488355328 then (some (t327 ++ x273006)) else (none))) else (if x8 = 15 then ((spec_docText.f ([] : List Int) x273001).bind fun t333 => ((spec_DocBytes.f k x273007).bind fun t336 => ((spec_DocInt32.f x3 (wrap64 ((wrap64 (4 + (t333.length : Int))) + (t336.length : Int)))).bind fun t339 => (if t339.length + t333.length < 140737488355328 then ((some (t339 ++ t333 : List Int)).bind fun y342 => (if y342.length + t336.length < 140737488355328 then (some (y342 ++ t336)) else (none))) else (none))))) else (if x8 = 19 then ((spec_DocInt64.f k x3 x273004).bind fun t348 => ((spec_DocInt64.f k t348 x273005).bind fun t351 => (some t351))) else (some x3))))))
def spec_DocValue.f : Nat → Int → ByteArray → ByteArray → Int → Int → Int → List Int → List (S31) → Option (List Int)
  | 0, _, _, _, _, _, _, _, _ => none
  | k + 1, a0_0, a0_1, a0_2, a0_3, a0_4, a0_5, l0_6, l0_7 => if a0_0 = 1 then (spec_DocValue.j0 k ([] : List Int) a0_0 (a0_0 == 1) a0_0 a0_1 a0_2 a0_3 a0_4 a0_5 l0_6 l0_7) else (spec_DocValue.j0 k ([] : List Int) a0_0 (a0_0 == 17) a0_0 a0_1 a0_2 a0_3 a0_4 a0_5 l0_6 l0_7)
def spec_DocElem.f : Nat → ByteArray → Int → ByteArray → ByteArray → Int → Int → Int → List Int → List (S31) → Option (List Int)
  | 0, _, _, _, _, _, _, _, _, _ => none
  | k + 1, a0_0, a0_1, a0_2, a0_3, a0_4, a0_5, a0_6, l0_7, l0_8 => (spec_DocHead.f a0_1 a0_0).bind fun t355 => ((spec_DocValue.f k a0_1 a0_2 a0_3 a0_4 a0_5 a0_6 l0_7 l0_8).bind fun t358 => (if t355.length + t358.length < 140737488355328 then (some (t355 ++ t358)) else (none)))
end
theorem Grp_spec_DocBytes.mono_l : ∀ k, (∀ y0, LeO (spec_DocBytes.f k y0) (spec_DocBytes.f (k + 1) y0)) ∧ (∀ y0 y1 y2 y3 y4 y5 y6 y7, LeO (spec_DocValue.f k y0 y1 y2 y3 y4 y5 y6 y7) (spec_DocValue.f (k + 1) y0 y1 y2 y3 y4 y5 y6 y7)) ∧ (∀ y0 y1 y2 y3 y4 y5 y6 y7 y8, LeO (spec_DocElem.f k y0 y1 y2 y3 y4 y5 y6 y7 y8) (spec_DocElem.f (k + 1) y0 y1 y2 y3 y4 y5 y6 y7 y8)) ∧ (∀ y0 y1 y2, LeO (spec_DocBytes.l0 k y0 y1 y2) (spec_DocBytes.l0 (k + 1) y0 y1 y2)) ∧ (∀ y0 y1 y2 y3 y4 y5 y6 y7 y8 y9 y10, LeO (spec_DocValue.j0 k y0 y1 y2 y3 y4 y5 y6 y7 y8 y9 y10) (spec_DocValue.j0 (k + 1) y0 y1 y2 y3 y4 y5 y6 y7 y8 y9 y10)) ∧ (∀ y0 y1 y2 y3 y4 y5 y6 y7 y8 y9 y10, LeO (spec_DocValue.j1 k y0 y1 y2 y3 y4 y5 y6 y7 y8 y9 y10) (spec_DocValue.j1 (k + 1) y0 y1 y2 y3 y4 y5 y6 y7 y8 y9 y10)) ∧ (∀ y0 y1 y2 y3 y4 y5 y6 y7 y8 y9 y10, LeO (spec_DocValue.j2 k y0 y1 y2 y3 y4 y5 y6 y7 y8 y9 y10) (spec_DocValue.j2 (k + 1) y0 y1 y2 y3 y4 y5 y6 y7 y8 y9 y10)) ∧ (∀ y0 y1 y2 y3 y4 y5 y6 y7 y8 y9 y10, LeO (spec_DocValue.j3 k y0 y1 y2 y3 y4 y5 y6 y7 y8 y9 y10) (spec_DocValue.j3 (k + 1) y0 y1 y2 y3 y4 y5 y6 y7 y8 y9 y10))
  | 0 => ⟨fun _ r h => by simp [spec_DocBytes.f] at h, fun _ _ _ _ _ _ _ _ r h => by simp [spec_DocValue.f] at h, fun _ _ _ _ _ _ _ _ _ r h => by simp [spec_DocElem.f] at h, fun _ _ _ r h => by simp [spec_DocBytes.l0] at h, fun _ _ _ _ _ _ _ _ _ _ _ r h => by simp [spec_DocValue.j0] at h, fun _ _ _ _ _ _ _ _ _ _ _ r h => by simp [spec_DocValue.j1] at h, fun _ _ _ _ _ _ _ _ _ _ _ r h => by simp [spec_DocValue.j2] at h, fun _ _ _ _ _ _ _ _ _ _ _ r h => by simp [spec_DocValue.j3] at h⟩
  | k + 1 => by
    obtain ⟨ih0, ih1, ih2, ih3, ih4, ih5, ih6, ih7⟩ := Grp_spec_DocBytes.mono_l k
    refine ⟨?_, ?_, ?_, ?_, ?_, ?_, ?_, ?_⟩
    · intro y0
      unfold spec_DocBytes.f
      repeat' first
      | (with_reducible exact ih0 _)
      | (with_reducible exact ih1 _ _ _ _ _ _ _ _)
      | (with_reducible exact ih2 _ _ _ _ _ _ _ _ _)
      | (with_reducible exact ih3 _ _ _)
      | (with_reducible exact ih4 _ _ _ _ _ _ _ _ _ _ _)
      | (with_reducible exact ih5 _ _ _ _ _ _ _ _ _ _ _)
      | (with_reducible exact ih6 _ _ _ _ _ _ _ _ _ _ _)
      | (with_reducible exact ih7 _ _ _ _ _ _ _ _ _ _ _)
      | (with_reducible exact spec_DocInt64.mono _ _ _)
      | (with_reducible exact LeO.refl _)
      | (with_reducible exact LeO.none _)
      | (with_reducible refine LeO.ite ?_ ?_)
      | (with_reducible refine LeO.bind ?_ (fun _ => ?_))
      | exact ih0 _
      | exact ih1 _ _ _ _ _ _ _ _
      | exact ih2 _ _ _ _ _ _ _ _ _
      | exact ih3 _ _ _
      | exact ih4 _ _ _ _ _ _ _ _ _ _ _
      | exact ih5 _ _ _ _ _ _ _ _ _ _ _
      | exact ih6 _ _ _ _ _ _ _ _ _ _ _
      | exact ih7 _ _ _ _ _ _ _ _ _ _ _
      | exact spec_DocInt64.mono _ _ _
      | exact LeO.none _
      | refine LeO.ite ?_ ?_
      | refine LeO.bind ?_ (fun _ => ?_)
    · intro y0 y1 y2 y3 y4 y5 y6 y7
      unfold spec_DocValue.f
      repeat' first
      | (with_reducible exact ih0 _)
      | (with_reducible exact ih1 _ _ _ _ _ _ _ _)
      | (with_reducible exact ih2 _ _ _ _ _ _ _ _ _)
      | (with_reducible exact ih3 _ _ _)
      | (with_reducible exact ih4 _ _ _ _ _ _ _ _ _ _ _)
      | (with_reducible exact ih5 _ _ _ _ _ _ _ _ _ _ _)
      | (with_reducible exact ih6 _ _ _ _ _ _ _ _ _ _ _)
      | (with_reducible exact ih7 _ _ _ _ _ _ _ _ _ _ _)
      | (with_reducible exact spec_DocInt64.mono _ _ _)
      | (with_reducible exact LeO.refl _)
      | (with_reducible exact LeO.none _)
      | (with_reducible refine LeO.ite ?_ ?_)
      | (with_reducible refine LeO.bind ?_ (fun _ => ?_))
      | exact ih0 _
      | exact ih1 _ _ _ _ _ _ _ _
      | exact ih2 _ _ _ _ _ _ _ _ _
      | exact ih3 _ _ _
      | exact ih4 _ _ _ _ _ _ _ _ _ _ _
      | exact ih5 _ _ _ _ _ _ _ _ _ _ _
      | exact ih6 _ _ _ _ _ _ _ _ _ _ _
      | exact ih7 _ _ _ _ _ _ _ _ _ _ _
      | exact spec_DocInt64.mono _ _ _
      | exact LeO.none _
      | refine LeO.ite ?_ ?_
      | refine LeO.bind ?_ (fun _ => ?_)
    · intro y0 y1 y2 y3 y4 y5 y6 y7 y8
      unfold spec_DocElem.f
      repeat' first
      | (with_reducible exact ih0 _)
      | (with_reducible exact ih1 _ _ _ _ _ _ _ _)
      | (with_reducible exact ih2 _ _ _ _ _ _ _ _ _)
      | (with_reducible exact ih3 _ _ _)
      | (with_reducible exact ih4 _ _ _ _ _ _ _ _ _ _ _)
      | (with_reducible exact ih5 _ _ _ _ _ _ _ _ _ _ _)
      | (with_reducible exact ih6 _ _ _ _ _ _ _ _ _ _ _)
      | (with_reducible exact ih7 _ _ _ _ _ _ _ _ _ _ _)
      | (with_reducible exact spec_DocInt64.mono _ _ _)
      | (with_reducible exact LeO.refl _)
      | (with_reducible exact LeO.none _)
      | (with_reducible refine LeO.ite ?_ ?_)
      | (with_reducible refine LeO.bind ?_ (fun _ => ?_))
      | exact ih0 _
      | exact ih1 _ _ _ _ _ _ _ _
      | exact ih2 _ _ _ _ _ _ _ _ _
      | exact ih3 _ _ _
      | exact ih4 _ _ _ _ _ _ _ _ _ _ _
      | exact ih5 _ _ _ _ _ _ _ _ _ _ _
      | exact ih6 _ _ _ _ _ _ _ _ _ _ _
      | exact ih7 _ _ _ _ _ _ _ _ _ _ _
      | exact spec_DocInt64.mono _ _ _
      | exact LeO.none _
      | refine LeO.ite ?_ ?_
      | refine LeO.bind ?_ (fun _ => ?_)
    · intro y0 y1 y2
      unfold spec_DocBytes.l0
      repeat' first
      | (with_reducible exact ih0 _)
      | (with_reducible exact ih1 _ _ _ _ _ _ _ _)
      | (with_reducible exact ih2 _ _ _ _ _ _ _ _ _)
      | (with_reducible exact ih3 _ _ _)
      | (with_reducible exact ih4 _ _ _ _ _ _ _ _ _ _ _)
      | (with_reducible exact ih5 _ _ _ _ _ _ _ _ _ _ _)
      | (with_reducible exact ih6 _ _ _ _ _ _ _ _ _ _ _)
      | (with_reducible exact ih7 _ _ _ _ _ _ _ _ _ _ _)
      | (with_reducible exact spec_DocInt64.mono _ _ _)
      | (with_reducible exact LeO.refl _)
      | (with_reducible exact LeO.none _)
      | (with_reducible refine LeO.ite ?_ ?_)
      | (with_reducible refine LeO.bind ?_ (fun _ => ?_))
      | exact ih0 _
      | exact ih1 _ _ _ _ _ _ _ _
      | exact ih2 _ _ _ _ _ _ _ _ _
      | exact ih3 _ _ _
      | exact ih4 _ _ _ _ _ _ _ _ _ _ _
      | exact ih5 _ _ _ _ _ _ _ _ _ _ _
      | exact ih6 _ _ _ _ _ _ _ _ _ _ _
      | exact ih7 _ _ _ _ _ _ _ _ _ _ _
      | exact spec_DocInt64.mono _ _ _
      | exact LeO.none _
      | refine LeO.ite ?_ ?_
      | refine LeO.bind ?_ (fun _ => ?_)
    · intro y0 y1 y2 y3 y4 y5 y6 y7 y8 y9 y10
      unfold spec_DocValue.j0
      repeat' first
      | (with_reducible exact ih0 _)
      | (with_reducible exact ih1 _ _ _ _ _ _ _ _)
      | (with_reducible exact ih2 _ _ _ _ _ _ _ _ _)
      | (with_reducible exact ih3 _ _ _)
      | (with_reducible exact ih4 _ _ _ _ _ _ _ _ _ _ _)
      | (with_reducible exact ih5 _ _ _ _ _ _ _ _ _ _ _)
      | (with_reducible exact ih6 _ _ _ _ _ _ _ _ _ _ _)
      | (with_reducible exact ih7 _ _ _ _ _ _ _ _ _ _ _)
      | (with_reducible exact spec_DocInt64.mono _ _ _)
      | (with_reducible exact LeO.refl _)
      | (with_reducible exact LeO.none _)
      | (with_reducible refine LeO.ite ?_ ?_)
      | (with_reducible refine LeO.bind ?_ (fun _ => ?_))
      | exact ih0 _
      | exact ih1 _ _ _ _ _ _ _ _
      | exact ih2 _ _ _ _ _ _ _ _ _
      | exact ih3 _ _ _
      | exact ih4 _ _ _ _ _ _ _ _ _ _ _
      | exact ih5 _ _ _ _ _ _ _ _ _ _ _
      | exact ih6 _ _ _ _ _ _ _ _ _ _ _
      | exact ih7 _ _ _ _ _ _ _ _ _ _ _
      | exact spec_DocInt64.mono _ _ _
      | exact LeO.none _
      | refine LeO.ite ?_ ?_
      | refine LeO.bind ?_ (fun _ => ?_)
    · intro y0 y1 y2 y3 y4 y5 y6 y7 y8 y9 y10
      unfold spec_DocValue.j1
      repeat' first
      | (with_reducible exact ih0 _)
      | (with_reducible exact ih1 _ _ _ _ _ _ _ _)
      | (with_reducible exact ih2 _ _ _ _ _ _ _ _ _)
      | (with_reducible exact ih3 _ _ _)
      | (with_reducible exact ih4 _ _ _ _ _ _ _ _ _ _ _)
      | (with_reducible exact ih5 _ _ _ _ _ _ _ _ _ _ _)
      | (with_reducible exact ih6 _ _ _ _ _ _ _ _ _ _ _)
      | (with_reducible exact ih7 _ _ _ _ _ _ _ _ _ _ _)
      | (with_reducible exact spec_DocInt64.mono _ _ _)
      | (with_reducible exact LeO.refl _)
      | (with_reducible exact LeO.none _)
      | (with_reducible refine LeO.ite ?_ ?_)
      | (with_reducible refine LeO.bind ?_ (fun _ => ?_))
      | exact ih0 _
      | exact ih1 _ _ _ _ _ _ _ _
      | exact ih2 _ _ _ _ _ _ _ _ _
      | exact ih3 _ _ _
      | exact ih4 _ _ _ _ _ _ _ _ _ _ _
      | exact ih5 _ _ _ _ _ _ _ _ _ _ _
      | exact ih6 _ _ _ _ _ _ _ _ _ _ _
      | exact ih7 _ _ _ _ _ _ _ _ _ _ _
      | exact spec_DocInt64.mono _ _ _
      | exact LeO.none _
      | refine LeO.ite ?_ ?_
      | refine LeO.bind ?_ (fun _ => ?_)
    · intro y0 y1 y2 y3 y4 y5 y6 y7 y8 y9 y10
      unfold spec_DocValue.j2
      repeat' first
      | (with_reducible exact ih0 _)
      | (with_reducible exact ih1 _ _ _ _ _ _ _ _)
      | (with_reducible exact ih2 _ _ _ _ _ _ _ _ _)
      | (with_reducible exact ih3 _ _ _)
      | (with_reducible exact ih4 _ _ _ _ _ _ _ _ _ _ _)
      | (with_reducible exact ih5 _ _ _ _ _ _ _ _ _ _ _)
      | (with_reducible exact ih6 _ _ _ _ _ _ _ _ _ _ _)
      | (with_reducible exact ih7 _ _ _ _ _ _ _ _ _ _ _)
      | (with_reducible exact spec_DocInt64.mono _ _ _)
      | (with_reducible exact LeO.refl _)
      | (with_reducible exact LeO.none _)
      | (with_reducible refine LeO.ite ?_ ?_)
      | (with_reducible refine LeO.bind ?_ (fun _ => ?_))
      | exact ih0 _
      | exact ih1 _ _ _ _ _ _ _ _
      | exact ih2 _ _ _ _ _ _ _ _ _
      | exact ih3 _ _ _
      | exact ih4 _ _ _ _ _ _ _ _ _ _ _
      | exact ih5 _ _ _ _ _ _ _ _ _ _ _
      | exact ih6 _ _ _ _ _ _ _ _ _ _ _
      | exact ih7 _ _ _ _ _ _ _ _ _ _ _
      | exact spec_DocInt64.mono _ _ _
      | exact LeO.none _
      | refine LeO.ite ?_ ?_
      | refine LeO.bind ?_ (fun _ => ?_)
    · intro y0 y1 y2 y3 y4 y5 y6 y7 y8 y9 y10
      unfold spec_DocValue.j3
      repeat' first
      | (with_reducible exact ih0 _)
      | (with_reducible exact ih1 _ _ _ _ _ _ _ _)
      | (with_reducible exact ih2 _ _ _ _ _ _ _ _ _)
      | (with_reducible exact ih3 _ _ _)
      | (with_reducible exact ih4 _ _ _ _ _ _ _ _ _ _ _)
      | (with_reducible exact ih5 _ _ _ _ _ _ _ _ _ _ _)
      | (with_reducible exact ih6 _ _ _ _ _ _ _ _ _ _ _)
      | (with_reducible exact ih7 _ _ _ _ _ _ _ _ _ _ _)
      | (with_reducible exact spec_DocInt64.mono _ _ _)
      | (with_reducible exact LeO.refl _)
      | (with_reducible exact LeO.none _)
      | (with_reducible refine LeO.ite ?_ ?_)
      | (with_reducible refine LeO.bind ?_ (fun _ => ?_))
      | exact ih0 _
      | exact ih1 _ _ _ _ _ _ _ _
      | exact ih2 _ _ _ _ _ _ _ _ _
      | exact ih3 _ _ _
      | exact ih4 _ _ _ _ _ _ _ _ _ _ _
      | exact ih5 _ _ _ _ _ _ _ _ _ _ _
      | exact ih6 _ _ _ _ _ _ _ _ _ _ _
      | exact ih7 _ _ _ _ _ _ _ _ _ _ _
      | exact spec_DocInt64.mono _ _ _
      | exact LeO.none _
      | refine LeO.ite ?_ ?_
      | refine LeO.bind ?_ (fun _ => ?_)
theorem spec_DocBytes.mono : ∀ a0 k, LeO (spec_DocBytes.f k a0) (spec_DocBytes.f (k + 1) a0) := by
  intro a0 k
  exact (Grp_spec_DocBytes.mono_l k).1 a0
theorem spec_DocValue.mono : ∀ a0 a1 a2 a3 a4 a5 a6 a7 k, LeO (spec_DocValue.f k a0 a1 a2 a3 a4 a5 a6 a7) (spec_DocValue.f (k + 1) a0 a1 a2 a3 a4 a5 a6 a7) := by
  intro a0 a1 a2 a3 a4 a5 a6 a7 k
  exact (Grp_spec_DocBytes.mono_l k).2.1 a0 a1 a2 a3 a4 a5 a6 a7
theorem spec_DocElem.mono : ∀ a0 a1 a2 a3 a4 a5 a6 a7 a8 k, LeO (spec_DocElem.f k a0 a1 a2 a3 a4 a5 a6 a7 a8) (spec_DocElem.f (k + 1) a0 a1 a2 a3 a4 a5 a6 a7 a8) := by
  intro a0 a1 a2 a3 a4 a5 a6 a7 a8 k
  exact (Grp_spec_DocBytes.mono_l k).2.2.1 a0 a1 a2 a3 a4 a5 a6 a7 a8
def spec_DocBytes.Spec (k : Nat) : Prop := ∀ (A0 : Option Addr) (c0 : Nat) (l0 : List (S31)) (r : List Int) (w : World) (hr0 : Kd.C k31 w A0 l0.length l0) (hc0 : l0.length ≤ c0) (h : spec_DocBytes.f k l0 = some r),
    Calls Tryd.prog 31 #[.slice A0 l0.length c0] w fun e w' => ∃ v0_ : Value, e = .returned (v0_) ∧ Kd.R (Kd.int .u8) 5 w' w.heap.size (fun _ => True) v0_ r ∧ Below w.heap.size w w'
def spec_DocValue.Spec (k : Nat) : Prop := ∀ (a0_0 : Int) (a0_1 : ByteArray) (a0_2 : ByteArray) (a0_3 : Int) (a0_4 : Int) (a0_5 : Int) (A0_6 : Option Addr) (c0_6 : Nat) (l0_6 : List Int) (A0_7 : Option Addr) (c0_7 : Nat) (l0_7 : List (S31)) (r : List Int) (w : World) (hr0_6 : Kd.C (Kd.int .u8) w A0_6 l0_6.length l0_6) (hc0_6 : l0_6.length ≤ c0_6) (hr0_7 : Kd.C k31 w A0_7 l0_7.length l0_7) (hc0_7 : l0_7.length ≤ c0_7) (h : spec_DocValue.f k a0_0 a0_1 a0_2 a0_3 a0_4 a0_5 l0_6 l0_7 = some r),
    Calls Tryd.prog 13 #[.agg #[.int .i64 a0_0, .string a0_1, .string a0_2, .int .i64 a0_3, .int .u64 a0_4, .int .u64 a0_5, .slice A0_6 l0_6.length c0_6, .slice A0_7 l0_7.length c0_7]] w fun e w' => ∃ v0_ : Value, e = .returned (v0_) ∧ Kd.R (Kd.int .u8) 5 w' w.heap.size (fun _ => True) v0_ r ∧ Below w.heap.size w w'
def spec_DocElem.Spec (k : Nat) : Prop := ∀ (a0_0 : ByteArray) (a0_1 : Int) (a0_2 : ByteArray) (a0_3 : ByteArray) (a0_4 : Int) (a0_5 : Int) (a0_6 : Int) (A0_7 : Option Addr) (c0_7 : Nat) (l0_7 : List Int) (A0_8 : Option Addr) (c0_8 : Nat) (l0_8 : List (S31)) (r : List Int) (w : World) (hr0_7 : Kd.C (Kd.int .u8) w A0_7 l0_7.length l0_7) (hc0_7 : l0_7.length ≤ c0_7) (hr0_8 : Kd.C k31 w A0_8 l0_8.length l0_8) (hc0_8 : l0_8.length ≤ c0_8) (h : spec_DocElem.f k a0_0 a0_1 a0_2 a0_3 a0_4 a0_5 a0_6 l0_7 l0_8 = some r),
    Calls Tryd.prog 8 #[.agg #[.string a0_0, .int .i64 a0_1, .string a0_2, .string a0_3, .int .i64 a0_4, .int .u64 a0_5, .int .u64 a0_6, .slice A0_7 l0_7.length c0_7, .slice A0_8 l0_8.length c0_8]] w fun e w' => ∃ v0_ : Value, e = .returned (v0_) ∧ Kd.R (Kd.int .u8) 5 w' w.heap.size (fun _ => True) v0_ r ∧ Below w.heap.size w w'
def Grp_spec_DocBytes.Spec (k : Nat) : Prop := spec_DocBytes.Spec k ∧ spec_DocValue.Spec k ∧ spec_DocElem.Spec k
theorem Grp_spec_DocBytes.get0 {k : Nat} (H : Grp_spec_DocBytes.Spec k) : ∀ (A0 : Option Addr) (c0 : Nat) (l0 : List (S31)) (r : List Int) (w : World) (hr0 : Kd.C k31 w A0 l0.length l0) (hc0 : l0.length ≤ c0) (h : spec_DocBytes.f k l0 = some r),
    Calls Tryd.prog 31 #[.slice A0 l0.length c0] w fun e w' => ∃ v0_ : Value, e = .returned (v0_) ∧ Kd.R (Kd.int .u8) 5 w' w.heap.size (fun _ => True) v0_ r ∧ Below w.heap.size w w' := H.1
theorem Grp_spec_DocBytes.get1 {k : Nat} (H : Grp_spec_DocBytes.Spec k) : ∀ (a0_0 : Int) (a0_1 : ByteArray) (a0_2 : ByteArray) (a0_3 : Int) (a0_4 : Int) (a0_5 : Int) (A0_6 : Option Addr) (c0_6 : Nat) (l0_6 : List Int) (A0_7 : Option Addr) (c0_7 : Nat) (l0_7 : List (S31)) (r : List Int) (w : World) (hr0_6 : Kd.C (Kd.int .u8) w A0_6 l0_6.length l0_6) (hc0_6 : l0_6.length ≤ c0_6) (hr0_7 : Kd.C k31 w A0_7 l0_7.length l0_7) (hc0_7 : l0_7.length ≤ c0_7) (h : spec_DocValue.f k a0_0 a0_1 a0_2 a0_3 a0_4 a0_5 l0_6 l0_7 = some r),
    Calls Tryd.prog 13 #[.agg #[.int .i64 a0_0, .string a0_1, .string a0_2, .int .i64 a0_3, .int .u64 a0_4, .int .u64 a0_5, .slice A0_6 l0_6.length c0_6, .slice A0_7 l0_7.length c0_7]] w fun e w' => ∃ v0_ : Value, e = .returned (v0_) ∧ Kd.R (Kd.int .u8) 5 w' w.heap.size (fun _ => True) v0_ r ∧ Below w.heap.size w w' := H.2.1
theorem Grp_spec_DocBytes.get2 {k : Nat} (H : Grp_spec_DocBytes.Spec k) : ∀ (a0_0 : ByteArray) (a0_1 : Int) (a0_2 : ByteArray) (a0_3 : ByteArray) (a0_4 : Int) (a0_5 : Int) (a0_6 : Int) (A0_7 : Option Addr) (c0_7 : Nat) (l0_7 : List Int) (A0_8 : Option Addr) (c0_8 : Nat) (l0_8 : List (S31)) (r : List Int) (w : World) (hr0_7 : Kd.C (Kd.int .u8) w A0_7 l0_7.length l0_7) (hc0_7 : l0_7.length ≤ c0_7) (hr0_8 : Kd.C k31 w A0_8 l0_8.length l0_8) (hc0_8 : l0_8.length ≤ c0_8) (h : spec_DocElem.f k a0_0 a0_1 a0_2 a0_3 a0_4 a0_5 a0_6 l0_7 l0_8 = some r),
    Calls Tryd.prog 8 #[.agg #[.string a0_0, .int .i64 a0_1, .string a0_2, .string a0_3, .int .i64 a0_4, .int .u64 a0_5, .int .u64 a0_6, .slice A0_7 l0_7.length c0_7, .slice A0_8 l0_8.length c0_8]] w fun e w' => ∃ v0_ : Value, e = .returned (v0_) ∧ Kd.R (Kd.int .u8) 5 w' w.heap.size (fun _ => True) v0_ r ∧ Below w.heap.size w w' := H.2.2

/-! ### spec_DocBytes: function 31 -/
set_option maxHeartbeats 8000000 in
set_option maxRecDepth 100000 in
theorem spec_DocBytes.step (k : Nat) (ih : ∀ j, j < k → Grp_spec_DocBytes.Spec j) : ∀ (A0 : Option Addr) (c0 : Nat) (l0 : List (S31)) (r : List Int) (w : World) (hr0 : Kd.C k31 w A0 l0.length l0) (hc0 : l0.length ≤ c0) (h : spec_DocBytes.f k l0 = some r),
    Calls Tryd.prog 31 #[.slice A0 l0.length c0] w fun e w' => ∃ v0_ : Value, e = .returned (v0_) ∧ Kd.R (Kd.int .u8) 5 w' w.heap.size (fun _ => True) v0_ r ∧ Below w.heap.size w w' := by
  intro A0 c0 l0 r w hr0 hc0 h
  cases k with
  | zero => exact absurd h (by simp [spec_DocBytes.f])
  | succ k =>
  simp only [spec_DocBytes.f] at h
  have hu31 := Tryd.underlying31
  have HR0 := Aside0.mk hr0
  have HC0 := Aside0.mk hc0
  clear hr0 hc0
  have HB := Aside0.mk (Below.refl w.heap.size w)
  have H : (spec_DocBytes.l0 k l0 ([] : List Int) 0) = some r := h
  clear h
  have H' := Aside0.mk H
  clear H
  go_enter Tryd.func31, Tryd.ntmps31
  go_wp2
  go_loopg [3, 4] k (fun kq v3 v4 w' => ∃ (x3_1 : List Int) (x4_1 : Int), v4 = .int .i64 x4_1 ∧ Aside0 (spec_DocBytes.l0 kq l0 x3_1 x4_1 = some r) ∧ Aside0 (kq ≤ k) ∧ Aside0 (Kd.R (Kd.int .u8) 5 w' w.heap.size (fun _ => True) v3 x3_1) ∧ Aside0 (Below w.heap.size w w'))
  case atStart => exact ⟨(([] : List Int)), (0), (by first | rfl | (simp; done) | (simp [*]; done)), H', ⟨Nat.le_refl _⟩, ⟨by first | exact Kd.R_nil _ _ _ _ _ | exact Kd.N_nil _ _ _ _ _ | exact Kd.V_nil _ _ _ _ _ | exact Kd.Q_nil _ _ _ _ _ | exact Kd.S_nil _ _ _ _ _⟩, ⟨by repeat (first | (with_reducible first | exact HB.out | apply below_alloc | apply pw_below_drewN | apply below_drew1) | exact HB.out)⟩⟩
  case round =>
    clear H'
    obtain ⟨x3_1, x4_1, rfl, HA, HK1, HO_3, HB⟩ := hrel
    cases gk with
    | zero => exact absurd HA.out (by simp [spec_DocBytes.l0])
    | succ k1 =>
      have H := HA.out
      clear HA
      simp only [spec_DocBytes.l0] at H
      by_cases c2 : x4_1 < (l0.length : Int)
      · rw [if_pos c2] at H
        have c2b0 : decide (x4_1 < (l0.length : Int)) = true := decide_eq_true c2
        clear c2
        by_cases c3 : 0 ≤ x4_1
        · rw [if_pos c3] at H
          have c3b0 : decide (0 ≤ x4_1) = true := decide_eq_true c3
          clear c3
          replace H := Option.bind_eq_some_iff.mp H
          obtain ⟨t257, A40, H⟩ := H
          replace H : (if x3_1.length + t257.length < 140737488355328 then (spec_DocBytes.l0 k1 l0 (x3_1 ++ t257) (wrap64 (x4_1 + 1))) else (none)) = some r := H
          have A4 := Aside0.mk A40
          clear A40
          by_cases c5 : x3_1.length + t257.length < 140737488355328
          · rw [if_pos c5] at H
            have LMc5 := Aside0.mk c5
            clear c5
            obtain ⟨y260, hy260⟩ : ∃ y_ : List Int, y_ = (x3_1 ++ t257) := ⟨_, rfl⟩
            replace H : (spec_DocBytes.l0 k1 l0 y260 (wrap64 (x4_1 + 1))) = some r := by first | (rw [hy260]; with_reducible exact H) | (have H2_ := (Option.bind_some _ _).symm.trans H; rw [hy260]; with_reducible exact H2_) | (have H2_ := (Option.bind_some _ _).symm.trans H; with_reducible exact H2_) | with_reducible exact H | (rw [hy260]; exact H) | exact H
            have Ny260 := Aside0.mk hy260
            clear hy260
            as_aux_lemma =>
              have H' := Aside0.mk H
              clear H
              have p256 : 0 ≤ (x4_1 : Int) := of_decide_eq_true (by first | (with_reducible assumption) | assumption)
              have q256 : x4_1 < (l0.length : Int) := of_decide_eq_true (by first | (with_reducible assumption) | assumption)
              obtain ⟨ad256, A256_7, c256_7, A256_8, c256_8, e256, hx256_0, hx256_1, hx256_2, hx256_3, hx256_4, hx256_5, hx256_6, hx256_7, hx256_8, hl256_7, hi256_7, hl256_8, hi256_8⟩ := at_T31 HR0.out x4_1 p256 q256
              cases e256
              replace hx256_0 := (HB.out.cell (World.block_lt_of_cell? w _ hx256_0)).trans hx256_0
              replace hx256_1 := (HB.out.cell (World.block_lt_of_cell? w _ hx256_1)).trans hx256_1
              replace hx256_2 := (HB.out.cell (World.block_lt_of_cell? w _ hx256_2)).trans hx256_2
              replace hx256_3 := (HB.out.cell (World.block_lt_of_cell? w _ hx256_3)).trans hx256_3
              replace hx256_4 := (HB.out.cell (World.block_lt_of_cell? w _ hx256_4)).trans hx256_4
              replace hx256_5 := (HB.out.cell (World.block_lt_of_cell? w _ hx256_5)).trans hx256_5
              replace hx256_6 := (HB.out.cell (World.block_lt_of_cell? w _ hx256_6)).trans hx256_6
              replace hx256_7 := (HB.out.cell (World.block_lt_of_cell? w _ hx256_7)).trans hx256_7
              replace hx256_8 := (HB.out.cell (World.block_lt_of_cell? w _ hx256_8)).trans hx256_8
              have HR256_7 := Aside0.mk hi256_7
              have HC256_7 := Aside0.mk hl256_7
              clear hi256_7 hl256_7
              have HR256_8 := Aside0.mk hi256_8
              have HC256_8 := Aside0.mk hl256_8
              clear hi256_8 hl256_8
              replace p256 := eq_true p256
              replace q256 := eq_true q256
              go_wp2_with (first | ((with_reducible refine gate_callee (f := 8) rfl ?_); refine goesL_ (some 17) rfl rfl Tryd.func8 (by kernel_rfl) rfl #[.agg #[.string ((rd_T31 l0 x4_1).f0), .int .i64 ((rd_T31 l0 x4_1).f1.f0), .string ((rd_T31 l0 x4_1).f1.f1), .string ((rd_T31 l0 x4_1).f1.f2), .int .i64 ((rd_T31 l0 x4_1).f1.f3), .int .u64 ((rd_T31 l0 x4_1).f1.f4), .int .u64 ((rd_T31 l0 x4_1).f1.f5), .slice A256_7 ((rd_T31 l0 x4_1).f1.f6).length c256_7, .slice A256_8 ((rd_T31 l0 x4_1).f1.f7).length c256_8]] rfl (by (try simp only [List.map_toArray, List.map_cons, List.map_nil]); first | done | rfl | (simp only [List.length_drop, List.length_take]; rfl)) ?_; (with_reducible refine (Grp_spec_DocBytes.get2 (ih k1 (by have := HK1.out; omega)) ((rd_T31 l0 x4_1).f0) ((rd_T31 l0 x4_1).f1.f0) ((rd_T31 l0 x4_1).f1.f1) ((rd_T31 l0 x4_1).f1.f2) ((rd_T31 l0 x4_1).f1.f3) ((rd_T31 l0 x4_1).f1.f4) ((rd_T31 l0 x4_1).f1.f5) _ _ ((rd_T31 l0 x4_1).f1.f6) _ _ ((rd_T31 l0 x4_1).f1.f7) t257 _ ?side1 ?side2 ?side3 ?side4 A4.out).mono ?_); (case side1 => repeat (first | exact (Kd.C_below HR256_7.out HB.out) | (with_reducible refine Kd.C_alloc ?_ _) | (with_reducible refine Kd.C_drewN ?_ _) | (with_reducible refine Kd.C_drew ?_))); (case side2 => exact HC256_7.out); (case side3 => repeat (first | exact (Kd.C_below HR256_8.out HB.out) | (with_reducible refine Kd.C_alloc ?_ _) | (with_reducible refine Kd.C_drewN ?_ _) | (with_reducible refine Kd.C_drew ?_))); (case side4 => exact HC256_8.out); rintro e w6 ⟨v258, rfl, ho0, hb⟩; refine ⟨_, rfl, ?_⟩; have n0_ := Aside0.mk (Kd.R_elder' (by (with_reducible repeat (first | apply Kd.R_alloc | apply Kd.R_drewN | apply Kd.R_drew)); exact HO_3.out) (Kd.R_base ho0) hb); have n1_ := Aside0.mk (Kd.R_lower (Kd.R_new' ho0 (Kd.R_lt (by (with_reducible repeat (first | apply Kd.R_alloc | apply Kd.R_drewN | apply Kd.R_drew)); exact HO_3.out))) (below_size (by repeat (first | (with_reducible first | exact HB.out | apply below_alloc | apply pw_below_drewN | apply below_drew1) | exact HB.out)))); have n2_ := Aside0.mk (below_step (by repeat (first | (with_reducible first | exact HB.out | apply below_alloc | apply pw_below_drewN | apply below_drew1) | exact HB.out)) hb); clear HO_3; clear HB; have HO_3 := n0_; have HO259 := n1_; have HB := n2_; clear n0_ n1_ n2_; (try clear hb); (try clear hb2); (try clear hk); (try clear hi); (try clear ho0); obtain ⟨Ao8, co8, eo8⟩ := Kd.R_slice HO259.out; subst eo8) | ((with_reducible refine gate_builtin (b := .append) (xs := #[.tmp 12, .tmp 17]) rfl ?_); at_builtin; refine Kd.R_append_rows (Kd.int .u8) (w0 := w) w.heap.size rfl (.tmp 12) (.tmp 17) 23 5 (.int .u8 0) 1 rfl Tryd.underlying23 info5 rfl (by decide) (by omega) u3 x3_1 t257 _ _ _ (fun k_ => some k_ ≠ (.slice Ao8 t257.length co8 : Value).ownBlock) (fun _ => False) rfl rfl ?aO ?aR (fun _ _ h => h) (fun _ h => h.elim) ?aF ?aB ?aS ?aL ?_; (case aR => repeat (first | exact (Kd.R_reads' HO259.out).2.2 | (with_reducible refine Kd.C_alloc ?_ _) | (with_reducible refine Kd.C_drewN ?_ _) | (with_reducible refine Kd.C_drew ?_))); (case aB => exact (by repeat (first | (with_reducible first | exact HB.out | apply below_alloc | apply pw_below_drewN | apply below_drew1) | exact HB.out))); (case aF => exact (fun k_ hk => Kd.fresh' (Kd.R_lt (by (with_reducible repeat (first | apply Kd.R_alloc | apply Kd.R_drewN | apply Kd.R_drew)); exact HO259.out)) k_ hk)); (case aO => exact (by (with_reducible repeat (first | apply Kd.R_alloc | apply Kd.R_drewN | apply Kd.R_drew)); exact Kd.R_mono HO_3.out (fun _ hk => hk.2))); (case aS => exact (below_size (by repeat (first | (with_reducible first | exact HB.out | apply below_alloc | apply pw_below_drewN | apply below_drew1) | exact HB.out)))); (case aL => have := LMc5.out; omega); intro v261 w7 ho hb hg hat; rw [← Ny260.out] at ho; have n0_ := Aside0.mk (Kd.R_after (ok := (fun _ => True)) (by (with_reducible repeat (first | apply Kd.R_alloc | apply Kd.R_drewN | apply Kd.R_drew)); exact HO259.out) hg hat); have n1_ := Aside0.mk (hb); have n2_ := Aside0.mk (ho); clear HO259; clear HB; clear HO_3; have HO259 := n0_; have HB := n1_; have HO262 := n2_; clear n0_ n1_ n2_; clear ho hb hg hat))
              go_roundg k1
              case measure => have := HK1.out; omega
              case rel => exact ⟨(y260), (wrap64 (x4_1 + 1)), (by first | rfl | (simp; done) | (simp [*]; done)), H', ⟨by have := HK1.out; omega⟩, ⟨by (with_reducible repeat (first | apply Kd.R_alloc | apply Kd.R_drewN | apply Kd.R_drew)); exact Kd.R_mono HO262.out (fun _ hk => trivial)⟩, ⟨by repeat (first | (with_reducible first | exact HB.out | apply below_alloc | apply pw_below_drewN | apply below_drew1) | exact HB.out)⟩⟩
          · rw [if_neg c5] at H
            exact absurd H (by simp)
        · rw [if_neg c3] at H
          exact absurd H (by simp)
      · rw [if_neg c2] at H
        have c2b0 : decide (x4_1 < (l0.length : Int)) = false := decide_eq_false c2
        clear c2
        replace H := Option.bind_eq_some_iff.mp H
        obtain ⟨t263, A90, H⟩ := H
        replace H : (if t263.length + x3_1.length < 140737488355328 then ((some (t263 ++ x3_1 : List Int)).bind fun y266 => (if y266.length < 140737488355328 then (some (y266 ++ [0])) else (none))) else (none)) = some r := H
        have A9 := Aside0.mk A90
        clear A90
        by_cases c10 : t263.length + x3_1.length < 140737488355328
        · rw [if_pos c10] at H
          have LMc10 := Aside0.mk c10
          clear c10
          obtain ⟨y266, hy266⟩ : ∃ y_ : List Int, y_ = (t263 ++ x3_1) := ⟨_, rfl⟩
          replace H : (if y266.length < 140737488355328 then (some (y266 ++ [0])) else (none)) = some r := by first | (rw [hy266]; with_reducible exact H) | (have H2_ := (Option.bind_some _ _).symm.trans H; rw [hy266]; with_reducible exact H2_) | (have H2_ := (Option.bind_some _ _).symm.trans H; with_reducible exact H2_) | with_reducible exact H | (rw [hy266]; exact H) | exact H
          have Ny266 := Aside0.mk hy266
          clear hy266
          by_cases c11 : y266.length < 140737488355328
          · rw [if_pos c11] at H
            have LMc11 := Aside0.mk c11
            clear c11
            obtain ⟨y269, hy269⟩ : ∃ y_ : List Int, y_ = (y266 ++ [0]) := ⟨_, rfl⟩
            replace H : (some y269) = some r := by first | (rw [hy269]; with_reducible exact H) | (have H2_ := (Option.bind_some _ _).symm.trans H; rw [hy269]; with_reducible exact H2_) | (have H2_ := (Option.bind_some _ _).symm.trans H; with_reducible exact H2_) | with_reducible exact H | (rw [hy269]; exact H) | exact H
            have Ny269 := Aside0.mk hy269
            clear hy269
            as_aux_lemma =>
              obtain rfl := Option.some.inj H
              obtain ⟨Ao12, co12, eo12⟩ := Kd.R_slice HO_3.out
              subst eo12
              go_wp2_with (first | ((with_reducible refine gate_callee (f := 32) rfl ?_); refine goesL_ (some 22) rfl rfl Tryd.func32 (by kernel_rfl) rfl #[.slice none 0 0, .int .i64 (wrap64 ((x3_1.length : Int) + 5))] rfl (by (try simp only [List.map_toArray, List.map_cons, List.map_nil]); first | done | rfl | (simp only [List.length_drop, List.length_take]; rfl)) ?_; (refine (spec_DocInt32.calls (fun k_ => some k_ = (.slice none 0 0 : Value).ownBlock) (.slice none 0 0) ([] : List Int) (wrap64 ((x3_1.length : Int) + 5)) t263 w _ ?side1 ?side2 A9.out).mono ?_); (case side1 => repeat (first | (with_reducible first | exact HB.out | apply below_alloc | apply pw_below_drewN | apply below_drew1) | exact HB.out)); (case side2 => exact Kd.R_nil _ _ _ _ _); rintro e w13 ⟨v264, rfl, ho0, hb, hkp⟩; refine ⟨_, rfl, ?_⟩; have n0_ := Aside0.mk (Kd.R_mono (ok' := fun k_ => some k_ ≠ (v264 : Value).ownBlock) (Kd.R_keptB (HO_3.out) hkp (fun k_ hk_ hs_ => (fun e_ => by simp [Value.ownBlock] at e_) hs_)) (fun k_ hk_ => fun e_ => Or.elim (ho0.1 k_ e_.symm) (fun hs_ => hk_.2.1 hs_) (fun hn_ => Nat.not_le.2 hk_.2.2 hn_))); have n1_ := Aside0.mk (Kd.R_mono (ok' := fun k_ => some k_ ≠ (.slice Ao12 x3_1.length co12 : Value).ownBlock) ho0 (fun k_ hk_ => Or.elim hk_ (fun hs_ => absurd hs_ (by simp [Value.ownBlock])) (fun hn_ => (Kd.fresh' (Kd.R_lt (by (with_reducible repeat (first | apply Kd.R_alloc | apply Kd.R_drewN | apply Kd.R_drew)); exact HO_3.out)) k_ hn_)))); have n2_ := Aside0.mk (hb); clear HO_3; clear HB; have HO_3 := n0_; have HO265 := n1_; have HB := n2_; clear n0_ n1_ n2_; (try clear hb); (try clear hkp); (try clear ho0)) | ((with_reducible refine gate_builtin (b := .append) (xs := #[.tmp 23, .tmp 24]) rfl ?_); at_builtin; refine Kd.R_append_rows (Kd.int .u8) (w0 := w) w.heap.size rfl (.tmp 23) (.tmp 24) 23 5 (.int .u8 0) 1 rfl Tryd.underlying23 info5 rfl (by decide) (by omega) v264 t263 x3_1 _ _ _ (fun k_ => some k_ ≠ (.slice Ao12 x3_1.length co12 : Value).ownBlock) (fun _ => False) rfl rfl ?aO ?aR (fun _ _ h => h) (fun _ h => h.elim) ?aF ?aB ?aS ?aL ?_; (case aR => repeat (first | exact (Kd.R_reads' HO_3.out).2.2 | (with_reducible refine Kd.C_alloc ?_ _) | (with_reducible refine Kd.C_drewN ?_ _) | (with_reducible refine Kd.C_drew ?_))); (case aB => exact (by repeat (first | (with_reducible first | exact HB.out | apply below_alloc | apply pw_below_drewN | apply below_drew1) | exact HB.out))); (case aF => exact (fun k_ hk => Kd.fresh' (Kd.R_lt (by (with_reducible repeat (first | apply Kd.R_alloc | apply Kd.R_drewN | apply Kd.R_drew)); exact HO_3.out)) k_ hk)); (case aO => exact (by (with_reducible repeat (first | apply Kd.R_alloc | apply Kd.R_drewN | apply Kd.R_drew)); exact HO265.out)); (case aS => exact (below_size (by repeat (first | (with_reducible first | exact HB.out | apply below_alloc | apply pw_below_drewN | apply below_drew1) | exact HB.out)))); (case aL => have := LMc10.out; omega); intro v267 w14 ho hb hg hat; rw [← Ny266.out] at ho; have n0_ := Aside0.mk (Kd.R_after (ok := (fun _ => True)) (by (with_reducible repeat (first | apply Kd.R_alloc | apply Kd.R_drewN | apply Kd.R_drew)); exact Kd.R_mono HO_3.out (fun _ hk => ⟨trivial, hk⟩)) hg hat); have n1_ := Aside0.mk (hb); have n2_ := Aside0.mk (ho); clear HO_3; clear HB; clear HO265; have HO_3 := n0_; have HB := n1_; have HO268 := n2_; clear n0_ n1_ n2_; clear ho hb hg hat) | ((with_reducible refine gate_builtin (b := .append) (xs := #[.tmp 26, .tmp 27]) rfl ?_); at_builtin; refine Kd.R_append (Kd.int .u8) (w0 := w) w.heap.size rfl (.tmp 26) (.tmp 27) 23 5 (.int .u8 0) 1 rfl Tryd.underlying23 info5 rfl (by decide) (by omega) v267 y266 0 [.int .u8 0] (fun k_ => some k_ ≠ (.slice Ao12 x3_1.length co12 : Value).ownBlock) (fun _ => False) rfl rfl ?aP (fun _ hk => hk.elim) ?aF ?aO ?aB ?aS ?aL ?_; (case aP => exact rfl); (case aB => exact (by repeat (first | (with_reducible first | exact HB.out | apply below_alloc | apply pw_below_drewN | apply below_drew1) | exact HB.out))); (case aF => exact (fun k_ hk => Kd.fresh' (Kd.R_lt (by (with_reducible repeat (first | apply Kd.R_alloc | apply Kd.R_drewN | apply Kd.R_drew)); exact HO_3.out)) k_ hk)); (case aO => exact (by (with_reducible repeat (first | apply Kd.R_alloc | apply Kd.R_drewN | apply Kd.R_drew)); exact HO268.out)); (case aS => exact (below_size (by repeat (first | (with_reducible first | exact HB.out | apply below_alloc | apply pw_below_drewN | apply below_drew1) | exact HB.out)))); (case aL => have := LMc11.out; omega); intro v270 w15 ho hb hg hat; rw [← Ny269.out] at ho; have n0_ := Aside0.mk (Kd.R_after (ok := (fun _ => True)) (by (with_reducible repeat (first | apply Kd.R_alloc | apply Kd.R_drewN | apply Kd.R_drew)); exact HO_3.out) hg hat); have n1_ := Aside0.mk (hb); have n2_ := Aside0.mk (ho); clear HO_3; clear HB; clear HO268; have HO_3 := n0_; have HB := n1_; have HO271 := n2_; clear n0_ n1_ n2_; clear ho hb hg hat))
              go_ret
              exact ⟨_, by first | rfl | (simp [errW_none, errW_some] <;> rfl) | (simp [*, errW_none, errW_some] <;> rfl), by (with_reducible repeat (first | apply Kd.R_alloc | apply Kd.R_drewN | apply Kd.R_drew)); exact Kd.R_mono HO271.out (fun _ hk => trivial), by repeat (first | (with_reducible first | exact HB.out | apply below_alloc | apply pw_below_drewN | apply below_drew1) | exact HB.out)⟩
          · rw [if_neg c11] at H
            exact absurd H (by simp)
        · rw [if_neg c10] at H
          exact absurd H (by simp)

end Go.Proofs.YtndpbbgniflckaaDoor.PBa
