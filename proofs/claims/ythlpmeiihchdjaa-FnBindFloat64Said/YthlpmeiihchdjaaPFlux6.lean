/- Printed by a program of this session (a turned copy of the printer of the kit): contracts of functions of the translation, each with the Lean function that it computes. Conditions: as each theorem states them. -/
import Derived.Test.YthlpmeiihchdjaaPFlux0
import Derived.Test.YthlpmeiihchdjaaPFlux5
namespace Go.Proofs.Ythlpmeiihchdjaa.PFlu
open Go.RowKit Go.Proofs.YthlpmeiihchdjaaW.PrintWords Go.Proofs.YthlpmeiihchdjaaW.PrintLast Go.Proofs.YthlpmeiihchdjaaW.PrintMore
attribute [local go_sem] max2_int min2_int max_two min_two max_three min_three max_four min_four   -- for this text's walks alone
set_option linter.unusedVariables false
set_option linter.unusedSimpArgs false


mutual
def spec_DocElem.f : Nat → ByteArray → Int → ByteArray → ByteArray → Int → Int → Int → List Int → List (S98) → Option (List Int)
  | 0, _, _, _, _, _, _, _, _, _ => none
  | k + 1, a0_0, a0_1, a0_2, a0_3, a0_4, a0_5, a0_6, l0_7, l0_8 => (spec_DocHead.f a0_1 a0_0).bind fun t297 => ((spec_DocValue.f k a0_1 a0_2 a0_3 a0_4 a0_5 a0_6 l0_7 l0_8).bind fun t300 => (if t297.length + t300.length < 140737488355328 then (some (t297 ++ t300)) else (none)))
def spec_DocBytes.l0 : Nat → List (S98) → List Int → Int → Option (List Int)
  | 0, _, _, _ => none
  | k + 1, x0, x3, x4 => if x4 < (x0.length : Int) then (if 0 ≤ x4 then ((spec_DocElem.f k ((rd_T98 x0 x4).f0) ((rd_T98 x0 x4).f1.f0) ((rd_T98 x0 x4).f1.f1) ((rd_T98 x0 x4).f1.f2) ((rd_T98 x0 x4).f1.f3) ((rd_T98 x0 x4).f1.f4) ((rd_T98 x0 x4).f1.f5) ((rd_T98 x0 x4).f1.f6) ((rd_T98 x0 x4).f1.f7)).bind fun t307 => (if x3.length + t307.length < 140737488355328 then (spec_DocBytes.l0 k x0 (x3 ++ t307) (wrap64 (x4 + 1))) else (none))) else (none)) else ((spec_DocInt32.f ([] : List Int) (wrap64 ((x3.length : Int) + 5))).bind fun t313 => (if t313.length + x3.length < 140737488355328 then ((some (t313 ++ x3 : List Int)).bind fun y316 => (if y316.length < 140737488355328 then (some (y316 ++ [0])) else (none))) else (none)))
def spec_DocBytes.f : Nat → List (S98) → Option (List Int)
  | 0, _ => none
  | k + 1, l0 => spec_DocBytes.l0 k l0 ([] : List Int) 0
def spec_DocValue.j0 : Nat → List Int → Int → Bool → Int → ByteArray → ByteArray → Int → Int → Int → List Int → List (S98) → Option (List Int)
  | 0, _, _, _, _, _, _, _, _, _, _, _ => none
  | k + 1, x3, x8, x9, x323000, x323001, x323002, x323003, x323004, x323005, x323006, x323007 => if x9 = true then ((spec_DocInt64.f k x3 x323004).bind fun t323 => (some t323)) else (if x8 = 2 then (spec_DocValue.j1 k x3 x8 (x8 == 2) x323000 x323001 x323002 x323003 x323004 x323005 x323006 x323007) else (if x8 = 13 then (spec_DocValue.j1 k x3 x8 (x8 == 13) x323000 x323001 x323002 x323003 x323004 x323005 x323006 x323007) else (spec_DocValue.j1 k x3 x8 (x8 == 14) x323000 x323001 x323002 x323003 x323004 x323005 x323006 x323007)))
def spec_DocValue.j1 : Nat → List Int → Int → Bool → Int → ByteArray → ByteArray → Int → Int → Int → List Int → List (S98) → Option (List Int)
  | 0, _, _, _, _, _, _, _, _, _, _, _ => none
  | k + 1, x3, x8, x16, x323000, x323001, x323002, x323003, x323004, x323005, x323006, x323007 => if x16 = true then ((spec_docText.f x3 x323001).bind fun t326 => (some t326)) else (if x8 = 3 then (spec_DocValue.j2 k x3 x8 (x8 == 3) x323000 x323001 x323002 x323003 x323004 x323005 x323006 x323007) else (spec_DocValue.j2 k x3 x8 (x8 == 4) x323000 x323001 x323002 x323003 x323004 x323005 x323006 x323007))
def spec_DocValue.j2 : Nat → List Int → Int → Bool → Int → ByteArray → ByteArray → Int → Int → Int → List Int → List (S98) → Option (List Int)
  | 0, _, _, _, _, _, _, _, _, _, _, _ => none
  | k + 1, x3, x8, x24, x323000, x323001, x323002, x323003, x323004, x323005, x323006, x323007 => if x24 = true then ((spec_DocBytes.f k x323007).bind fun t329 => (some t329)) else (if x8 = 5 then (if x323003 = 2 then ((spec_DocInt32.f x3 (wrap64 ((x323006.length : Int) + 4))).bind fun t332 => (if t332.length < 140737488355328 then ((spec_DocInt32.f (t332 ++ [2]) (x323006.length : Int)).bind fun t338 => (if t338.length + x323006.length < 140737488355328 then (some (t338 ++ x323006)) else (none))) else (none))) else ((spec_DocInt32.f x3 (x323006.length : Int)).bind fun t344 => (if t344.length < 140737488355328 then ((some (t344 ++ [(x323003) % 256] : List Int)).bind fun y347 => (if y347.length + x323006.length < 140737488355328 then (some (y347 ++ x323006)) else (none))) else (none)))) else (if x8 = 7 then (if x3.length + x323006.length < 140737488355328 then (some (x3 ++ x323006)) else (none)) else (if x8 = 8 then (if x3.length < 140737488355328 then (some (x3 ++ [(x323003) % 256])) else (none)) else (if x8 = 9 then (spec_DocValue.j3 k x3 x8 (x8 == 9) x323000 x323001 x323002 x323003 x323004 x323005 x323006 x323007) else (spec_DocValue.j3 k x3 x8 (x8 == 18) x323000 x323001 x323002 x323003 x323004 x323005 x323006 x323007)))))
def spec_DocValue.j3 : Nat → List Int → Int → Bool → Int → ByteArray → ByteArray → Int → Int → Int → List Int → List (S98) → Option (List Int)
  | 0, _, _, _, _, _, _, _, _, _, _, _ => none
  | k + 1, x3, x8, x75, x323000, x323001, x323002, x323003, x323004, x323005, x323006, x323007 => if x75 = true then ((spec_DocInt64.f k x3 (IntKind.u64.wrap (x323003))).bind fun t359 => (some t359)) else (if x8 = 16 then ((spec_DocInt32.f x3 x323003).bind fun t362 => (some t362)) else (if x8 = 11 then (if x3.length + x323001.size < 140737488355328 then ((some (x3 ++ bytesOf x323001 : List Int)).bind fun y365 => (if y365.length < 140737488355328 then ((some (y365 ++ [0] : List Int)).bind fun y368 => (if y368.length + x323002.size < 140737488355328 then ((some (y368 ++ bytesOf x323002 : List Int)).bind fun y371 => (if y371.length < 140737488355328 then (some (y371 ++ [0])) else (none))) else (none))) else (none))) else (none)) else (if x8 = 12 then ((spec_docText.f x3 x323001).bind fun t377 => (if t377.length + x323006.length < 140737488355328 then (some (t377 ++ x323006)) else (none))) else (if x8 = 15 then ((spec_docText.f ([] : List Int) x323001).bind fun t383 => ((spec_DocBytes.f k x323007).bind fun t386 => ((spec_DocInt32.f x3 (wrap64 ((wrap64 (4 + (t383.length : Int))) + (t386.length : Int)))).bind fun t389 => (if t389.length + t383.length < 140737488355328 then ((some (t389 ++ t383 : List Int)).bind fun y392 => (if y392.length + t386.length < 140737488355328 then (some (y392 ++ t386)) else (none))) else (none))))) else (if x8 = 19 then ((spec_DocInt64.f k x3 x323004).bind fun t398 => ((spec_DocInt64.f k t398 x323005).bind fun t401 => (some t401))) else (some x3))))))
def spec_DocValue.f : Nat → Int → ByteArray → ByteArray → Int → Int → Int → List Int → List (S98) → Option (List Int)
  | 0, _, _, _, _, _, _, _, _ => none
  | k + 1, a0_0, a0_1, a0_2, a0_3, a0_4, a0_5, l0_6, l0_7 => if a0_0 = 1 then (spec_DocValue.j0 k ([] : List Int) a0_0 (a0_0 == 1) a0_0 a0_1 a0_2 a0_3 a0_4 a0_5 l0_6 l0_7) else (spec_DocValue.j0 k ([] : List Int) a0_0 (a0_0 == 17) a0_0 a0_1 a0_2 a0_3 a0_4 a0_5 l0_6 l0_7)
end
theorem Grp_spec_DocElem.mono_l : ∀ k, (∀ y0 y1 y2 y3 y4 y5 y6 y7 y8, LeO (spec_DocElem.f k y0 y1 y2 y3 y4 y5 y6 y7 y8) (spec_DocElem.f (k + 1) y0 y1 y2 y3 y4 y5 y6 y7 y8)) ∧ (∀ y0, LeO (spec_DocBytes.f k y0) (spec_DocBytes.f (k + 1) y0)) ∧ (∀ y0 y1 y2 y3 y4 y5 y6 y7, LeO (spec_DocValue.f k y0 y1 y2 y3 y4 y5 y6 y7) (spec_DocValue.f (k + 1) y0 y1 y2 y3 y4 y5 y6 y7)) ∧ (∀ y0 y1 y2, LeO (spec_DocBytes.l0 k y0 y1 y2) (spec_DocBytes.l0 (k + 1) y0 y1 y2)) ∧ (∀ y0 y1 y2 y3 y4 y5 y6 y7 y8 y9 y10, LeO (spec_DocValue.j0 k y0 y1 y2 y3 y4 y5 y6 y7 y8 y9 y10) (spec_DocValue.j0 (k + 1) y0 y1 y2 y3 y4 y5 y6 y7 y8 y9 y10)) ∧ (∀ y0 y1 y2 y3 y4 y5 y6 y7 y8 y9 y10, LeO (spec_DocValue.j1 k y0 y1 y2 y3 y4 y5 y6 y7 y8 y9 y10) (spec_DocValue.j1 (k + 1) y0 y1 y2 y3 y4 y5 y6 y7 y8 y9 y10)) ∧ (∀ y0 y1 y2 y3 y4 y5 y6 y7 y8 y9 y10, LeO (spec_DocValue.j2 k y0 y1 y2 y3 y4 y5 y6 y7 y8 y9 y10) (spec_DocValue.j2 (k + 1) y0 y1 y2 y3 y4 y5 y6 y7 y8 y9 y10)) ∧ (∀ y0 y1 y2 y3 y4 y5 y6 y7 y8 y9 y10, LeO (spec_DocValue.j3 k y0 y1 y2 y3 y4 y5 y6 y7 y8 y9 y10) (spec_DocValue.j3 (k + 1) y0 y1 y2 y3 y4 y5 y6 y7 y8 y9 y10))
  | 0 => ⟨fun _ _ _ _ _ _ _ _ _ r h => by simp [spec_DocElem.f] at h, fun _ r h => by simp [spec_DocBytes.f] at h, fun _ _ _ _ _ _ _ _ r h => by simp [spec_DocValue.f] at h, fun _ _ _ r h => by simp [spec_DocBytes.l0] at h, fun _ _ _ _ _ _ _ _ _ _ _ r h => by simp [spec_DocValue.j0] at h, fun _ _ _ _ _ _ _ _ _ _ _ r h => by simp [spec_DocValue.j1] at h, fun _ _ _ _ _ _ _ _ _ _ _ r h => by simp [spec_DocValue.j2] at h, fun _ _ _ _ _ _ _ _ _ _ _ r h => by simp [spec_DocValue.j3] at h⟩
  | k + 1 => by
    obtain ⟨ih0, ih1, ih2, ih3, ih4, ih5, ih6, ih7⟩ := Grp_spec_DocElem.mono_l k
    refine ⟨?_, ?_, ?_, ?_, ?_, ?_, ?_, ?_⟩
    · intro y0 y1 y2 y3 y4 y5 y6 y7 y8
      unfold spec_DocElem.f
      repeat' first
      | (with_reducible exact ih0 _ _ _ _ _ _ _ _ _)
      | (with_reducible exact ih1 _)
      | (with_reducible exact ih2 _ _ _ _ _ _ _ _)
      | (with_reducible exact ih3 _ _ _)
      | (with_reducible exact ih4 _ _ _ _ _ _ _ _ _ _ _)
      | (with_reducible exact ih5 _ _ _ _ _ _ _ _ _ _ _)
      | (with_reducible exact ih6 _ _ _ _ _ _ _ _ _ _ _)
      | (with_reducible exact ih7 _ _ _ _ _ _ _ _ _ _ _)
      | (with_reducible exact spec_DocInt64.mono _ _ _)
      | (with_reducible exact LeO.refl _)
      | (with_reducible exact LeO.none _)
      | (with_reducible refine LeO.ite ?_ ?_)
      | (with_reducible refine LeO.bind ?_ (fun _ => ?_))
      | exact ih0 _ _ _ _ _ _ _ _ _
      | exact ih1 _
      | exact ih2 _ _ _ _ _ _ _ _
      | exact ih3 _ _ _
      | exact ih4 _ _ _ _ _ _ _ _ _ _ _
      | exact ih5 _ _ _ _ _ _ _ _ _ _ _
      | exact ih6 _ _ _ _ _ _ _ _ _ _ _
      | exact ih7 _ _ _ _ _ _ _ _ _ _ _
      | exact spec_DocInt64.mono _ _ _
      | exact LeO.none _
      | refine LeO.ite ?_ ?_
      | refine LeO.bind ?_ (fun _ => ?_)
    · intro y0
      unfold spec_DocBytes.f
      repeat' first
      | (with_reducible exact ih0 _ _ _ _ _ _ _ _ _)
      | (with_reducible exact ih1 _)
      | (with_reducible exact ih2 _ _ _ _ _ _ _ _)
      | (with_reducible exact ih3 _ _ _)
      | (with_reducible exact ih4 _ _ _ _ _ _ _ _ _ _ _)
      | (with_reducible exact ih5 _ _ _ _ _ _ _ _ _ _ _)
      | (with_reducible exact ih6 _ _ _ _ _ _ _ _ _ _ _)
      | (with_reducible exact ih7 _ _ _ _ _ _ _ _ _ _ _)
      | (with_reducible exact spec_DocInt64.mono _ _ _)
      | (with_reducible exact LeO.refl _)
      | (with_reducible exact LeO.none _)
      | (with_reducible refine LeO.ite ?_ ?_)
      | (with_reducible refine LeO.bind ?_ (fun _ => ?_))
      | exact ih0 _ _ _ _ _ _ _ _ _
      | exact ih1 _
      | exact ih2 _ _ _ _ _ _ _ _
      | exact ih3 _ _ _
      | exact ih4 _ _ _ _ _ _ _ _ _ _ _
      | exact ih5 _ _ _ _ _ _ _ _ _ _ _
      | exact ih6 _ _ _ _ _ _ _ _ _ _ _
      | exact ih7 _ _ _ _ _ _ _ _ _ _ _
      | exact spec_DocInt64.mono _ _ _
      | exact LeO.none _
      | refine LeO.ite ?_ ?_
      | refine LeO.bind ?_ (fun _ => ?_)
    · intro y0 y1 y2 y3 y4 y5 y6 y7
      unfold spec_DocValue.f
      repeat' first
      | (with_reducible exact ih0 _ _ _ _ _ _ _ _ _)
      | (with_reducible exact ih1 _)
      | (with_reducible exact ih2 _ _ _ _ _ _ _ _)
      | (with_reducible exact ih3 _ _ _)
      | (with_reducible exact ih4 _ _ _ _ _ _ _ _ _ _ _)
      | (with_reducible exact ih5 _ _ _ _ _ _ _ _ _ _ _)
      | (with_reducible exact ih6 _ _ _ _ _ _ _ _ _ _ _)
      | (with_reducible exact ih7 _ _ _ _ _ _ _ _ _ _ _)
      | (with_reducible exact spec_DocInt64.mono _ _ _)
      | (with_reducible exact LeO.refl _)
      | (with_reducible exact LeO.none _)
      | (with_reducible refine LeO.ite ?_ ?_)
      | (with_reducible refine LeO.bind ?_ (fun _ => ?_))
      | exact ih0 _ _ _ _ _ _ _ _ _
      | exact ih1 _
      | exact ih2 _ _ _ _ _ _ _ _
      | exact ih3 _ _ _
      | exact ih4 _ _ _ _ _ _ _ _ _ _ _
      | exact ih5 _ _ _ _ _ _ _ _ _ _ _
      | exact ih6 _ _ _ _ _ _ _ _ _ _ _
      | exact ih7 _ _ _ _ _ _ _ _ _ _ _
      | exact spec_DocInt64.mono _ _ _
      | exact LeO.none _
      | refine LeO.ite ?_ ?_
      | refine LeO.bind ?_ (fun _ => ?_)
    · intro y0 y1 y2
      unfold spec_DocBytes.l0
      repeat' first
      | (with_reducible exact ih0 _ _ _ _ _ _ _ _ _)
      | (with_reducible exact ih1 _)
      | (with_reducible exact ih2 _ _ _ _ _ _ _ _)
      | (with_reducible exact ih3 _ _ _)
      | (with_reducible exact ih4 _ _ _ _ _ _ _ _ _ _ _)
      | (with_reducible exact ih5 _ _ _ _ _ _ _ _ _ _ _)
      | (with_reducible exact ih6 _ _ _ _ _ _ _ _ _ _ _)
      | (with_reducible exact ih7 _ _ _ _ _ _ _ _ _ _ _)
      | (with_reducible exact spec_DocInt64.mono _ _ _)
      | (with_reducible exact LeO.refl _)
      | (with_reducible exact LeO.none _)
      | (with_reducible refine LeO.ite ?_ ?_)
      | (with_reducible refine LeO.bind ?_ (fun _ => ?_))
      | exact ih0 _ _ _ _ _ _ _ _ _
      | exact ih1 _
      | exact ih2 _ _ _ _ _ _ _ _
      | exact ih3 _ _ _
      | exact ih4 _ _ _ _ _ _ _ _ _ _ _
      | exact ih5 _ _ _ _ _ _ _ _ _ _ _
      | exact ih6 _ _ _ _ _ _ _ _ _ _ _
      | exact ih7 _ _ _ _ _ _ _ _ _ _ _
      | exact spec_DocInt64.mono _ _ _
      | exact LeO.none _
      | refine LeO.ite ?_ ?_
      | refine LeO.bind ?_ (fun _ => ?_)
    · intro y0 y1 y2 y3 y4 y5 y6 y7 y8 y9 y10
      unfold spec_DocValue.j0
      repeat' first
      | (with_reducible exact ih0 _ _ _ _ _ _ _ _ _)
      | (with_reducible exact ih1 _)
      | (with_reducible exact ih2 _ _ _ _ _ _ _ _)
      | (with_reducible exact ih3 _ _ _)
      | (with_reducible exact ih4 _ _ _ _ _ _ _ _ _ _ _)
      | (with_reducible exact ih5 _ _ _ _ _ _ _ _ _ _ _)
      | (with_reducible exact ih6 _ _ _ _ _ _ _ _ _ _ _)
      | (with_reducible exact ih7 _ _ _ _ _ _ _ _ _ _ _)
      | (with_reducible exact spec_DocInt64.mono _ _ _)
      | (with_reducible exact LeO.refl _)
      | (with_reducible exact LeO.none _)
      | (with_reducible refine LeO.ite ?_ ?_)
      | (with_reducible refine LeO.bind ?_ (fun _ => ?_))
      | exact ih0 _ _ _ _ _ _ _ _ _
      | exact ih1 _
      | exact ih2 _ _ _ _ _ _ _ _
      | exact ih3 _ _ _
      | exact ih4 _ _ _ _ _ _ _ _ _ _ _
      | exact ih5 _ _ _ _ _ _ _ _ _ _ _
      | exact ih6 _ _ _ _ _ _ _ _ _ _ _
      | exact ih7 _ _ _ _ _ _ _ _ _ _ _
      | exact spec_DocInt64.mono _ _ _
      | exact LeO.none _
      | refine LeO.ite ?_ ?_
      | refine LeO.bind ?_ (fun _ => ?_)
    · intro y0 y1 y2 y3 y4 y5 y6 y7 y8 y9 y10
      unfold spec_DocValue.j1
      repeat' first
      | (with_reducible exact ih0 _ _ _ _ _ _ _ _ _)
      | (with_reducible exact ih1 _)
      | (with_reducible exact ih2 _ _ _ _ _ _ _ _)
      | (with_reducible exact ih3 _ _ _)
      | (with_reducible exact ih4 _ _ _ _ _ _ _ _ _ _ _)
      | (with_reducible exact ih5 _ _ _ _ _ _ _ _ _ _ _)
      | (with_reducible exact ih6 _ _ _ _ _ _ _ _ _ _ _)
      | (with_reducible exact ih7 _ _ _ _ _ _ _ _ _ _ _)
      | (with_reducible exact spec_DocInt64.mono _ _ _)
      | (with_reducible exact LeO.refl _)
      | (with_reducible exact LeO.none _)
      | (with_reducible refine LeO.ite ?_ ?_)
      | (with_reducible refine LeO.bind ?_ (fun _ => ?_))
      | exact ih0 _ _ _ _ _ _ _ _ _
      | exact ih1 _
      | exact ih2 _ _ _ _ _ _ _ _
      | exact ih3 _ _ _
      | exact ih4 _ _ _ _ _ _ _ _ _ _ _
      | exact ih5 _ _ _ _ _ _ _ _ _ _ _
      | exact ih6 _ _ _ _ _ _ _ _ _ _ _
      | exact ih7 _ _ _ _ _ _ _ _ _ _ _
      | exact spec_DocInt64.mono _ _ _
      | exact LeO.none _
      | refine LeO.ite ?_ ?_
      | refine LeO.bind ?_ (fun _ => ?_)
    · intro y0 y1 y2 y3 y4 y5 y6 y7 y8 y9 y10
      unfold spec_DocValue.j2
      repeat' first
      | (with_reducible exact ih0 _ _ _ _ _ _ _ _ _)
      | (with_reducible exact ih1 _)
      | (with_reducible exact ih2 _ _ _ _ _ _ _ _)
      | (with_reducible exact ih3 _ _ _)
      | (with_reducible exact ih4 _ _ _ _ _ _ _ _ _ _ _)
      | (with_reducible exact ih5 _ _ _ _ _ _ _ _ _ _ _)
      | (with_reducible exact ih6 _ _ _ _ _ _ _ _ _ _ _)
      | (with_reducible exact ih7 _ _ _ _ _ _ _ _ _ _ _)
      | (with_reducible exact spec_DocInt64.mono _ _ _)
      | (with_reducible exact LeO.refl _)
      | (with_reducible exact LeO.none _)
      | (with_reducible refine LeO.ite ?_ ?_)
      | (with_reducible refine LeO.bind ?_ (fun _ => ?_))
      | exact ih0 _ _ _ _ _ _ _ _ _
      | exact ih1 _
      | exact ih2 _ _ _ _ _ _ _ _
      | exact ih3 _ _ _
      | exact ih4 _ _ _ _ _ _ _ _ _ _ _
      | exact ih5 _ _ _ _ _ _ _ _ _ _ _
      | exact ih6 _ _ _ _ _ _ _ _ _ _ _
      | exact ih7 _ _ _ _ _ _ _ _ _ _ _
      | exact spec_DocInt64.mono _ _ _
      | exact LeO.none _
      | refine LeO.ite ?_ ?_
      | refine LeO.bind ?_ (fun _ => ?_)
    · intro y0 y1 y2 y3 y4 y5 y6 y7 y8 y9 y10
      unfold spec_DocValue.j3
      repeat' first
      | (with_reducible exact ih0 _ _ _ _ _ _ _ _ _)
      | (with_reducible exact ih1 _)
      | (with_reducible exact ih2 _ _ _ _ _ _ _ _)
      | (with_reducible exact ih3 _ _ _)
      | (with_reducible exact ih4 _ _ _ _ _ _ _ _ _ _ _)
      | (with_reducible exact ih5 _ _ _ _ _ _ _ _ _ _ _)
      | (with_reducible exact ih6 _ _ _ _ _ _ _ _ _ _ _)
      | (with_reducible exact ih7 _ _ _ _ _ _ _ _ _ _ _)
      | (with_reducible exact spec_DocInt64.mono _ _ _)
      | (with_reducible exact LeO.refl _)
      | (with_reducible exact LeO.none _)
      | (with_reducible refine LeO.ite ?_ ?_)
      | (with_reducible refine LeO.bind ?_ (fun _ => ?_))
      | exact ih0 _ _ _ _ _ _ _ _ _
      | exact ih1 _
      | exact ih2 _ _ _ _ _ _ _ _
      | exact ih3 _ _ _
      | exact ih4 _ _ _ _ _ _ _ _ _ _ _
      | exact ih5 _ _ _ _ _ _ _ _ _ _ _
      | exact ih6 _ _ _ _ _ _ _ _ _ _ _
      | exact ih7 _ _ _ _ _ _ _ _ _ _ _
      | exact spec_DocInt64.mono _ _ _
      | exact LeO.none _
      | refine LeO.ite ?_ ?_
      | refine LeO.bind ?_ (fun _ => ?_)
theorem spec_DocElem.mono : ∀ a0 a1 a2 a3 a4 a5 a6 a7 a8 k, LeO (spec_DocElem.f k a0 a1 a2 a3 a4 a5 a6 a7 a8) (spec_DocElem.f (k + 1) a0 a1 a2 a3 a4 a5 a6 a7 a8) := by
  intro a0 a1 a2 a3 a4 a5 a6 a7 a8 k
  exact (Grp_spec_DocElem.mono_l k).1 a0 a1 a2 a3 a4 a5 a6 a7 a8
theorem spec_DocBytes.mono : ∀ a0 k, LeO (spec_DocBytes.f k a0) (spec_DocBytes.f (k + 1) a0) := by
  intro a0 k
  exact (Grp_spec_DocElem.mono_l k).2.1 a0
theorem spec_DocValue.mono : ∀ a0 a1 a2 a3 a4 a5 a6 a7 k, LeO (spec_DocValue.f k a0 a1 a2 a3 a4 a5 a6 a7) (spec_DocValue.f (k + 1) a0 a1 a2 a3 a4 a5 a6 a7) := by
  intro a0 a1 a2 a3 a4 a5 a6 a7 k
  exact (Grp_spec_DocElem.mono_l k).2.2.1 a0 a1 a2 a3 a4 a5 a6 a7
def spec_DocElem.Spec (k : Nat) : Prop := ∀ (a0_0 : ByteArray) (a0_1 : Int) (a0_2 : ByteArray) (a0_3 : ByteArray) (a0_4 : Int) (a0_5 : Int) (a0_6 : Int) (A0_7 : Option Addr) (c0_7 : Nat) (l0_7 : List Int) (A0_8 : Option Addr) (c0_8 : Nat) (l0_8 : List (S98)) (r : List Int) (w : World) (hr0_7 : Kd.C (Kd.int .u8) w A0_7 l0_7.length l0_7) (hc0_7 : l0_7.length ≤ c0_7) (hr0_8 : Kd.C k98 w A0_8 l0_8.length l0_8) (hc0_8 : l0_8.length ≤ c0_8) (h : spec_DocElem.f k a0_0 a0_1 a0_2 a0_3 a0_4 a0_5 a0_6 l0_7 l0_8 = some r),
    Calls Try.prog 81 #[.agg #[.string a0_0, .int .i64 a0_1, .string a0_2, .string a0_3, .int .i64 a0_4, .int .u64 a0_5, .int .u64 a0_6, .slice A0_7 l0_7.length c0_7, .slice A0_8 l0_8.length c0_8]] w fun e w' => ∃ v0_ : Value, e = .returned (v0_) ∧ Kd.R (Kd.int .u8) 5 w' w.heap.size (fun _ => True) v0_ r ∧ Below w.heap.size w w'
def spec_DocBytes.Spec (k : Nat) : Prop := ∀ (A0 : Option Addr) (c0 : Nat) (l0 : List (S98)) (r : List Int) (w : World) (hr0 : Kd.C k98 w A0 l0.length l0) (hc0 : l0.length ≤ c0) (h : spec_DocBytes.f k l0 = some r),
    Calls Try.prog 70 #[.slice A0 l0.length c0] w fun e w' => ∃ v0_ : Value, e = .returned (v0_) ∧ Kd.R (Kd.int .u8) 5 w' w.heap.size (fun _ => True) v0_ r ∧ Below w.heap.size w w'
def spec_DocValue.Spec (k : Nat) : Prop := ∀ (a0_0 : Int) (a0_1 : ByteArray) (a0_2 : ByteArray) (a0_3 : Int) (a0_4 : Int) (a0_5 : Int) (A0_6 : Option Addr) (c0_6 : Nat) (l0_6 : List Int) (A0_7 : Option Addr) (c0_7 : Nat) (l0_7 : List (S98)) (r : List Int) (w : World) (hr0_6 : Kd.C (Kd.int .u8) w A0_6 l0_6.length l0_6) (hc0_6 : l0_6.length ≤ c0_6) (hr0_7 : Kd.C k98 w A0_7 l0_7.length l0_7) (hc0_7 : l0_7.length ≤ c0_7) (h : spec_DocValue.f k a0_0 a0_1 a0_2 a0_3 a0_4 a0_5 l0_6 l0_7 = some r),
    Calls Try.prog 57 #[.agg #[.int .i64 a0_0, .string a0_1, .string a0_2, .int .i64 a0_3, .int .u64 a0_4, .int .u64 a0_5, .slice A0_6 l0_6.length c0_6, .slice A0_7 l0_7.length c0_7]] w fun e w' => ∃ v0_ : Value, e = .returned (v0_) ∧ Kd.R (Kd.int .u8) 5 w' w.heap.size (fun _ => True) v0_ r ∧ Below w.heap.size w w'
def Grp_spec_DocElem.Spec (k : Nat) : Prop := spec_DocElem.Spec k ∧ spec_DocBytes.Spec k ∧ spec_DocValue.Spec k
theorem Grp_spec_DocElem.get0 {k : Nat} (H : Grp_spec_DocElem.Spec k) : ∀ (a0_0 : ByteArray) (a0_1 : Int) (a0_2 : ByteArray) (a0_3 : ByteArray) (a0_4 : Int) (a0_5 : Int) (a0_6 : Int) (A0_7 : Option Addr) (c0_7 : Nat) (l0_7 : List Int) (A0_8 : Option Addr) (c0_8 : Nat) (l0_8 : List (S98)) (r : List Int) (w : World) (hr0_7 : Kd.C (Kd.int .u8) w A0_7 l0_7.length l0_7) (hc0_7 : l0_7.length ≤ c0_7) (hr0_8 : Kd.C k98 w A0_8 l0_8.length l0_8) (hc0_8 : l0_8.length ≤ c0_8) (h : spec_DocElem.f k a0_0 a0_1 a0_2 a0_3 a0_4 a0_5 a0_6 l0_7 l0_8 = some r),
    Calls Try.prog 81 #[.agg #[.string a0_0, .int .i64 a0_1, .string a0_2, .string a0_3, .int .i64 a0_4, .int .u64 a0_5, .int .u64 a0_6, .slice A0_7 l0_7.length c0_7, .slice A0_8 l0_8.length c0_8]] w fun e w' => ∃ v0_ : Value, e = .returned (v0_) ∧ Kd.R (Kd.int .u8) 5 w' w.heap.size (fun _ => True) v0_ r ∧ Below w.heap.size w w' := H.1
theorem Grp_spec_DocElem.get1 {k : Nat} (H : Grp_spec_DocElem.Spec k) : ∀ (A0 : Option Addr) (c0 : Nat) (l0 : List (S98)) (r : List Int) (w : World) (hr0 : Kd.C k98 w A0 l0.length l0) (hc0 : l0.length ≤ c0) (h : spec_DocBytes.f k l0 = some r),
    Calls Try.prog 70 #[.slice A0 l0.length c0] w fun e w' => ∃ v0_ : Value, e = .returned (v0_) ∧ Kd.R (Kd.int .u8) 5 w' w.heap.size (fun _ => True) v0_ r ∧ Below w.heap.size w w' := H.2.1
theorem Grp_spec_DocElem.get2 {k : Nat} (H : Grp_spec_DocElem.Spec k) : ∀ (a0_0 : Int) (a0_1 : ByteArray) (a0_2 : ByteArray) (a0_3 : Int) (a0_4 : Int) (a0_5 : Int) (A0_6 : Option Addr) (c0_6 : Nat) (l0_6 : List Int) (A0_7 : Option Addr) (c0_7 : Nat) (l0_7 : List (S98)) (r : List Int) (w : World) (hr0_6 : Kd.C (Kd.int .u8) w A0_6 l0_6.length l0_6) (hc0_6 : l0_6.length ≤ c0_6) (hr0_7 : Kd.C k98 w A0_7 l0_7.length l0_7) (hc0_7 : l0_7.length ≤ c0_7) (h : spec_DocValue.f k a0_0 a0_1 a0_2 a0_3 a0_4 a0_5 l0_6 l0_7 = some r),
    Calls Try.prog 57 #[.agg #[.int .i64 a0_0, .string a0_1, .string a0_2, .int .i64 a0_3, .int .u64 a0_4, .int .u64 a0_5, .slice A0_6 l0_6.length c0_6, .slice A0_7 l0_7.length c0_7]] w fun e w' => ∃ v0_ : Value, e = .returned (v0_) ∧ Kd.R (Kd.int .u8) 5 w' w.heap.size (fun _ => True) v0_ r ∧ Below w.heap.size w w' := H.2.2

/-! ### spec_DocElem: function 81 -/
def spec_DocElem.T1 : Bool × List (List Nat × List Nat) := (true, [([], []), ([0], [0]), ([1], [1]), ([], []), ([3], [3]), ([2, 4], [2, 4]), ([], []), ([6], [6]), ([7, 5], [7]), ([5, 8, 8], [5, 8]), ([9, 9, 0, 1, 2, 3, 4, 5, 6, 7, 8, 9], [9])])
def spec_DocElem.B1 : List Nat := [0, 1, 3, 0, 8, 31, 0, 64, 255, 511, 1023]
theorem spec_DocElem.tab1 : rtab .any (opsOf Try.f81 1) = spec_DocElem.T1 := by kernel_rfl
theorem spec_DocElem.bits1 : waitsOk spec_DocElem.T1.2 spec_DocElem.B1 = true := by kernel_rfl
set_option maxHeartbeats 8000000 in
set_option maxRecDepth 100000 in
theorem spec_DocElem.step (k : Nat) (ih : ∀ j, j < k → Grp_spec_DocElem.Spec j) : ∀ (a0_0 : ByteArray) (a0_1 : Int) (a0_2 : ByteArray) (a0_3 : ByteArray) (a0_4 : Int) (a0_5 : Int) (a0_6 : Int) (A0_7 : Option Addr) (c0_7 : Nat) (l0_7 : List Int) (A0_8 : Option Addr) (c0_8 : Nat) (l0_8 : List (S98)) (r : List Int) (w : World) (hr0_7 : Kd.C (Kd.int .u8) w A0_7 l0_7.length l0_7) (hc0_7 : l0_7.length ≤ c0_7) (hr0_8 : Kd.C k98 w A0_8 l0_8.length l0_8) (hc0_8 : l0_8.length ≤ c0_8) (h : spec_DocElem.f k a0_0 a0_1 a0_2 a0_3 a0_4 a0_5 a0_6 l0_7 l0_8 = some r),
    Calls Try.prog 81 #[.agg #[.string a0_0, .int .i64 a0_1, .string a0_2, .string a0_3, .int .i64 a0_4, .int .u64 a0_5, .int .u64 a0_6, .slice A0_7 l0_7.length c0_7, .slice A0_8 l0_8.length c0_8]] w fun e w' => ∃ v0_ : Value, e = .returned (v0_) ∧ Kd.R (Kd.int .u8) 5 w' w.heap.size (fun _ => True) v0_ r ∧ Below w.heap.size w w' := by
  intro a0_0 a0_1 a0_2 a0_3 a0_4 a0_5 a0_6 A0_7 c0_7 l0_7 A0_8 c0_8 l0_8 r w hr0_7 hc0_7 hr0_8 hc0_8 h
  cases k with
  | zero => exact absurd h (by simp [spec_DocElem.f])
  | succ k =>
  simp only [spec_DocElem.f] at h
  have hu98 := Try.underlying98
  have hu37 := Try.underlying37
  have HR0_7 := Aside0.mk hr0_7
  have HC0_7 := Aside0.mk hc0_7
  clear hr0_7 hc0_7
  have HR0_8 := Aside0.mk hr0_8
  have HC0_8 := Aside0.mk hc0_8
  clear hr0_8 hc0_8
  have HB := Aside0.mk (Below.refl w.heap.size w)
  have H : ((spec_DocHead.f a0_1 a0_0).bind fun t297 => ((spec_DocValue.f k a0_1 a0_2 a0_3 a0_4 a0_5 a0_6 l0_7 l0_8).bind fun t300 => (if t297.length + t300.length < 140737488355328 then (some (t297 ++ t300)) else (none)))) = some r := h
  clear h
  replace H := Option.bind_eq_some_iff.mp H
  obtain ⟨t297, A20, H⟩ := H
  replace H : ((spec_DocValue.f k a0_1 a0_2 a0_3 a0_4 a0_5 a0_6 l0_7 l0_8).bind fun t300 => (if t297.length + t300.length < 140737488355328 then (some (t297 ++ t300)) else (none))) = some r := H
  have A2 := Aside0.mk A20
  clear A20
  replace H := Option.bind_eq_some_iff.mp H
  obtain ⟨t300, A30, H⟩ := H
  replace H : (if t297.length + t300.length < 140737488355328 then (some (t297 ++ t300)) else (none)) = some r := H
  have A3 := Aside0.mk A30
  clear A30
  by_cases c4 : t297.length + t300.length < 140737488355328
  · rw [if_pos c4] at H
    have LMc4 := Aside0.mk c4
    clear c4
    obtain ⟨y303, hy303⟩ : ∃ y_ : List Int, y_ = (t297 ++ t300) := ⟨_, rfl⟩
    replace H : (some y303) = some r := by first | (rw [hy303]; with_reducible exact H) | (have H2_ := (Option.bind_some _ _).symm.trans H; rw [hy303]; with_reducible exact H2_) | (have H2_ := (Option.bind_some _ _).symm.trans H; with_reducible exact H2_) | with_reducible exact H | (rw [hy303]; exact H) | exact H
    have Ny303 := Aside0.mk hy303
    clear hy303
    as_aux_lemma =>
      obtain rfl := Option.some.inj H
      go_enter Try.func81, Try.ntmps81
      try go_wp2_with (first | ((with_reducible refine gate_dst (N := 1) rfl ?_); refine box_event ?hg (N := 1) ?hd (cs := #[.string a0_0, .int .i64 a0_1, .string a0_2, .string a0_3, .int .i64 a0_4, .int .u64 a0_5, .int .u64 a0_6, .slice A0_7 l0_7.length c0_7, .slice A0_8 l0_8.length c0_8]) (t := 98) ?hr ?_; (case hd => rfl); (case hg => rfl); (case hr => first | (go_simp; done) | (go_simp; rfl)); intro gb296 hg w5 hbox hb; have n0_ := Aside0.mk (below_step (by repeat (first | (with_reducible first | exact HB.out | apply below_alloc | apply pw_below_drewN | apply below_drew1) | exact HB.out)) hb); have n1_ := Aside0.mk (hbox); have n2_ := Aside0.mk ((by rw [hg]; exact (below_size (by repeat (first | (with_reducible first | exact HB.out | apply below_alloc | apply pw_below_drewN | apply below_drew1) | exact HB.out))) : w.heap.size ≤ gb296)); have n3_ := Aside0.mk ((by rw [hg]; exact (below_size (by repeat (first | (with_reducible first | exact HB.out | apply below_alloc | apply pw_below_drewN | apply below_drew1) | exact HB.out))) : w.heap.size ≤ gb296)); clear HB; have HB := n0_; have BK296 := n1_; have GW296 := n2_; have GE296 := n3_; clear n0_ n1_ n2_ n3_; clear hb hbox hg))
      have n0_ := Aside0.mk (blk_drew BK296.out)
      have n1_ := Aside0.mk (below_drew1 HB.out)
      clear BK296
      clear HB
      have BK296 := n0_
      have HB := n1_
      clear n0_ n1_
      refine start_ (n := 11) (S := fun w' => w'.cell? ⟨gb296, 0, none⟩ = some (.string a0_0) ∧ w'.cell? ⟨gb296, 1, none⟩ = some (.int .i64 a0_1) ∧ w'.cell? ⟨gb296, 2, none⟩ = some (.string a0_2) ∧ w'.cell? ⟨gb296, 3, none⟩ = some (.string a0_3) ∧ w'.cell? ⟨gb296, 4, none⟩ = some (.int .i64 a0_4) ∧ w'.cell? ⟨gb296, 5, none⟩ = some (.int .u64 a0_5) ∧ w'.cell? ⟨gb296, 6, none⟩ = some (.int .u64 a0_6) ∧ w'.cell? ⟨gb296, 7, none⟩ = some (.slice A0_7 l0_7.length c0_7) ∧ w'.cell? ⟨gb296, 8, none⟩ = some (.slice A0_8 l0_8.length c0_8)) (ds := []) #[false, false, false, false, false, false, false, false, false, false, false] (by kernel_rfl) rfl rfl ⟨(blk_cell BK296.out 0).trans rfl, (blk_cell BK296.out 1).trans rfl, (blk_cell BK296.out 2).trans rfl, (blk_cell BK296.out 3).trans rfl, (blk_cell BK296.out 4).trans rfl, (blk_cell BK296.out 5).trans rfl, (blk_cell BK296.out 6).trans rfl, (blk_cell BK296.out 7).trans rfl, (blk_cell BK296.out 8).trans rfl⟩ (fun hHeld => ?_); refine with_tabW spec_DocElem.tab1 spec_DocElem.bits1 (fun HT_ HW_ => ?_)
      generalize w5.drew = w6 at BK296 HB hHeld ⊢
      refine pure_ (i := 0) (N := some 3) (v := ?_) (a' := ?_) #[true, false, false, false, false, false, false, false, false, false, false] rfl rfl (any_of HT_.out (by kernel_rfl)) (fun _ _ _ h => h) (Or.inl ⟨by rfl, ?_⟩) ?_ ?_
      rotate_left
      · intro w'
        go_simp
        with_reducible rfl
      rotate_left
      · simp only [Act.put, List.setIfInBounds_toArray, List.set_cons_zero, List.set_cons_succ, i64_w, i32_w]
        rfl
      refine pure_ (i := 1) (N := some 4) (v := ?_) (a' := ?_) #[true, true, false, false, false, false, false, false, false, false, false] rfl rfl (any_of HT_.out (by kernel_rfl)) (fun _ _ _ h => h) (Or.inl ⟨by rfl, ?_⟩) ?_ ?_
      rotate_left
      · intro w'
        go_simp
        with_reducible rfl
      rotate_left
      · simp only [Act.put, List.setIfInBounds_toArray, List.set_cons_zero, List.set_cons_succ, i64_w, i32_w]
        rfl
      refine pure_ (i := 3) (N := some 6) (v := ?_) (a' := ?_) #[true, true, false, true, false, false, false, false, false, false, false] rfl rfl (any_of HT_.out (by kernel_rfl)) (fun _ _ _ h => h) (Or.inl ⟨by rfl, ?_⟩) ?_ ?_
      rotate_left
      · intro w'
        go_simp
        with_reducible rfl
      rotate_left
      · simp only [Act.put, List.setIfInBounds_toArray, List.set_cons_zero, List.set_cons_succ, i64_w, i32_w]
        rfl
      refine pure_ (i := 6) (N := some 9) (v := ?_) (a' := ?_) #[true, true, false, true, false, false, true, false, false, false, false] rfl rfl (any_of HT_.out (by kernel_rfl)) (fun _ _ _ h => h) (Or.inl ⟨by rfl, ?_⟩) ?_ ?_
      rotate_left
      · intro w'
        go_simp
        with_reducible rfl
      rotate_left
      · simp only [Act.put, List.setIfInBounds_toArray, List.set_cons_zero, List.set_cons_succ, i64_w, i32_w]
        rfl
      refine take_ (i := 2) (N := some 5) (v := ?_) (a' := ?_) #[true, true, true, true, false, false, true, false, false, false, false] rfl rfl (take_ofW HT_.out HW_.out (by kernel_rfl)) (fun _ _ _ h => h) (Or.inl ⟨by rfl, ?_⟩) hHeld ?_ ?_
      rotate_left
      · rintro w' ⟨s0, s1, s2, s3, s4, s5, s6, s7, s8⟩
        go_simp
        with_reducible rfl
      rotate_left
      · simp only [Act.put, List.setIfInBounds_toArray, List.set_cons_zero, List.set_cons_succ, i64_w, i32_w]
        rfl
      refine take_ (i := 4) (N := some 7) (v := ?_) (a' := ?_) #[true, true, true, true, true, false, true, false, false, false, false] rfl rfl (take_ofW HT_.out HW_.out (by kernel_rfl)) (fun _ _ _ h => h) (Or.inl ⟨by rfl, ?_⟩) hHeld ?_ ?_
      rotate_left
      · rintro w' ⟨s0, s1, s2, s3, s4, s5, s6, s7, s8⟩
        go_simp
        with_reducible rfl
      rotate_left
      · simp only [Act.put, List.setIfInBounds_toArray, List.set_cons_zero, List.set_cons_succ, i64_w, i32_w]
        rfl
      refine take_ (i := 7) (N := some 10) (v := ?_) (a' := ?_) #[true, true, true, true, true, false, true, true, false, false, false] rfl rfl (take_ofW HT_.out HW_.out (by kernel_rfl)) (fun _ _ _ h => h) (Or.inl ⟨by rfl, ?_⟩) hHeld ?_ ?_
      rotate_left
      · rintro w' ⟨s0, s1, s2, s3, s4, s5, s6, s7, s8⟩
        go_simp
        with_reducible rfl
      rotate_left
      · simp only [Act.put, List.setIfInBounds_toArray, List.set_cons_zero, List.set_cons_succ, i64_w, i32_w]
        rfl
      refine one_ (i := 5) (N := some 8) #[true, true, true, true, true, true, true, true, false, false, false] rfl rfl (one_of HT_.out (by kernel_rfl)) (by decide) (fun K hK => ?_)
      refine goes_ Try.func22 (by kernel_rfl) rfl #[.int .i64 a0_1, .string a0_0] (by rfl) rfl rfl (by (try simp only [List.map_toArray, List.map_cons, List.map_nil]); first | done | rfl | (simp only [List.length_drop, List.length_take]; rfl)) ?_
      with_reducible refine (spec_DocHead.calls a0_1 a0_0 t297 _ A2.out).mono ?_
      rintro e w7 ⟨v298, rfl, ho0, hb⟩
      refine ⟨_, rfl, ?_⟩
      have n0_ := Aside0.mk (Kd.R_lower ho0 (below_size (by repeat (first | (with_reducible first | exact HB.out | apply below_alloc | apply pw_below_drewN | apply below_drew1 | refine below_set ?_ GE296.out) | exact HB.out))))
      have n1_ := Aside0.mk (blk_below (g := gb296) (o := .cells #[.string a0_0, .int .i64 a0_1, .string a0_2, .string a0_3, .int .i64 a0_4, .int .u64 a0_5, .int .u64 a0_6, .slice A0_7 l0_7.length c0_7, .slice A0_8 l0_8.length c0_8] 98 (0, 0)) (by (with_reducible repeat (first | refine blk_drewN ?_ _ | refine blk_drew ?_ | refine blk_alloc ?_ _)); exact BK296.out) hb)
      have n2_ := Aside0.mk (below_step (by repeat (first | (with_reducible first | exact HB.out | apply below_alloc | apply pw_below_drewN | apply below_drew1 | refine below_set ?_ GE296.out) | exact HB.out)) hb)
      clear BK296
      clear HB
      have HO299 := n0_
      have BK296 := n1_
      have HB := n2_
      clear n0_ n1_ n2_
      (try clear hb)
      (try clear hb2)
      (try clear hk)
      (try clear hi)
      (try clear ho0)
      refine hK.out _ _ ⟨(blk_cell BK296.out 0).trans rfl, (blk_cell BK296.out 1).trans rfl, (blk_cell BK296.out 2).trans rfl, (blk_cell BK296.out 3).trans rfl, (blk_cell BK296.out 4).trans rfl, (blk_cell BK296.out 5).trans rfl, (blk_cell BK296.out 6).trans rfl, (blk_cell BK296.out 7).trans rfl, (blk_cell BK296.out 8).trans rfl⟩ (fun hHeld => ?_)
      clear hK K
      refine norm_ (a' := ?_) ?_ ?_
      rotate_left
      · show Act.put _ (some 8) _ = _
        simp only [Act.put, List.setIfInBounds_toArray, List.set_cons_zero, List.set_cons_succ, i64_w, i32_w]
        rfl
      refine one_ (i := 8) (N := some 11) #[true, true, true, true, true, true, true, true, true, false, false] rfl rfl (one_of HT_.out (by kernel_rfl)) (by decide) (fun K hK => ?_)
      refine goes_ Try.func57 (by kernel_rfl) rfl #[.agg #[.int .i64 a0_1, .string a0_2, .string a0_3, .int .i64 a0_4, .int .u64 a0_5, .int .u64 a0_6, .slice A0_7 l0_7.length c0_7, .slice A0_8 l0_8.length c0_8]] (by rfl) rfl rfl (by (try simp only [List.map_toArray, List.map_cons, List.map_nil]); first | done | rfl | (simp only [List.length_drop, List.length_take]; rfl)) ?_
      with_reducible refine (Grp_spec_DocElem.get2 (ih k (by omega)) a0_1 a0_2 a0_3 a0_4 a0_5 a0_6 _ _ l0_7 _ _ l0_8 t300 _ ?side1 ?side2 ?side3 ?side4 A3.out).mono ?_
      (case side1 => repeat (first | exact (Kd.C_below HR0_7.out HB.out) | (with_reducible refine Kd.C_alloc ?_ _) | (with_reducible refine Kd.C_drewN ?_ _) | (with_reducible refine Kd.C_drew ?_)))
      (case side2 => exact HC0_7.out)
      (case side3 => repeat (first | exact (Kd.C_below HR0_8.out HB.out) | (with_reducible refine Kd.C_alloc ?_ _) | (with_reducible refine Kd.C_drewN ?_ _) | (with_reducible refine Kd.C_drew ?_)))
      (case side4 => exact HC0_8.out)
      rintro e w8 ⟨v301, rfl, ho0, hb⟩
      refine ⟨_, rfl, ?_⟩
      have n0_ := Aside0.mk (Kd.R_elder' (by (with_reducible repeat (first | apply Kd.R_alloc | apply Kd.R_drewN | apply Kd.R_drew)); exact HO299.out) (Kd.R_base ho0) hb)
      have n1_ := Aside0.mk (Kd.R_lower (Kd.R_new' ho0 (Kd.R_lt (by (with_reducible repeat (first | apply Kd.R_alloc | apply Kd.R_drewN | apply Kd.R_drew)); exact HO299.out))) (below_size (by repeat (first | (with_reducible first | exact HB.out | apply below_alloc | apply pw_below_drewN | apply below_drew1 | refine below_set ?_ GE296.out) | exact HB.out))))
      have n2_ := Aside0.mk (blk_below (g := gb296) (o := .cells #[.string a0_0, .int .i64 a0_1, .string a0_2, .string a0_3, .int .i64 a0_4, .int .u64 a0_5, .int .u64 a0_6, .slice A0_7 l0_7.length c0_7, .slice A0_8 l0_8.length c0_8] 98 (0, 0)) (by (with_reducible repeat (first | refine blk_drewN ?_ _ | refine blk_drew ?_ | refine blk_alloc ?_ _)); exact BK296.out) hb)
      have n3_ := Aside0.mk (below_step (by repeat (first | (with_reducible first | exact HB.out | apply below_alloc | apply pw_below_drewN | apply below_drew1 | refine below_set ?_ GE296.out) | exact HB.out)) hb)
      clear HO299
      clear BK296
      clear HB
      have HO299 := n0_
      have HO302 := n1_
      have BK296 := n2_
      have HB := n3_
      clear n0_ n1_ n2_ n3_
      (try clear hb)
      (try clear hb2)
      (try clear hk)
      (try clear hi)
      (try clear ho0)
      obtain ⟨Ao10, co10, eo10⟩ := Kd.R_slice HO302.out
      (first | subst eo10 | (injection eo10 with f1_ f2_ f3_; have f4_ := f1_.symm; have f5_ := f3_.symm; clear f1_ f2_ f3_; subst f4_; subst f5_))
      refine hK.out _ _ ⟨(blk_cell BK296.out 0).trans rfl, (blk_cell BK296.out 1).trans rfl, (blk_cell BK296.out 2).trans rfl, (blk_cell BK296.out 3).trans rfl, (blk_cell BK296.out 4).trans rfl, (blk_cell BK296.out 5).trans rfl, (blk_cell BK296.out 6).trans rfl, (blk_cell BK296.out 7).trans rfl, (blk_cell BK296.out 8).trans rfl⟩ (fun hHeld => ?_)
      clear hK K
      refine norm_ (a' := ?_) ?_ ?_
      rotate_left
      · show Act.put _ (some 11) _ = _
        simp only [Act.put, List.setIfInBounds_toArray, List.set_cons_zero, List.set_cons_succ, i64_w, i32_w]
        rfl
      refine one_ (i := 9) (N := some 12) #[true, true, true, true, true, true, true, true, true, true, false] rfl rfl (one_of HT_.out (by kernel_rfl)) (by decide) (fun K hK => ?_)
      refine Kd.R_append_rows_step (Kd.int .u8) (w0 := w) w.heap.size (by rfl) (.tmp 8) (.tmp 11) 24 5 (.int .u8 0) 1 rfl Try.underlying24 info5 rfl (by decide) (by omega) v298 t297 t300 _ _ _ (fun k_ => some k_ ≠ (.slice Ao10 t300.length co10 : Value).ownBlock) (fun _ => False) rfl rfl ?aO ?aR (fun _ _ h => h) (fun _ h => h.elim) ?aF ?aB ?aS ?aL ?_
      (case aR => repeat (first | exact (Kd.R_reads' HO302.out).2.2 | (with_reducible refine Kd.C_alloc ?_ _) | (with_reducible refine Kd.C_drewN ?_ _) | (with_reducible refine Kd.C_drew ?_)))
      (case aB => exact (by repeat (first | (with_reducible first | exact HB.out | apply below_alloc | apply pw_below_drewN | apply below_drew1 | refine below_set ?_ GE296.out) | exact HB.out)))
      (case aF => exact (fun k_ hk => Kd.fresh' (Kd.R_lt (by (with_reducible repeat (first | apply Kd.R_alloc | apply Kd.R_drewN | apply Kd.R_drew)); exact HO302.out)) k_ hk))
      (case aO => exact (by (with_reducible repeat (first | apply Kd.R_alloc | apply Kd.R_drewN | apply Kd.R_drew)); exact Kd.R_mono HO299.out (fun _ hk => hk.2)))
      (case aS => exact (below_size (by repeat (first | (with_reducible first | exact HB.out | apply below_alloc | apply pw_below_drewN | apply below_drew1 | refine below_set ?_ GE296.out) | exact HB.out))))
      (case aL => have := LMc4.out; omega)
      intro v304 w9 ho hb hg hat
      rw [← Ny303.out] at ho
      have n0_ := Aside0.mk (blk_grown (g := gb296) (o := .cells #[.string a0_0, .int .i64 a0_1, .string a0_2, .string a0_3, .int .i64 a0_4, .int .u64 a0_5, .int .u64 a0_6, .slice A0_7 l0_7.length c0_7, .slice A0_8 l0_8.length c0_8] 98 (0, 0)) (by (with_reducible repeat (first | refine blk_drewN ?_ _ | refine blk_drew ?_ | refine blk_alloc ?_ _)); exact BK296.out) hg (Kd.R_ne HO299.out BK296.out (by decide)))
      have n1_ := Aside0.mk (Kd.R_after (ok := (fun _ => True)) (by (with_reducible repeat (first | apply Kd.R_alloc | apply Kd.R_drewN | apply Kd.R_drew)); exact HO302.out) hg hat)
      have n2_ := Aside0.mk (hb)
      have n3_ := Aside0.mk (ho)
      clear BK296
      clear HO302
      clear HB
      clear HO299
      have BK296 := n0_
      have HO302 := n1_
      have HB := n2_
      have HO305 := n3_
      clear n0_ n1_ n2_ n3_
      clear ho hb hg hat
      refine hK.out _ _ ⟨(blk_cell BK296.out 0).trans rfl, (blk_cell BK296.out 1).trans rfl, (blk_cell BK296.out 2).trans rfl, (blk_cell BK296.out 3).trans rfl, (blk_cell BK296.out 4).trans rfl, (blk_cell BK296.out 5).trans rfl, (blk_cell BK296.out 6).trans rfl, (blk_cell BK296.out 7).trans rfl, (blk_cell BK296.out 8).trans rfl⟩ (fun hHeld => ?_)
      clear hK K
      refine norm_ (a' := ?_) ?_ ?_
      rotate_left
      · show Act.put _ (some 12) _ = _
        simp only [Act.put, List.setIfInBounds_toArray, List.set_cons_zero, List.set_cons_succ, i64_w, i32_w]
        rfl
      refine pure_ (i := 10) (N := some 2) (v := ?_) (a' := ?_) #[true, true, true, true, true, true, true, true, true, true, true] rfl rfl (any_of HT_.out (by kernel_rfl)) (fun _ _ _ h => h) (Or.inl ⟨by rfl, ?_⟩) ?_ ?_
      rotate_left
      · intro w'
        go_simp
        with_reducible rfl
      rotate_left
      · simp only [Act.put, List.setIfInBounds_toArray, List.set_cons_zero, List.set_cons_succ, i64_w, i32_w]
        rfl
      refine done_ (done_of HT_.out (by kernel_rfl)) ?_
      try go_wp2
      go_ret
      exact ⟨_, by first | rfl | (simp [errW_none, errW_some] <;> rfl) | (simp [*, errW_none, errW_some] <;> rfl), by (with_reducible repeat (first | apply Kd.R_alloc | apply Kd.R_drewN | apply Kd.R_drew)); exact Kd.R_mono HO305.out (fun _ hk => trivial), by repeat (first | (with_reducible first | exact HB.out | apply below_alloc | apply pw_below_drewN | apply below_drew1 | refine below_set ?_ GE296.out) | exact HB.out)⟩
  · rw [if_neg c4] at H
    exact absurd H (by simp)

/-! ### spec_DocBytes: function 70 -/
set_option maxHeartbeats 8000000 in
set_option maxRecDepth 100000 in
theorem spec_DocBytes.step (k : Nat) (ih : ∀ j, j < k → Grp_spec_DocElem.Spec j) : ∀ (A0 : Option Addr) (c0 : Nat) (l0 : List (S98)) (r : List Int) (w : World) (hr0 : Kd.C k98 w A0 l0.length l0) (hc0 : l0.length ≤ c0) (h : spec_DocBytes.f k l0 = some r),
    Calls Try.prog 70 #[.slice A0 l0.length c0] w fun e w' => ∃ v0_ : Value, e = .returned (v0_) ∧ Kd.R (Kd.int .u8) 5 w' w.heap.size (fun _ => True) v0_ r ∧ Below w.heap.size w w' := by
  intro A0 c0 l0 r w hr0 hc0 h
  cases k with
  | zero => exact absurd h (by simp [spec_DocBytes.f])
  | succ k =>
  simp only [spec_DocBytes.f] at h
  have hu98 := Try.underlying98
  have HR0 := Aside0.mk hr0
  have HC0 := Aside0.mk hc0
  clear hr0 hc0
  have HB := Aside0.mk (Below.refl w.heap.size w)
  have H : (spec_DocBytes.l0 k l0 ([] : List Int) 0) = some r := h
  clear h
  have H' := Aside0.mk H
  clear H
  go_enter Try.func70, Try.ntmps70
  go_wp2
  go_loopg [3, 4] k (fun kq v3 v4 w' => ∃ (x3_1 : List Int) (x4_1 : Int), v4 = .int .i64 x4_1 ∧ Aside0 (spec_DocBytes.l0 kq l0 x3_1 x4_1 = some r) ∧ Aside0 (kq ≤ k) ∧ Aside0 (Kd.R (Kd.int .u8) 5 w' w.heap.size (fun _ => True) v3 x3_1) ∧ Aside0 (Below w.heap.size w w'))
  case atStart => exact ⟨(([] : List Int)), (0), (by first | rfl | (simp; done) | (simp [*]; done)), H', ⟨Nat.le_refl _⟩, ⟨by first | exact Kd.R_nil _ _ _ _ _ | exact Kd.N_nil _ _ _ _ _ | exact Kd.V_nil _ _ _ _ _ | exact Kd.Q_nil _ _ _ _ _ | exact Kd.S_nil _ _ _ _ _⟩, ⟨by repeat (first | (with_reducible first | exact HB.out | apply below_alloc | apply pw_below_drewN | apply below_drew1) | exact HB.out)⟩⟩
  case round =>
    clear H'
    obtain ⟨x3_1, x4_1, rfl, HA, HK1, HO_3, HB⟩ := hrel
    cases gk with
    | zero => exact absurd HA.out (by simp [spec_DocBytes.l0])
    | succ k1 =>
      have H := HA.out
      clear HA
      simp only [spec_DocBytes.l0] at H
      by_cases c2 : x4_1 < (l0.length : Int)
      · rw [if_pos c2] at H
        have c2b0 : decide (x4_1 < (l0.length : Int)) = true := decide_eq_true c2
        clear c2
        by_cases c3 : 0 ≤ x4_1
        · rw [if_pos c3] at H
          have c3b0 : decide (0 ≤ x4_1) = true := decide_eq_true c3
          clear c3
          replace H := Option.bind_eq_some_iff.mp H
          obtain ⟨t307, A40, H⟩ := H
          replace H : (if x3_1.length + t307.length < 140737488355328 then (spec_DocBytes.l0 k1 l0 (x3_1 ++ t307) (wrap64 (x4_1 + 1))) else (none)) = some r := H
          have A4 := Aside0.mk A40
          clear A40
          by_cases c5 : x3_1.length + t307.length < 140737488355328
          · rw [if_pos c5] at H
            have LMc5 := Aside0.mk c5
            clear c5
            obtain ⟨y310, hy310⟩ : ∃ y_ : List Int, y_ = (x3_1 ++ t307) := ⟨_, rfl⟩
            replace H : (spec_DocBytes.l0 k1 l0 y310 (wrap64 (x4_1 + 1))) = some r := by first | (rw [hy310]; with_reducible exact H) | (have H2_ := (Option.bind_some _ _).symm.trans H; rw [hy310]; with_reducible exact H2_) | (have H2_ := (Option.bind_some _ _).symm.trans H; with_reducible exact H2_) | with_reducible exact H | (rw [hy310]; exact H) | exact H
            have Ny310 := Aside0.mk hy310
            clear hy310
            as_aux_lemma =>
              have H' := Aside0.mk H
              clear H
              have p306 : 0 ≤ (x4_1 : Int) := of_decide_eq_true (by first | (with_reducible assumption) | assumption)
              have q306 : x4_1 < (l0.length : Int) := of_decide_eq_true (by first | (with_reducible assumption) | assumption)
              obtain ⟨ad306, A306_7, c306_7, A306_8, c306_8, e306, hx306_0, hx306_1, hx306_2, hx306_3, hx306_4, hx306_5, hx306_6, hx306_7, hx306_8, hl306_7, hi306_7, hl306_8, hi306_8⟩ := at_T98 HR0.out x4_1 p306 q306
              cases e306
              replace hx306_0 := (HB.out.cell (World.block_lt_of_cell? w _ hx306_0)).trans hx306_0
              replace hx306_1 := (HB.out.cell (World.block_lt_of_cell? w _ hx306_1)).trans hx306_1
              replace hx306_2 := (HB.out.cell (World.block_lt_of_cell? w _ hx306_2)).trans hx306_2
              replace hx306_3 := (HB.out.cell (World.block_lt_of_cell? w _ hx306_3)).trans hx306_3
              replace hx306_4 := (HB.out.cell (World.block_lt_of_cell? w _ hx306_4)).trans hx306_4
              replace hx306_5 := (HB.out.cell (World.block_lt_of_cell? w _ hx306_5)).trans hx306_5
              replace hx306_6 := (HB.out.cell (World.block_lt_of_cell? w _ hx306_6)).trans hx306_6
              replace hx306_7 := (HB.out.cell (World.block_lt_of_cell? w _ hx306_7)).trans hx306_7
              replace hx306_8 := (HB.out.cell (World.block_lt_of_cell? w _ hx306_8)).trans hx306_8
              have HR306_7 := Aside0.mk hi306_7
              have HC306_7 := Aside0.mk hl306_7
              clear hi306_7 hl306_7
              have HR306_8 := Aside0.mk hi306_8
              have HC306_8 := Aside0.mk hl306_8
              clear hi306_8 hl306_8
              replace p306 := eq_true p306
              replace q306 := eq_true q306
              go_wp2_with (first | ((with_reducible refine gate_callee (f := 81) rfl ?_); refine goesL_ (some 17) rfl rfl Try.func81 (by kernel_rfl) rfl #[.agg #[.string ((rd_T98 l0 x4_1).f0), .int .i64 ((rd_T98 l0 x4_1).f1.f0), .string ((rd_T98 l0 x4_1).f1.f1), .string ((rd_T98 l0 x4_1).f1.f2), .int .i64 ((rd_T98 l0 x4_1).f1.f3), .int .u64 ((rd_T98 l0 x4_1).f1.f4), .int .u64 ((rd_T98 l0 x4_1).f1.f5), .slice A306_7 ((rd_T98 l0 x4_1).f1.f6).length c306_7, .slice A306_8 ((rd_T98 l0 x4_1).f1.f7).length c306_8]] rfl (by (try simp only [List.map_toArray, List.map_cons, List.map_nil]); first | done | rfl | (simp only [List.length_drop, List.length_take]; rfl)) ?_; (with_reducible refine (Grp_spec_DocElem.get0 (ih k1 (by have := HK1.out; omega)) ((rd_T98 l0 x4_1).f0) ((rd_T98 l0 x4_1).f1.f0) ((rd_T98 l0 x4_1).f1.f1) ((rd_T98 l0 x4_1).f1.f2) ((rd_T98 l0 x4_1).f1.f3) ((rd_T98 l0 x4_1).f1.f4) ((rd_T98 l0 x4_1).f1.f5) _ _ ((rd_T98 l0 x4_1).f1.f6) _ _ ((rd_T98 l0 x4_1).f1.f7) t307 _ ?side1 ?side2 ?side3 ?side4 A4.out).mono ?_); (case side1 => repeat (first | exact (Kd.C_below HR306_7.out HB.out) | (with_reducible refine Kd.C_alloc ?_ _) | (with_reducible refine Kd.C_drewN ?_ _) | (with_reducible refine Kd.C_drew ?_))); (case side2 => exact HC306_7.out); (case side3 => repeat (first | exact (Kd.C_below HR306_8.out HB.out) | (with_reducible refine Kd.C_alloc ?_ _) | (with_reducible refine Kd.C_drewN ?_ _) | (with_reducible refine Kd.C_drew ?_))); (case side4 => exact HC306_8.out); rintro e w6 ⟨v308, rfl, ho0, hb⟩; refine ⟨_, rfl, ?_⟩; have n0_ := Aside0.mk (Kd.R_elder' (by (with_reducible repeat (first | apply Kd.R_alloc | apply Kd.R_drewN | apply Kd.R_drew)); exact HO_3.out) (Kd.R_base ho0) hb); have n1_ := Aside0.mk (Kd.R_lower (Kd.R_new' ho0 (Kd.R_lt (by (with_reducible repeat (first | apply Kd.R_alloc | apply Kd.R_drewN | apply Kd.R_drew)); exact HO_3.out))) (below_size (by repeat (first | (with_reducible first | exact HB.out | apply below_alloc | apply pw_below_drewN | apply below_drew1) | exact HB.out)))); have n2_ := Aside0.mk (below_step (by repeat (first | (with_reducible first | exact HB.out | apply below_alloc | apply pw_below_drewN | apply below_drew1) | exact HB.out)) hb); clear HO_3; clear HB; have HO_3 := n0_; have HO309 := n1_; have HB := n2_; clear n0_ n1_ n2_; (try clear hb); (try clear hb2); (try clear hk); (try clear hi); (try clear ho0); obtain ⟨Ao8, co8, eo8⟩ := Kd.R_slice HO309.out; subst eo8) | ((with_reducible refine gate_builtin (b := .append) (xs := #[.tmp 12, .tmp 17]) rfl ?_); at_builtin; refine Kd.R_append_rows (Kd.int .u8) (w0 := w) w.heap.size rfl (.tmp 12) (.tmp 17) 24 5 (.int .u8 0) 1 rfl Try.underlying24 info5 rfl (by decide) (by omega) u3 x3_1 t307 _ _ _ (fun k_ => some k_ ≠ (.slice Ao8 t307.length co8 : Value).ownBlock) (fun _ => False) rfl rfl ?aO ?aR (fun _ _ h => h) (fun _ h => h.elim) ?aF ?aB ?aS ?aL ?_; (case aR => repeat (first | exact (Kd.R_reads' HO309.out).2.2 | (with_reducible refine Kd.C_alloc ?_ _) | (with_reducible refine Kd.C_drewN ?_ _) | (with_reducible refine Kd.C_drew ?_))); (case aB => exact (by repeat (first | (with_reducible first | exact HB.out | apply below_alloc | apply pw_below_drewN | apply below_drew1) | exact HB.out))); (case aF => exact (fun k_ hk => Kd.fresh' (Kd.R_lt (by (with_reducible repeat (first | apply Kd.R_alloc | apply Kd.R_drewN | apply Kd.R_drew)); exact HO309.out)) k_ hk)); (case aO => exact (by (with_reducible repeat (first | apply Kd.R_alloc | apply Kd.R_drewN | apply Kd.R_drew)); exact Kd.R_mono HO_3.out (fun _ hk => hk.2))); (case aS => exact (below_size (by repeat (first | (with_reducible first | exact HB.out | apply below_alloc | apply pw_below_drewN | apply below_drew1) | exact HB.out)))); (case aL => have := LMc5.out; omega); intro v311 w7 ho hb hg hat; rw [← Ny310.out] at ho; have n0_ := Aside0.mk (Kd.R_after (ok := (fun _ => True)) (by (with_reducible repeat (first | apply Kd.R_alloc | apply Kd.R_drewN | apply Kd.R_drew)); exact HO309.out) hg hat); have n1_ := Aside0.mk (hb); have n2_ := Aside0.mk (ho); clear HO309; clear HB; clear HO_3; have HO309 := n0_; have HB := n1_; have HO312 := n2_; clear n0_ n1_ n2_; clear ho hb hg hat))
              go_roundg k1
              case measure => have := HK1.out; omega
              case rel => exact ⟨(y310), (wrap64 (x4_1 + 1)), (by first | rfl | (simp; done) | (simp [*]; done)), H', ⟨by have := HK1.out; omega⟩, ⟨by (with_reducible repeat (first | apply Kd.R_alloc | apply Kd.R_drewN | apply Kd.R_drew)); exact Kd.R_mono HO312.out (fun _ hk => trivial)⟩, ⟨by repeat (first | (with_reducible first | exact HB.out | apply below_alloc | apply pw_below_drewN | apply below_drew1) | exact HB.out)⟩⟩
          · rw [if_neg c5] at H
            exact absurd H (by simp)
        · rw [if_neg c3] at H
          exact absurd H (by simp)
      · rw [if_neg c2] at H
        have c2b0 : decide (x4_1 < (l0.length : Int)) = false := decide_eq_false c2
        clear c2
        replace H := Option.bind_eq_some_iff.mp H
        obtain ⟨t313, A90, H⟩ := H
        replace H : (if t313.length + x3_1.length < 140737488355328 then ((some (t313 ++ x3_1 : List Int)).bind fun y316 => (if y316.length < 140737488355328 then (some (y316 ++ [0])) else (none))) else (none)) = some r := H
        have A9 := Aside0.mk A90
        clear A90
        by_cases c10 : t313.length + x3_1.length < 140737488355328
        · rw [if_pos c10] at H
          have LMc10 := Aside0.mk c10
          clear c10
          obtain ⟨y316, hy316⟩ : ∃ y_ : List Int, y_ = (t313 ++ x3_1) := ⟨_, rfl⟩
          replace H : (if y316.length < 140737488355328 then (some (y316 ++ [0])) else (none)) = some r := by first | (rw [hy316]; with_reducible exact H) | (have H2_ := (Option.bind_some _ _).symm.trans H; rw [hy316]; with_reducible exact H2_) | (have H2_ := (Option.bind_some _ _).symm.trans H; with_reducible exact H2_) | with_reducible exact H | (rw [hy316]; exact H) | exact H
          have Ny316 := Aside0.mk hy316
          clear hy316
          by_cases c11 : y316.length < 140737488355328
          · rw [if_pos c11] at H
            have LMc11 := Aside0.mk c11
            clear c11
            obtain ⟨y319, hy319⟩ : ∃ y_ : List Int, y_ = (y316 ++ [0]) := ⟨_, rfl⟩
            replace H : (some y319) = some r := by first | (rw [hy319]; with_reducible exact H) | (have H2_ := (Option.bind_some _ _).symm.trans H; rw [hy319]; with_reducible exact H2_) | (have H2_ := (Option.bind_some _ _).symm.trans H; with_reducible exact H2_) | with_reducible exact H | (rw [hy319]; exact H) | exact H
            have Ny319 := Aside0.mk hy319
            clear hy319
            as_aux_lemma =>
              obtain rfl := Option.some.inj H
              obtain ⟨Ao12, co12, eo12⟩ := Kd.R_slice HO_3.out
              subst eo12
              go_wp2_with (first | ((with_reducible refine gate_callee (f := 71) rfl ?_); refine goesL_ (some 22) rfl rfl Try.func71 (by kernel_rfl) rfl #[.slice none 0 0, .int .i64 (wrap64 ((x3_1.length : Int) + 5))] rfl (by (try simp only [List.map_toArray, List.map_cons, List.map_nil]); first | done | rfl | (simp only [List.length_drop, List.length_take]; rfl)) ?_; (refine (spec_DocInt32.calls (fun k_ => some k_ = (.slice none 0 0 : Value).ownBlock) (.slice none 0 0) ([] : List Int) (wrap64 ((x3_1.length : Int) + 5)) t313 w _ ?side1 ?side2 A9.out).mono ?_); (case side1 => repeat (first | (with_reducible first | exact HB.out | apply below_alloc | apply pw_below_drewN | apply below_drew1) | exact HB.out)); (case side2 => exact Kd.R_nil _ _ _ _ _); rintro e w13 ⟨v314, rfl, ho0, hb, hkp⟩; refine ⟨_, rfl, ?_⟩; have n0_ := Aside0.mk (Kd.R_mono (ok' := fun k_ => some k_ ≠ (v314 : Value).ownBlock) (Kd.R_keptB (HO_3.out) hkp (fun k_ hk_ hs_ => (fun e_ => by simp [Value.ownBlock] at e_) hs_)) (fun k_ hk_ => fun e_ => Or.elim (ho0.1 k_ e_.symm) (fun hs_ => hk_.2.1 hs_) (fun hn_ => Nat.not_le.2 hk_.2.2 hn_))); have n1_ := Aside0.mk (Kd.R_mono (ok' := fun k_ => some k_ ≠ (.slice Ao12 x3_1.length co12 : Value).ownBlock) ho0 (fun k_ hk_ => Or.elim hk_ (fun hs_ => absurd hs_ (by simp [Value.ownBlock])) (fun hn_ => (Kd.fresh' (Kd.R_lt (by (with_reducible repeat (first | apply Kd.R_alloc | apply Kd.R_drewN | apply Kd.R_drew)); exact HO_3.out)) k_ hn_)))); have n2_ := Aside0.mk (hb); clear HO_3; clear HB; have HO_3 := n0_; have HO315 := n1_; have HB := n2_; clear n0_ n1_ n2_; (try clear hb); (try clear hkp); (try clear ho0)) | ((with_reducible refine gate_builtin (b := .append) (xs := #[.tmp 23, .tmp 24]) rfl ?_); at_builtin; refine Kd.R_append_rows (Kd.int .u8) (w0 := w) w.heap.size rfl (.tmp 23) (.tmp 24) 24 5 (.int .u8 0) 1 rfl Try.underlying24 info5 rfl (by decide) (by omega) v314 t313 x3_1 _ _ _ (fun k_ => some k_ ≠ (.slice Ao12 x3_1.length co12 : Value).ownBlock) (fun _ => False) rfl rfl ?aO ?aR (fun _ _ h => h) (fun _ h => h.elim) ?aF ?aB ?aS ?aL ?_; (case aR => repeat (first | exact (Kd.R_reads' HO_3.out).2.2 | (with_reducible refine Kd.C_alloc ?_ _) | (with_reducible refine Kd.C_drewN ?_ _) | (with_reducible refine Kd.C_drew ?_))); (case aB => exact (by repeat (first | (with_reducible first | exact HB.out | apply below_alloc | apply pw_below_drewN | apply below_drew1) | exact HB.out))); (case aF => exact (fun k_ hk => Kd.fresh' (Kd.R_lt (by (with_reducible repeat (first | apply Kd.R_alloc | apply Kd.R_drewN | apply Kd.R_drew)); exact HO_3.out)) k_ hk)); (case aO => exact (by (with_reducible repeat (first | apply Kd.R_alloc | apply Kd.R_drewN | apply Kd.R_drew)); exact HO315.out)); (case aS => exact (below_size (by repeat (first | (with_reducible first | exact HB.out | apply below_alloc | apply pw_below_drewN | apply below_drew1) | exact HB.out)))); (case aL => have := LMc10.out; omega); intro v317 w14 ho hb hg hat; rw [← Ny316.out] at ho; have n0_ := Aside0.mk (Kd.R_after (ok := (fun _ => True)) (by (with_reducible repeat (first | apply Kd.R_alloc | apply Kd.R_drewN | apply Kd.R_drew)); exact Kd.R_mono HO_3.out (fun _ hk => ⟨trivial, hk⟩)) hg hat); have n1_ := Aside0.mk (hb); have n2_ := Aside0.mk (ho); clear HO_3; clear HB; clear HO315; have HO_3 := n0_; have HB := n1_; have HO318 := n2_; clear n0_ n1_ n2_; clear ho hb hg hat) | ((with_reducible refine gate_builtin (b := .append) (xs := #[.tmp 26, .tmp 27]) rfl ?_); at_builtin; refine Kd.R_append (Kd.int .u8) (w0 := w) w.heap.size rfl (.tmp 26) (.tmp 27) 24 5 (.int .u8 0) 1 rfl Try.underlying24 info5 rfl (by decide) (by omega) v317 y316 0 [.int .u8 0] (fun k_ => some k_ ≠ (.slice Ao12 x3_1.length co12 : Value).ownBlock) (fun _ => False) rfl rfl ?aP (fun _ hk => hk.elim) ?aF ?aO ?aB ?aS ?aL ?_; (case aP => exact rfl); (case aB => exact (by repeat (first | (with_reducible first | exact HB.out | apply below_alloc | apply pw_below_drewN | apply below_drew1) | exact HB.out))); (case aF => exact (fun k_ hk => Kd.fresh' (Kd.R_lt (by (with_reducible repeat (first | apply Kd.R_alloc | apply Kd.R_drewN | apply Kd.R_drew)); exact HO_3.out)) k_ hk)); (case aO => exact (by (with_reducible repeat (first | apply Kd.R_alloc | apply Kd.R_drewN | apply Kd.R_drew)); exact HO318.out)); (case aS => exact (below_size (by repeat (first | (with_reducible first | exact HB.out | apply below_alloc | apply pw_below_drewN | apply below_drew1) | exact HB.out)))); (case aL => have := LMc11.out; omega); intro v320 w15 ho hb hg hat; rw [← Ny319.out] at ho; have n0_ := Aside0.mk (Kd.R_after (ok := (fun _ => True)) (by (with_reducible repeat (first | apply Kd.R_alloc | apply Kd.R_drewN | apply Kd.R_drew)); exact HO_3.out) hg hat); have n1_ := Aside0.mk (hb); have n2_ := Aside0.mk (ho); clear HO_3; clear HB; clear HO318; have HO_3 := n0_; have HB := n1_; have HO321 := n2_; clear n0_ n1_ n2_; clear ho hb hg hat))
              go_ret
              exact ⟨_, by first | rfl | (simp [errW_none, errW_some] <;> rfl) | (simp [*, errW_none, errW_some] <;> rfl), by (with_reducible repeat (first | apply Kd.R_alloc | apply Kd.R_drewN | apply Kd.R_drew)); exact Kd.R_mono HO321.out (fun _ hk => trivial), by repeat (first | (with_reducible first | exact HB.out | apply below_alloc | apply pw_below_drewN | apply below_drew1) | exact HB.out)⟩
          · rw [if_neg c11] at H
            exact absurd H (by simp)
        · rw [if_neg c10] at H
          exact absurd H (by simp)

end Go.Proofs.Ythlpmeiihchdjaa.PFlu
