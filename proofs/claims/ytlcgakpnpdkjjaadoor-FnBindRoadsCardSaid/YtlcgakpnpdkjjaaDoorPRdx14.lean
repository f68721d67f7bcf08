/- Printed by a program of this session (a turned copy of the printer of the kit): contracts of functions of the translation, each with the Lean function that it computes. Conditions: as each theorem states them. -/
import Derived.Test.YtlcgakpnpdkjjaaDoorPRdx0
import Derived.Test.YtlcgakpnpdkjjaaDoorPRdx1
import Derived.Test.YtlcgakpnpdkjjaaDoorPRdx7
import Derived.Test.YtlcgakpnpdkjjaaDoorPRdx8
import Derived.Test.YtlcgakpnpdkjjaaDoorPRdx12
import Derived.Test.YtlcgakpnpdkjjaaDoorPRdx13
namespace Go.Proofs.YtlcgakpnpdkjjaaDoor.PRd
open Go.RowKit Go.Proofs.YtlcgakpnpdkjjaaDoorW.PrintWords Go.Proofs.YtlcgakpnpdkjjaaDoorW.PrintLast Go.Proofs.YtlcgakpnpdkjjaaDoorW.PrintMore
attribute [local go_sem] max2_int min2_int max_two min_two max_three min_three max_four min_four   -- for this text's walks alone
set_option linter.unusedVariables false
set_option linter.unusedSimpArgs false

/-! ### laws_FnBindRoads: function 4 -/
mutual
def laws_FnBindRoads.j0 : Nat → List Int → List (List Int) → Bool → Int → ByteArray → ByteArray → Int → Int → Int → List Int → List (S34) → Option (Bool)
  | 0, _, _, _, _, _, _, _, _, _, _, _ => none
  | k + 1, x3, x5, x39, x740000, x740001, x740002, x740003, x740004, x740005, x740006, x740007 => if x39 = true then (none) else (laws_FnBindRoads.l0 k x3 x5 0 x740000 x740001 x740002 x740003 x740004 x740005 x740006 x740007)
def laws_FnBindRoads.l0 : Nat → List Int → List (List Int) → Int → Int → ByteArray → ByteArray → Int → Int → Int → List Int → List (S34) → Option (Bool)
  | 0, _, _, _, _, _, _, _, _, _, _, _ => none
  | k + 1, x3, x5, x7, x740000, x740001, x740002, x740003, x740004, x740005, x740006, x740007 => if x7 < (x5.length : Int) then (if 0 ≤ x7 then ((impl_RawKey.f (rd_L4 x5 x7)).bind fun bt750 => ((impl_RawElementValue.f k (rd_L4 x5 x7)).bind fun bt753 => (if bt750.2 = 0 then (if bt753.2.2 = 0 then (if x7 < (x740007.length : Int) then (laws_FnBindRoads.j2 k x3 x5 x7 bt750.1 (bt750.1.toList != ((rd_T34 x740007 x7).f0).toList) x740000 x740001 x740002 x740003 x740004 x740005 x740006 x740007 bt753.1 bt753.2.1) else (none)) else (none)) else (none)))) else (none)) else (some true)
def laws_FnBindRoads.j2 : Nat → List Int → List (List Int) → Int → ByteArray → Bool → Int → ByteArray → ByteArray → Int → Int → Int → List Int → List (S34) → Int → List Int → Option (Bool)
  | 0, _, _, _, _, _, _, _, _, _, _, _, _, _, _, _ => none
  | k + 1, x3, x5, x7, x8, x77, x740000, x740001, x740002, x740003, x740004, x740005, x740006, x740007, x759000, x759001 => if x77 = true then (none) else ((impl_RawLookup.f k x3 (([x8] : List ByteArray))).bind fun bt763 => ((spec_DocFind.f k x740007 x8).bind fun t769 => (if bt763.2.2 = 0 then (if t769 = x7 then ((spec_BindSame.f bt763.1 bt763.2.1 x759000 x759001).bind fun t770 => (laws_FnBindRoads.j3 k x3 x5 x7 (!t770) x740000 x740001 x740002 x740003 x740004 x740005 x740006 x740007)) else (laws_FnBindRoads.j3 k x3 x5 x7 false x740000 x740001 x740002 x740003 x740004 x740005 x740006 x740007)) else (none))))
def laws_FnBindRoads.j3 : Nat → List Int → List (List Int) → Int → Bool → Int → ByteArray → ByteArray → Int → Int → Int → List Int → List (S34) → Option (Bool)
  | 0, _, _, _, _, _, _, _, _, _, _, _, _ => none
  | k + 1, x3, x5, x7, x101, x740000, x740001, x740002, x740003, x740004, x740005, x740006, x740007 => if x101 = true then (none) else (laws_FnBindRoads.l0 k x3 x5 (wrap64 (x7 + 1)) x740000 x740001 x740002 x740003 x740004 x740005 x740006 x740007)
end
def laws_FnBindRoads.f (k : Nat) (a0_0 : Int) (a0_1 : ByteArray) (a0_2 : ByteArray) (a0_3 : Int) (a0_4 : Int) (a0_5 : Int) (l0_6 : List Int) (l0_7 : List (S34)) : Option (Bool) := (laws_zzFits1.f a0_0 a0_1 a0_2 a0_3 a0_4 a0_5 l0_6 l0_7).bind fun t740 => (if t740 = true then ((laws_bindDoc.f k a0_0 a0_1 a0_2 a0_3 a0_4 a0_5 l0_6 l0_7).bind fun bt741 => (if bt741.2 = true then ((impl_RawElements.f k bt741.1).bind fun bt745 => (if bt745.2 = true then (laws_FnBindRoads.j0 k bt741.1 bt745.1 ((bt745.1.length : Int) != (l0_7.length : Int)) a0_0 a0_1 a0_2 a0_3 a0_4 a0_5 l0_6 l0_7) else (none))) else (some true))) else (some true))
theorem laws_FnBindRoads.mono_l : ∀ k, (∀ y0 y1 y2 y3 y4 y5 y6 y7 y8 y9 y10, LeO (laws_FnBindRoads.j0 k y0 y1 y2 y3 y4 y5 y6 y7 y8 y9 y10) (laws_FnBindRoads.j0 (k + 1) y0 y1 y2 y3 y4 y5 y6 y7 y8 y9 y10)) ∧ (∀ y0 y1 y2 y3 y4 y5 y6 y7 y8 y9 y10, LeO (laws_FnBindRoads.l0 k y0 y1 y2 y3 y4 y5 y6 y7 y8 y9 y10) (laws_FnBindRoads.l0 (k + 1) y0 y1 y2 y3 y4 y5 y6 y7 y8 y9 y10)) ∧ (∀ y0 y1 y2 y3 y4 y5 y6 y7 y8 y9 y10 y11 y12 y13 y14, LeO (laws_FnBindRoads.j2 k y0 y1 y2 y3 y4 y5 y6 y7 y8 y9 y10 y11 y12 y13 y14) (laws_FnBindRoads.j2 (k + 1) y0 y1 y2 y3 y4 y5 y6 y7 y8 y9 y10 y11 y12 y13 y14)) ∧ (∀ y0 y1 y2 y3 y4 y5 y6 y7 y8 y9 y10 y11, LeO (laws_FnBindRoads.j3 k y0 y1 y2 y3 y4 y5 y6 y7 y8 y9 y10 y11) (laws_FnBindRoads.j3 (k + 1) y0 y1 y2 y3 y4 y5 y6 y7 y8 y9 y10 y11))
  | 0 => ⟨fun _ _ _ _ _ _ _ _ _ _ _ r h => by simp [laws_FnBindRoads.j0] at h, fun _ _ _ _ _ _ _ _ _ _ _ r h => by simp [laws_FnBindRoads.l0] at h, fun _ _ _ _ _ _ _ _ _ _ _ _ _ _ _ r h => by simp [laws_FnBindRoads.j2] at h, fun _ _ _ _ _ _ _ _ _ _ _ _ r h => by simp [laws_FnBindRoads.j3] at h⟩
  | k + 1 => by
    obtain ⟨ih0, ih1, ih2, ih3⟩ := laws_FnBindRoads.mono_l k
    refine ⟨?_, ?_, ?_, ?_⟩
    · intro y0 y1 y2 y3 y4 y5 y6 y7 y8 y9 y10
      unfold laws_FnBindRoads.j0
      repeat' first
      | (with_reducible exact ih0 _ _ _ _ _ _ _ _ _ _ _)
      | (with_reducible exact ih1 _ _ _ _ _ _ _ _ _ _ _)
      | (with_reducible exact ih2 _ _ _ _ _ _ _ _ _ _ _ _ _ _ _)
      | (with_reducible exact ih3 _ _ _ _ _ _ _ _ _ _ _ _)
      | (with_reducible exact impl_RawElementValue.mono _ _)
      | (with_reducible exact impl_RawElements.mono _ _)
      | (with_reducible exact impl_RawLookup.mono _ _ _)
      | (with_reducible exact laws_bindDoc.mono _ _ _ _ _ _ _ _ _)
      | (with_reducible exact spec_DocFind.mono _ _ _)
      | (with_reducible exact LeO.refl _)
      | (with_reducible exact LeO.none _)
      | (with_reducible refine LeO.ite ?_ ?_)
      | (with_reducible refine LeO.bind ?_ (fun _ => ?_))
      | exact ih0 _ _ _ _ _ _ _ _ _ _ _
      | exact ih1 _ _ _ _ _ _ _ _ _ _ _
      | exact ih2 _ _ _ _ _ _ _ _ _ _ _ _ _ _ _
      | exact ih3 _ _ _ _ _ _ _ _ _ _ _ _
      | exact impl_RawElementValue.mono _ _
      | exact impl_RawElements.mono _ _
      | exact impl_RawLookup.mono _ _ _
      | exact laws_bindDoc.mono _ _ _ _ _ _ _ _ _
      | exact spec_DocFind.mono _ _ _
      | exact LeO.none _
      | refine LeO.ite ?_ ?_
      | refine LeO.bind ?_ (fun _ => ?_)
    · intro y0 y1 y2 y3 y4 y5 y6 y7 y8 y9 y10
      unfold laws_FnBindRoads.l0
      repeat' first
      | (with_reducible exact ih0 _ _ _ _ _ _ _ _ _ _ _)
      | (with_reducible exact ih1 _ _ _ _ _ _ _ _ _ _ _)
      | (with_reducible exact ih2 _ _ _ _ _ _ _ _ _ _ _ _ _ _ _)
      | (with_reducible exact ih3 _ _ _ _ _ _ _ _ _ _ _ _)
      | (with_reducible exact impl_RawElementValue.mono _ _)
      | (with_reducible exact impl_RawElements.mono _ _)
      | (with_reducible exact impl_RawLookup.mono _ _ _)
      | (with_reducible exact laws_bindDoc.mono _ _ _ _ _ _ _ _ _)
      | (with_reducible exact spec_DocFind.mono _ _ _)
      | (with_reducible exact LeO.refl _)
      | (with_reducible exact LeO.none _)
      | (with_reducible refine LeO.ite ?_ ?_)
      | (with_reducible refine LeO.bind ?_ (fun _ => ?_))
      | exact ih0 _ _ _ _ _ _ _ _ _ _ _
      | exact ih1 _ _ _ _ _ _ _ _ _ _ _
      | exact ih2 _ _ _ _ _ _ _ _ _ _ _ _ _ _ _
      | exact ih3 _ _ _ _ _ _ _ _ _ _ _ _
      | exact impl_RawElementValue.mono _ _
      | exact impl_RawElements.mono _ _
      | exact impl_RawLookup.mono _ _ _
      | exact laws_bindDoc.mono _ _ _ _ _ _ _ _ _
      | exact spec_DocFind.mono _ _ _
      | exact LeO.none _
      | refine LeO.ite ?_ ?_
      | refine LeO.bind ?_ (fun _ => ?_)
    · intro y0 y1 y2 y3 y4 y5 y6 y7 y8 y9 y10 y11 y12 y13 y14
      unfold laws_FnBindRoads.j2
      repeat' first
      | (with_reducible exact ih0 _ _ _ _ _ _ _ _ _ _ _)
      | (with_reducible exact ih1 _ _ _ _ _ _ _ _ _ _ _)
      | (with_reducible exact ih2 _ _ _ _ _ _ _ _ _ _ _ _ _ _ _)
      | (with_reducible exact ih3 _ _ _ _ _ _ _ _ _ _ _ _)
      | (with_reducible exact impl_RawElementValue.mono _ _)
      | (with_reducible exact impl_RawElements.mono _ _)
      | (with_reducible exact impl_RawLookup.mono _ _ _)
      | (with_reducible exact laws_bindDoc.mono _ _ _ _ _ _ _ _ _)
      | (with_reducible exact spec_DocFind.mono _ _ _)
      | (with_reducible exact LeO.refl _)
      | (with_reducible exact LeO.none _)
      | (with_reducible refine LeO.ite ?_ ?_)
      | (with_reducible refine LeO.bind ?_ (fun _ => ?_))
      | exact ih0 _ _ _ _ _ _ _ _ _ _ _
      | exact ih1 _ _ _ _ _ _ _ _ _ _ _
      | exact ih2 _ _ _ _ _ _ _ _ _ _ _ _ _ _ _
      | exact ih3 _ _ _ _ _ _ _ _ _ _ _ _
      | exact impl_RawElementValue.mono _ _
      | exact impl_RawElements.mono _ _
      | exact impl_RawLookup.mono _ _ _
      | exact laws_bindDoc.mono _ _ _ _ _ _ _ _ _
      | exact spec_DocFind.mono _ _ _
      | exact LeO.none _
      | refine LeO.ite ?_ ?_
      | refine LeO.bind ?_ (fun _ => ?_)
    · intro y0 y1 y2 y3 y4 y5 y6 y7 y8 y9 y10 y11
      unfold laws_FnBindRoads.j3
      repeat' first
      | (with_reducible exact ih0 _ _ _ _ _ _ _ _ _ _ _)
      | (with_reducible exact ih1 _ _ _ _ _ _ _ _ _ _ _)
      | (with_reducible exact ih2 _ _ _ _ _ _ _ _ _ _ _ _ _ _ _)
      | (with_reducible exact ih3 _ _ _ _ _ _ _ _ _ _ _ _)
      | (with_reducible exact impl_RawElementValue.mono _ _)
      | (with_reducible exact impl_RawElements.mono _ _)
      | (with_reducible exact impl_RawLookup.mono _ _ _)
      | (with_reducible exact laws_bindDoc.mono _ _ _ _ _ _ _ _ _)
      | (with_reducible exact spec_DocFind.mono _ _ _)
      | (with_reducible exact LeO.refl _)
      | (with_reducible exact LeO.none _)
      | (with_reducible refine LeO.ite ?_ ?_)
      | (with_reducible refine LeO.bind ?_ (fun _ => ?_))
      | exact ih0 _ _ _ _ _ _ _ _ _ _ _
      | exact ih1 _ _ _ _ _ _ _ _ _ _ _
      | exact ih2 _ _ _ _ _ _ _ _ _ _ _ _ _ _ _
      | exact ih3 _ _ _ _ _ _ _ _ _ _ _ _
      | exact impl_RawElementValue.mono _ _
      | exact impl_RawElements.mono _ _
      | exact impl_RawLookup.mono _ _ _
      | exact laws_bindDoc.mono _ _ _ _ _ _ _ _ _
      | exact spec_DocFind.mono _ _ _
      | exact LeO.none _
      | refine LeO.ite ?_ ?_
      | refine LeO.bind ?_ (fun _ => ?_)
theorem laws_FnBindRoads.mono : ∀ a0 a1 a2 a3 a4 a5 a6 a7 k, LeO (laws_FnBindRoads.f k a0 a1 a2 a3 a4 a5 a6 a7) (laws_FnBindRoads.f (k + 1) a0 a1 a2 a3 a4 a5 a6 a7) := by
  intro a0 a1 a2 a3 a4 a5 a6 a7 k
  obtain ⟨ih0, ih1, ih2, ih3⟩ := laws_FnBindRoads.mono_l k
  unfold laws_FnBindRoads.f
  repeat' first
      | (with_reducible exact ih0 _ _ _ _ _ _ _ _ _ _ _)
      | (with_reducible exact ih1 _ _ _ _ _ _ _ _ _ _ _)
      | (with_reducible exact ih2 _ _ _ _ _ _ _ _ _ _ _ _ _ _ _)
      | (with_reducible exact ih3 _ _ _ _ _ _ _ _ _ _ _ _)
      | (with_reducible exact impl_RawElementValue.mono _ _)
      | (with_reducible exact impl_RawElements.mono _ _)
      | (with_reducible exact impl_RawLookup.mono _ _ _)
      | (with_reducible exact laws_bindDoc.mono _ _ _ _ _ _ _ _ _)
      | (with_reducible exact spec_DocFind.mono _ _ _)
      | (with_reducible exact LeO.refl _)
      | (with_reducible exact LeO.none _)
      | (with_reducible refine LeO.ite ?_ ?_)
      | (with_reducible refine LeO.bind ?_ (fun _ => ?_))
      | exact ih0 _ _ _ _ _ _ _ _ _ _ _
      | exact ih1 _ _ _ _ _ _ _ _ _ _ _
      | exact ih2 _ _ _ _ _ _ _ _ _ _ _ _ _ _ _
      | exact ih3 _ _ _ _ _ _ _ _ _ _ _ _
      | exact impl_RawElementValue.mono _ _
      | exact impl_RawElements.mono _ _
      | exact impl_RawLookup.mono _ _ _
      | exact laws_bindDoc.mono _ _ _ _ _ _ _ _ _
      | exact spec_DocFind.mono _ _ _
      | exact LeO.none _
      | refine LeO.ite ?_ ?_
      | refine LeO.bind ?_ (fun _ => ?_)
set_option maxHeartbeats 8000000 in
set_option maxRecDepth 100000 in
theorem laws_FnBindRoads.calls (k : Nat) (a0_0 : Int) (a0_1 : ByteArray) (a0_2 : ByteArray) (a0_3 : Int) (a0_4 : Int) (a0_5 : Int) (A0_6 : Option Addr) (c0_6 : Nat) (l0_6 : List Int) (A0_7 : Option Addr) (c0_7 : Nat) (l0_7 : List (S34)) (r : Bool) (w : World) (hr0_6 : Kd.C (Kd.int .u8) w A0_6 l0_6.length l0_6) (hc0_6 : l0_6.length ≤ c0_6) (hr0_7 : Kd.C k34 w A0_7 l0_7.length l0_7) (hc0_7 : l0_7.length ≤ c0_7) (h : laws_FnBindRoads.f k a0_0 a0_1 a0_2 a0_3 a0_4 a0_5 l0_6 l0_7 = some r) :
    Calls Tryd.prog 4 #[.agg #[.int .i64 a0_0, .string a0_1, .string a0_2, .int .i64 a0_3, .int .u64 a0_4, .int .u64 a0_5, .slice A0_6 l0_6.length c0_6, .slice A0_7 l0_7.length c0_7]] w fun e w' => e = .returned (.bool r) ∧ Below w.heap.size w w' := by
  have hu26 := Tryd.underlying26
  have hu36 := Tryd.underlying36
  have HR0_6 := Aside0.mk hr0_6
  have HC0_6 := Aside0.mk hc0_6
  clear hr0_6 hc0_6
  have HR0_7 := Aside0.mk hr0_7
  have HC0_7 := Aside0.mk hc0_7
  clear hr0_7 hc0_7
  have HB := Aside0.mk (Below.refl w.heap.size w)
  have H : ((laws_zzFits1.f a0_0 a0_1 a0_2 a0_3 a0_4 a0_5 l0_6 l0_7).bind fun t740 => (if t740 = true then ((laws_bindDoc.f k a0_0 a0_1 a0_2 a0_3 a0_4 a0_5 l0_6 l0_7).bind fun bt741 => (if bt741.2 = true then ((impl_RawElements.f k bt741.1).bind fun bt745 => (if bt745.2 = true then (laws_FnBindRoads.j0 k bt741.1 bt745.1 ((bt745.1.length : Int) != (l0_7.length : Int)) a0_0 a0_1 a0_2 a0_3 a0_4 a0_5 l0_6 l0_7) else (none))) else (some true))) else (some true))) = some r := h
  clear h
  replace H := Option.bind_eq_some_iff.mp H
  obtain ⟨t740, A20, H⟩ := H
  replace H : (if t740 = true then ((laws_bindDoc.f k a0_0 a0_1 a0_2 a0_3 a0_4 a0_5 l0_6 l0_7).bind fun bt741 => (if bt741.2 = true then ((impl_RawElements.f k bt741.1).bind fun bt745 => (if bt745.2 = true then (laws_FnBindRoads.j0 k bt741.1 bt745.1 ((bt745.1.length : Int) != (l0_7.length : Int)) a0_0 a0_1 a0_2 a0_3 a0_4 a0_5 l0_6 l0_7) else (none))) else (some true))) else (some true)) = some r := H
  have A2 := Aside0.mk A20
  clear A20
  by_cases c3 : t740 = true
  rotate_left
  · replace c3 := Bool.eq_false_iff.mpr c3
    subst c3
    have H1 : (some true) = some r := by rw [if_neg (show ¬ (false = true) by decide)] at H; exact H
    clear H
    have H := H1
    clear H1
    as_aux_lemma =>
      obtain rfl := Option.some.inj H
      go_enter Tryd.func4, Tryd.ntmps4
      go_wp2_with (first | ((with_reducible refine gate_dst (N := 1) rfl ?_); (try (refine gate_guard (by rfl) ?_; dsimp only)); refine box_event ?hg (N := 1) ?hd (cs := #[.int .i64 a0_0, .string a0_1, .string a0_2, .int .i64 a0_3, .int .u64 a0_4, .int .u64 a0_5, .slice A0_6 l0_6.length c0_6, .slice A0_7 l0_7.length c0_7]) (t := 26) ?hr ?_; (case hd => rfl); (case hg => rfl); (case hr => first | (go_simp; done) | (go_simp; rfl)); intro gb739 hg w70 hbox hb; have n0_ := Aside0.mk (below_step HW.zb hb); have n1_ := Aside0.mk (hbox); have n3_ := Aside0.mk ((by rw [hg]; exact (below_size HW.zb) : w.heap.size ≤ gb739)); clear HB; have HB := n0_; have BK739 := n1_; have GE739 := n3_; clear n0_ n1_ n3_; clear hb hbox hg; have hcz71_0 := HW.zc BK739.out 0 (.int .i64 a0_0); have hcz71_1 := HW.zc BK739.out 1 (.string a0_1); have hcz71_2 := HW.zc BK739.out 2 (.string a0_2); have hcz71_3 := HW.zc BK739.out 3 (.int .i64 a0_3); have hcz71_4 := HW.zc BK739.out 4 (.int .u64 a0_4); have hcz71_5 := HW.zc BK739.out 5 (.int .u64 a0_5); have hcz71_6 := HW.zc BK739.out 6 (.slice A0_6 l0_6.length c0_6); have hcz71_7 := HW.zc BK739.out 7 (.slice A0_7 l0_7.length c0_7)) | ((with_reducible refine gate_callee (f := 5) rfl ?_); refine HW.gz (some 16) rfl rfl Tryd.func5 (by kernel_rfl) rfl #[.agg #[.int .i64 a0_0, .string a0_1, .string a0_2, .int .i64 a0_3, .int .u64 a0_4, .int .u64 a0_5, .slice A0_6 l0_6.length c0_6, .slice A0_7 l0_7.length c0_7]] rfl ?_; (with_reducible refine (laws_zzFits1.calls a0_0 a0_1 a0_2 a0_3 a0_4 a0_5 _ _ l0_6 _ _ l0_7 false _ ?side1 ?side2 ?side3 ?side4 A2.out).mono ?_); (case side1 => repeat (first | exact (Kd.C_below HR0_6.out HB.out) | (with_reducible refine Kd.C_alloc ?_ _) | (with_reducible refine Kd.C_drewN ?_ _) | (with_reducible refine Kd.C_drew ?_))); (case side2 => exact HC0_6.out); (case side3 => repeat (first | exact (Kd.C_below HR0_7.out HB.out) | (with_reducible refine Kd.C_alloc ?_ _) | (with_reducible refine Kd.C_drewN ?_ _) | (with_reducible refine Kd.C_drew ?_))); (case side4 => exact HC0_7.out); rintro e w72 ⟨rfl, hb⟩; refine ⟨_, rfl, ?_⟩; have n0_ := Aside0.mk (blk_below (g := gb739) (o := .cells #[.int .i64 a0_0, .string a0_1, .string a0_2, .int .i64 a0_3, .int .u64 a0_4, .int .u64 a0_5, .slice A0_6 l0_6.length c0_6, .slice A0_7 l0_7.length c0_7] 26 (0, 0)) (HW.zB BK739.out) hb); have n1_ := Aside0.mk (below_step HW.zb hb); clear BK739; clear HB; have BK739 := n0_; have HB := n1_; clear n0_ n1_; (try clear hb); (try clear hb2); (try clear hk); (try clear hi)))
      go_ret
      exact ⟨by first | rfl | (simp [errW_none, errW_some] <;> rfl) | (simp [*, errW_none, errW_some] <;> rfl), HW.zb⟩
  subst c3
  have H1 : ((laws_bindDoc.f k a0_0 a0_1 a0_2 a0_3 a0_4 a0_5 l0_6 l0_7).bind fun bt741 => (if bt741.2 = true then ((impl_RawElements.f k bt741.1).bind fun bt745 => (if bt745.2 = true then (laws_FnBindRoads.j0 k bt741.1 bt745.1 ((bt745.1.length : Int) != (l0_7.length : Int)) a0_0 a0_1 a0_2 a0_3 a0_4 a0_5 l0_6 l0_7) else (none))) else (some true))) = some r := by rw [if_pos rfl] at H; exact H
  clear H
  have H := H1
  clear H1
  replace H := Option.bind_eq_some_iff.mp H
  obtain ⟨⟨t741, t744⟩, A40, H⟩ := H
  replace H : (if t744 = true then ((impl_RawElements.f k t741).bind fun bt745 => (if bt745.2 = true then (laws_FnBindRoads.j0 k t741 bt745.1 ((bt745.1.length : Int) != (l0_7.length : Int)) a0_0 a0_1 a0_2 a0_3 a0_4 a0_5 l0_6 l0_7) else (none))) else (some true)) = some r := H
  have A4 := Aside0.mk A40
  clear A40
  by_cases c5 : t744 = true
  rotate_left
  · replace c5 := Bool.eq_false_iff.mpr c5
    subst c5
    have H1 : (some true) = some r := by rw [if_neg (show ¬ (false = true) by decide)] at H; exact H
    clear H
    have H := H1
    clear H1
    as_aux_lemma =>
      obtain rfl := Option.some.inj H
      go_enter Tryd.func4, Tryd.ntmps4
      go_wp2_with (first | ((with_reducible refine gate_dst (N := 1) rfl ?_); (try (refine gate_guard (by rfl) ?_; dsimp only)); refine box_event ?hg (N := 1) ?hd (cs := #[.int .i64 a0_0, .string a0_1, .string a0_2, .int .i64 a0_3, .int .u64 a0_4, .int .u64 a0_5, .slice A0_6 l0_6.length c0_6, .slice A0_7 l0_7.length c0_7]) (t := 26) ?hr ?_; (case hd => rfl); (case hg => rfl); (case hr => first | (go_simp; done) | (go_simp; rfl)); intro gb739 hg w65 hbox hb; have n0_ := Aside0.mk (below_step HW.zb hb); have n1_ := Aside0.mk (hbox); have n3_ := Aside0.mk ((by rw [hg]; exact (below_size HW.zb) : w.heap.size ≤ gb739)); clear HB; have HB := n0_; have BK739 := n1_; have GE739 := n3_; clear n0_ n1_ n3_; clear hb hbox hg; have hcz66_0 := HW.zc BK739.out 0 (.int .i64 a0_0); have hcz66_1 := HW.zc BK739.out 1 (.string a0_1); have hcz66_2 := HW.zc BK739.out 2 (.string a0_2); have hcz66_3 := HW.zc BK739.out 3 (.int .i64 a0_3); have hcz66_4 := HW.zc BK739.out 4 (.int .u64 a0_4); have hcz66_5 := HW.zc BK739.out 5 (.int .u64 a0_5); have hcz66_6 := HW.zc BK739.out 6 (.slice A0_6 l0_6.length c0_6); have hcz66_7 := HW.zc BK739.out 7 (.slice A0_7 l0_7.length c0_7)) | ((with_reducible refine gate_callee (f := 5) rfl ?_); refine HW.gz (some 16) rfl rfl Tryd.func5 (by kernel_rfl) rfl #[.agg #[.int .i64 a0_0, .string a0_1, .string a0_2, .int .i64 a0_3, .int .u64 a0_4, .int .u64 a0_5, .slice A0_6 l0_6.length c0_6, .slice A0_7 l0_7.length c0_7]] rfl ?_; (with_reducible refine (laws_zzFits1.calls a0_0 a0_1 a0_2 a0_3 a0_4 a0_5 _ _ l0_6 _ _ l0_7 true _ ?side1 ?side2 ?side3 ?side4 A2.out).mono ?_); (case side1 => repeat (first | exact (Kd.C_below HR0_6.out HB.out) | (with_reducible refine Kd.C_alloc ?_ _) | (with_reducible refine Kd.C_drewN ?_ _) | (with_reducible refine Kd.C_drew ?_))); (case side2 => exact HC0_6.out); (case side3 => repeat (first | exact (Kd.C_below HR0_7.out HB.out) | (with_reducible refine Kd.C_alloc ?_ _) | (with_reducible refine Kd.C_drewN ?_ _) | (with_reducible refine Kd.C_drew ?_))); (case side4 => exact HC0_7.out); rintro e w67 ⟨rfl, hb⟩; refine ⟨_, rfl, ?_⟩; have n0_ := Aside0.mk (blk_below (g := gb739) (o := .cells #[.int .i64 a0_0, .string a0_1, .string a0_2, .int .i64 a0_3, .int .u64 a0_4, .int .u64 a0_5, .slice A0_6 l0_6.length c0_6, .slice A0_7 l0_7.length c0_7] 26 (0, 0)) (HW.zB BK739.out) hb); have n1_ := Aside0.mk (below_step HW.zb hb); clear BK739; clear HB; have BK739 := n0_; have HB := n1_; clear n0_ n1_; (try clear hb); (try clear hb2); (try clear hk); (try clear hi); have hcz68_0 := HW.zc BK739.out 0 (.int .i64 a0_0); have hcz68_1 := HW.zc BK739.out 1 (.string a0_1); have hcz68_2 := HW.zc BK739.out 2 (.string a0_2); have hcz68_3 := HW.zc BK739.out 3 (.int .i64 a0_3); have hcz68_4 := HW.zc BK739.out 4 (.int .u64 a0_4); have hcz68_5 := HW.zc BK739.out 5 (.int .u64 a0_5); have hcz68_6 := HW.zc BK739.out 6 (.slice A0_6 l0_6.length c0_6); have hcz68_7 := HW.zc BK739.out 7 (.slice A0_7 l0_7.length c0_7)) | ((with_reducible refine gate_callee (f := 6) rfl ?_); refine HW.gz (some 20) rfl rfl Tryd.func6 (by kernel_rfl) rfl #[.agg #[.int .i64 a0_0, .string a0_1, .string a0_2, .int .i64 a0_3, .int .u64 a0_4, .int .u64 a0_5, .slice A0_6 l0_6.length c0_6, .slice A0_7 l0_7.length c0_7]] rfl ?_; (with_reducible refine (laws_bindDoc.calls k a0_0 a0_1 a0_2 a0_3 a0_4 a0_5 _ _ l0_6 _ _ l0_7 t741 false _ ?side1 ?side2 ?side3 ?side4 A4.out).mono ?_); (case side1 => repeat (first | exact (Kd.C_below HR0_6.out HB.out) | (with_reducible refine Kd.C_alloc ?_ _) | (with_reducible refine Kd.C_drewN ?_ _) | (with_reducible refine Kd.C_drew ?_))); (case side2 => exact HC0_6.out); (case side3 => repeat (first | exact (Kd.C_below HR0_7.out HB.out) | (with_reducible refine Kd.C_alloc ?_ _) | (with_reducible refine Kd.C_drewN ?_ _) | (with_reducible refine Kd.C_drew ?_))); (case side4 => exact HC0_7.out); rintro e w69 ⟨v742, rfl, ho0, hb⟩; refine ⟨_, rfl, ?_⟩; have n0_ := Aside0.mk (Kd.R_lower ho0 (below_size HW.zb)); have n1_ := Aside0.mk (blk_below (g := gb739) (o := .cells #[.int .i64 a0_0, .string a0_1, .string a0_2, .int .i64 a0_3, .int .u64 a0_4, .int .u64 a0_5, .slice A0_6 l0_6.length c0_6, .slice A0_7 l0_7.length c0_7] 26 (0, 0)) (HW.zB BK739.out) hb); have n2_ := Aside0.mk (below_step HW.zb hb); clear BK739; clear HB; have HO743 := n0_; have BK739 := n1_; have HB := n2_; clear n0_ n1_ n2_; (try clear hb); (try clear hb2); (try clear hk); (try clear hi); (try clear ho0)))
      go_ret
      exact ⟨by first | rfl | (simp [errW_none, errW_some] <;> rfl) | (simp [*, errW_none, errW_some] <;> rfl), HW.zb⟩
  subst c5
  have H1 : ((impl_RawElements.f k t741).bind fun bt745 => (if bt745.2 = true then (laws_FnBindRoads.j0 k t741 bt745.1 ((bt745.1.length : Int) != (l0_7.length : Int)) a0_0 a0_1 a0_2 a0_3 a0_4 a0_5 l0_6 l0_7) else (none))) = some r := by rw [if_pos rfl] at H; exact H
  clear H
  have H := H1
  clear H1
  replace H := Option.bind_eq_some_iff.mp H
  obtain ⟨⟨t745, t748⟩, A60, H⟩ := H
  replace H : (if t748 = true then (laws_FnBindRoads.j0 k t741 t745 ((t745.length : Int) != (l0_7.length : Int)) a0_0 a0_1 a0_2 a0_3 a0_4 a0_5 l0_6 l0_7) else (none)) = some r := H
  have A6 := Aside0.mk A60
  clear A60
  have HC7 := Aside0.mk H
  clear H
  go_enter Tryd.func4, Tryd.ntmps4
  go_upto_region 7 with (first | ((with_reducible refine gate_dst (N := 1) rfl ?_); (try (refine gate_guard (by rfl) ?_; dsimp only)); refine box_event ?hg (N := 1) ?hd (cs := #[.int .i64 a0_0, .string a0_1, .string a0_2, .int .i64 a0_3, .int .u64 a0_4, .int .u64 a0_5, .slice A0_6 l0_6.length c0_6, .slice A0_7 l0_7.length c0_7]) (t := 26) ?hr ?_; (case hd => rfl); (case hg => rfl); (case hr => first | (go_simp; done) | (go_simp; rfl)); intro gb739 hg w8 hbox hb; have n0_ := Aside0.mk (below_step HW.zb hb); have n1_ := Aside0.mk (hbox); have n3_ := Aside0.mk ((by rw [hg]; exact (below_size HW.zb) : w.heap.size ≤ gb739)); clear HB; have HB := n0_; have BK739 := n1_; have GE739 := n3_; clear n0_ n1_ n3_; clear hb hbox hg; have hcz9_0 := HW.zc BK739.out 0 (.int .i64 a0_0); have hcz9_1 := HW.zc BK739.out 1 (.string a0_1); have hcz9_2 := HW.zc BK739.out 2 (.string a0_2); have hcz9_3 := HW.zc BK739.out 3 (.int .i64 a0_3); have hcz9_4 := HW.zc BK739.out 4 (.int .u64 a0_4); have hcz9_5 := HW.zc BK739.out 5 (.int .u64 a0_5); have hcz9_6 := HW.zc BK739.out 6 (.slice A0_6 l0_6.length c0_6); have hcz9_7 := HW.zc BK739.out 7 (.slice A0_7 l0_7.length c0_7)) | ((with_reducible refine gate_callee (f := 5) rfl ?_); refine HW.gz (some 16) rfl rfl Tryd.func5 (by kernel_rfl) rfl #[.agg #[.int .i64 a0_0, .string a0_1, .string a0_2, .int .i64 a0_3, .int .u64 a0_4, .int .u64 a0_5, .slice A0_6 l0_6.length c0_6, .slice A0_7 l0_7.length c0_7]] rfl ?_; (with_reducible refine (laws_zzFits1.calls a0_0 a0_1 a0_2 a0_3 a0_4 a0_5 _ _ l0_6 _ _ l0_7 true _ ?side1 ?side2 ?side3 ?side4 A2.out).mono ?_); (case side1 => repeat (first | exact (Kd.C_below HR0_6.out HB.out) | (with_reducible refine Kd.C_alloc ?_ _) | (with_reducible refine Kd.C_drewN ?_ _) | (with_reducible refine Kd.C_drew ?_))); (case side2 => exact HC0_6.out); (case side3 => repeat (first | exact (Kd.C_below HR0_7.out HB.out) | (with_reducible refine Kd.C_alloc ?_ _) | (with_reducible refine Kd.C_drewN ?_ _) | (with_reducible refine Kd.C_drew ?_))); (case side4 => exact HC0_7.out); rintro e w10 ⟨rfl, hb⟩; refine ⟨_, rfl, ?_⟩; have n0_ := Aside0.mk (blk_below (g := gb739) (o := .cells #[.int .i64 a0_0, .string a0_1, .string a0_2, .int .i64 a0_3, .int .u64 a0_4, .int .u64 a0_5, .slice A0_6 l0_6.length c0_6, .slice A0_7 l0_7.length c0_7] 26 (0, 0)) (HW.zB BK739.out) hb); have n1_ := Aside0.mk (below_step HW.zb hb); clear BK739; clear HB; have BK739 := n0_; have HB := n1_; clear n0_ n1_; (try clear hb); (try clear hb2); (try clear hk); (try clear hi); have hcz11_0 := HW.zc BK739.out 0 (.int .i64 a0_0); have hcz11_1 := HW.zc BK739.out 1 (.string a0_1); have hcz11_2 := HW.zc BK739.out 2 (.string a0_2); have hcz11_3 := HW.zc BK739.out 3 (.int .i64 a0_3); have hcz11_4 := HW.zc BK739.out 4 (.int .u64 a0_4); have hcz11_5 := HW.zc BK739.out 5 (.int .u64 a0_5); have hcz11_6 := HW.zc BK739.out 6 (.slice A0_6 l0_6.length c0_6); have hcz11_7 := HW.zc BK739.out 7 (.slice A0_7 l0_7.length c0_7)) | ((with_reducible refine gate_callee (f := 6) rfl ?_); refine HW.gz (some 20) rfl rfl Tryd.func6 (by kernel_rfl) rfl #[.agg #[.int .i64 a0_0, .string a0_1, .string a0_2, .int .i64 a0_3, .int .u64 a0_4, .int .u64 a0_5, .slice A0_6 l0_6.length c0_6, .slice A0_7 l0_7.length c0_7]] rfl ?_; (with_reducible refine (laws_bindDoc.calls k a0_0 a0_1 a0_2 a0_3 a0_4 a0_5 _ _ l0_6 _ _ l0_7 t741 true _ ?side1 ?side2 ?side3 ?side4 A4.out).mono ?_); (case side1 => repeat (first | exact (Kd.C_below HR0_6.out HB.out) | (with_reducible refine Kd.C_alloc ?_ _) | (with_reducible refine Kd.C_drewN ?_ _) | (with_reducible refine Kd.C_drew ?_))); (case side2 => exact HC0_6.out); (case side3 => repeat (first | exact (Kd.C_below HR0_7.out HB.out) | (with_reducible refine Kd.C_alloc ?_ _) | (with_reducible refine Kd.C_drewN ?_ _) | (with_reducible refine Kd.C_drew ?_))); (case side4 => exact HC0_7.out); rintro e w12 ⟨v742, rfl, ho0, hb⟩; refine ⟨_, rfl, ?_⟩; have n0_ := Aside0.mk (Kd.R_lower ho0 (below_size HW.zb)); have n1_ := Aside0.mk (blk_below (g := gb739) (o := .cells #[.int .i64 a0_0, .string a0_1, .string a0_2, .int .i64 a0_3, .int .u64 a0_4, .int .u64 a0_5, .slice A0_6 l0_6.length c0_6, .slice A0_7 l0_7.length c0_7] 26 (0, 0)) (HW.zB BK739.out) hb); have n2_ := Aside0.mk (below_step HW.zb hb); clear BK739; clear HB; have HO743 := n0_; have BK739 := n1_; have HB := n2_; clear n0_ n1_ n2_; (try clear hb); (try clear hb2); (try clear hk); (try clear hi); (try clear ho0); obtain ⟨Ao13, co13, eo13⟩ := Kd.R_slice HO743.out; subst eo13) | ((with_reducible refine gate_callee (f := 13) rfl ?_); refine HW.gz (some 27) rfl rfl Tryd.func13 (by kernel_rfl) rfl #[.slice Ao13 t741.length co13] rfl ?_; (with_reducible refine (impl_RawElements.calls k (fun k_ => some k_ = (.slice Ao13 t741.length co13 : Value).ownBlock) _ _ t741 t745 t748 _ ?side1 A6.out).mono ?_); (case side1 => exact Kd.R_V (Kd.R_tight rfl (Kd.R_types (HO743.out) BK739.out (by decide)))); rintro e w14 ⟨v746, rfl, ho0, hb⟩; refine ⟨_, rfl, ?_⟩; have n0_ := Aside0.mk (Kd.R_below (HW.zR HO743.out) hb); have n1_ := Aside0.mk (Kd.N_lower (Kd.N_mono (ok' := fun k_ => k_ ≠ gb739) ho0 (fun k_ hk_ => Or.elim hk_ (fun hs_ => ((Kd.R_types (HO743.out) BK739.out (by decide)).1 k_ hs_.symm).2) (fun hn_ => (Kd.freshB (g := gb739) (o := .cells #[.int .i64 a0_0, .string a0_1, .string a0_2, .int .i64 a0_3, .int .u64 a0_4, .int .u64 a0_5, .slice A0_6 l0_6.length c0_6, .slice A0_7 l0_7.length c0_7] 26 (0, 0)) (HW.zB BK739.out) k_ hn_)))) (below_size HW.zb)); have n2_ := Aside0.mk (blk_below (g := gb739) (o := .cells #[.int .i64 a0_0, .string a0_1, .string a0_2, .int .i64 a0_3, .int .u64 a0_4, .int .u64 a0_5, .slice A0_6 l0_6.length c0_6, .slice A0_7 l0_7.length c0_7] 26 (0, 0)) (HW.zB BK739.out) hb); have n3_ := Aside0.mk (below_step HW.zb hb); clear HO743; clear BK739; clear HB; have HO743 := n0_; have HO747 := n1_; have BK739 := n2_; have HB := n3_; clear n0_ n1_ n2_ n3_; (try clear hb); (try clear hb2); (try clear hk); (try clear hi); (try clear ho0)))
  (try simp only [Act.put, List.setIfInBounds_toArray, List.set_cons_zero, List.set_cons_succ])
  go_cut [39] (fun v39 wc => ∃ (kq : Nat) (x39_6 : Bool), v39 = .bool x39_6 ∧ Aside0 (laws_FnBindRoads.j0 kq t741 t745 x39_6 a0_0 a0_1 a0_2 a0_3 a0_4 a0_5 l0_6 l0_7 = some r) ∧ Aside0 (kq ≤ k) ∧ Aside0 (Kd.R (Kd.int .u8) 5 wc w.heap.size (fun _ => True) (.slice Ao13 t741.length co13) t741) ∧ Aside0 (Kd.N (Kd.slice 5 (Kd.int .u8)) 23 wc w.heap.size (fun k_ => k_ ≠ gb739) v746 t745) ∧ Aside0 (wc.heap[gb739]? = some (.cells #[.int .i64 a0_0, .string a0_1, .string a0_2, .int .i64 a0_3, .int .u64 a0_4, .int .u64 a0_5, (.slice A0_6 l0_6.length c0_6), (.slice A0_7 l0_7.length c0_7)] 26 (0, 0))) ∧ Aside0 (Below w.heap.size w wc))
  case first =>
    have H := HC7.out
    clear HC7
    by_cases c15 : t748 = true
    rotate_left
    · replace c15 := Bool.eq_false_iff.mpr c15
      subst c15
      have H1 : (none) = some r := by rw [if_neg (show ¬ (false = true) by decide)] at H; exact H
      clear H
      have H := H1
      clear H1
      exact absurd H (by simp)
    subst c15
    have H1 : (laws_FnBindRoads.j0 k t741 t745 ((t745.length : Int) != (l0_7.length : Int)) a0_0 a0_1 a0_2 a0_3 a0_4 a0_5 l0_6 l0_7) = some r := by rw [if_pos rfl] at H; exact H
    clear H
    have H := H1
    clear H1
    as_aux_lemma =>
      have H' := Aside0.mk H
      clear H
      obtain ⟨Ao16, co16, eo16⟩ := Kd.N_slice HO747.out
      subst eo16
      have hcz17_0 := HW.zc BK739.out 0 (.int .i64 a0_0)
      have hcz17_1 := HW.zc BK739.out 1 (.string a0_1)
      have hcz17_2 := HW.zc BK739.out 2 (.string a0_2)
      have hcz17_3 := HW.zc BK739.out 3 (.int .i64 a0_3)
      have hcz17_4 := HW.zc BK739.out 4 (.int .u64 a0_4)
      have hcz17_5 := HW.zc BK739.out 5 (.int .u64 a0_5)
      have hcz17_6 := HW.zc BK739.out 6 (.slice A0_6 l0_6.length c0_6)
      have hcz17_7 := HW.zc BK739.out 7 (.slice A0_7 l0_7.length c0_7)
      go_wp2
      go_meet
      case rel => exact ⟨_, (((t745.length : Int) != (l0_7.length : Int))), (by first | rfl | (simp; done) | (simp [*]; done)), H', ⟨by first | omega | exact Nat.le_refl _⟩, ⟨HW.zR HO743.out⟩, ⟨by (with_reducible repeat (first | apply Kd.N_alloc | apply Kd.N_drewN | apply Kd.N_drew)); exact HO747.out⟩, ⟨by (with_reducible repeat (first | refine blk_drewN ?_ _ | refine blk_drew ?_ | refine blk_alloc ?_ _)); exact BK739.out⟩, ⟨HW.zb⟩⟩
  case rest =>
    clear HC7
    try clear c1
    try clear p2
    try clear c3
    try clear c4
    try clear c5
    try clear c6
    try clear c13
    try clear c15
    try clear hcz11_0
    try clear hcz11_1
    try clear hcz11_2
    try clear hcz11_3
    try clear hcz11_4
    try clear hcz11_5
    try clear hcz11_6
    try clear hcz11_7
    try clear hcz17_0
    try clear hcz17_1
    try clear hcz17_2
    try clear hcz17_3
    try clear hcz17_4
    try clear hcz17_5
    try clear hcz17_6
    try clear hcz17_7
    try clear hcz9_0
    try clear hcz9_1
    try clear hcz9_2
    try clear hcz9_3
    try clear hcz9_4
    try clear hcz9_5
    try clear hcz9_6
    try clear hcz9_7
    obtain ⟨kq, x39_6, rfl, HA, HJ6, HO_3, HO_5, BK739, HB⟩ := hcut
    cases kq with
    | zero => exact absurd HA.out (by simp [laws_FnBindRoads.j0])
    | succ kj6 =>
      have H := HA.out
      clear HA
      simp only [laws_FnBindRoads.j0] at H
      by_cases c18 : x39_6 = true
      · subst c18
        have H1 : (none) = some r := by rw [if_pos rfl] at H; exact H
        clear H
        have H := H1
        clear H1
        exact absurd H (by simp)
      replace c18 := Bool.eq_false_iff.mpr c18
      subst c18
      have H1 : (laws_FnBindRoads.l0 kj6 t741 t745 0 a0_0 a0_1 a0_2 a0_3 a0_4 a0_5 l0_6 l0_7) = some r := by rw [if_neg (show ¬ (false = true) by decide)] at H; exact H
      clear H
      have H := H1
      clear H1
      have H' := Aside0.mk H
      clear H
      go_wp2
      go_loopg [7] kj6 (fun kq v7 w' => ∃ (x7_2 : Int), v7 = .int .i64 x7_2 ∧ Aside0 (laws_FnBindRoads.l0 kq t741 t745 x7_2 a0_0 a0_1 a0_2 a0_3 a0_4 a0_5 l0_6 l0_7 = some r) ∧ Aside0 (kq ≤ kj6) ∧ Aside0 (Kd.R (Kd.int .u8) 5 w' w.heap.size (fun _ => True) (.slice Ao13 t741.length co13) t741) ∧ Aside0 (Kd.N (Kd.slice 5 (Kd.int .u8)) 23 w' w.heap.size (fun k_ => k_ ≠ gb739) v746 t745) ∧ Aside0 (w'.heap[gb739]? = some (.cells #[.int .i64 a0_0, .string a0_1, .string a0_2, .int .i64 a0_3, .int .u64 a0_4, .int .u64 a0_5, (.slice A0_6 l0_6.length c0_6), (.slice A0_7 l0_7.length c0_7)] 26 (0, 0))) ∧ Aside0 (Below w.heap.size w w'))
      case atStart => exact ⟨(0), (by first | rfl | (simp; done) | (simp [*]; done)), H', ⟨Nat.le_refl _⟩, ⟨HW.zR HO_3.out⟩, ⟨by (with_reducible repeat (first | apply Kd.N_alloc | apply Kd.N_drewN | apply Kd.N_drew)); exact HO_5.out⟩, ⟨by (with_reducible repeat (first | refine blk_drewN ?_ _ | refine blk_drew ?_ | refine blk_alloc ?_ _)); exact BK739.out⟩, ⟨HW.zb⟩⟩
      case round =>
        clear H'
        try clear c1
        try clear p2
        try clear c3
        try clear c4
        try clear c5
        try clear c6
        try clear c13
        try clear c15
        try clear c18
        try clear hcz11_0
        try clear hcz11_1
        try clear hcz11_2
        try clear hcz11_3
        try clear hcz11_4
        try clear hcz11_5
        try clear hcz11_6
        try clear hcz11_7
        try clear hcz17_0
        try clear hcz17_1
        try clear hcz17_2
        try clear hcz17_3
        try clear hcz17_4
        try clear hcz17_5
        try clear hcz17_6
        try clear hcz17_7
        try clear hcz9_0
        try clear hcz9_1
        try clear hcz9_2
        try clear hcz9_3
        try clear hcz9_4
        try clear hcz9_5
        try clear hcz9_6
        try clear hcz9_7
        try clear p2
        obtain ⟨x7_2, rfl, HA, HK2, HO_3, HO_5, BK739, HB⟩ := hrel
        cases gk with
        | zero => exact absurd HA.out (by simp [laws_FnBindRoads.l0])
        | succ k2 =>
          have H := HA.out
          clear HA
          simp only [laws_FnBindRoads.l0] at H
          by_cases c19 : x7_2 < (t745.length : Int)
          rotate_left
          · rw [if_neg c19] at H
            have c19b0 : decide (x7_2 < (t745.length : Int)) = false := decide_eq_false c19
            clear c19
            as_aux_lemma =>
              obtain rfl := Option.some.inj H
              obtain ⟨Ao64, co64, eo64⟩ := Kd.N_slice HO_5.out
              subst eo64
              go_wp2
              go_ret
              exact ⟨by first | rfl | (simp [errW_none, errW_some] <;> rfl) | (simp [*, errW_none, errW_some] <;> rfl), HW.zb⟩
          rw [if_pos c19] at H
          have c19b0 : decide (x7_2 < (t745.length : Int)) = true := decide_eq_true c19
          clear c19
          by_cases c20 : 0 ≤ x7_2
          rotate_left
          · rw [if_neg c20] at H
            exact absurd H (by simp)
          rw [if_pos c20] at H
          have c20b0 : decide (0 ≤ x7_2) = true := decide_eq_true c20
          clear c20
          replace H := Option.bind_eq_some_iff.mp H
          obtain ⟨⟨t750, t751⟩, A210, H⟩ := H
          replace H : ((impl_RawElementValue.f k2 (rd_L4 t745 x7_2)).bind fun bt753 => (if t751 = 0 then (if bt753.2.2 = 0 then (if x7_2 < (l0_7.length : Int) then (laws_FnBindRoads.j2 k2 t741 t745 x7_2 t750 (t750.toList != ((rd_T34 l0_7 x7_2).f0).toList) a0_0 a0_1 a0_2 a0_3 a0_4 a0_5 l0_6 l0_7 bt753.1 bt753.2.1) else (none)) else (none)) else (none))) = some r := H
          have A21 := Aside0.mk A210
          clear A210
          replace H := Option.bind_eq_some_iff.mp H
          obtain ⟨⟨t753, t754, t757⟩, A220, H⟩ := H
          replace H : (if t751 = 0 then (if t757 = 0 then (if x7_2 < (l0_7.length : Int) then (laws_FnBindRoads.j2 k2 t741 t745 x7_2 t750 (t750.toList != ((rd_T34 l0_7 x7_2).f0).toList) a0_0 a0_1 a0_2 a0_3 a0_4 a0_5 l0_6 l0_7 t753 t754) else (none)) else (none)) else (none)) = some r := H
          have A22 := Aside0.mk A220
          clear A220
          have HC23 := Aside0.mk H
          clear H
          obtain ⟨Ao24, co24, eo24⟩ := Kd.N_slice HO_5.out
          subst eo24
          have p749 : 0 ≤ (x7_2 : Int) := of_decide_eq_true (by first | (with_reducible assumption) | assumption)
          have q749 : x7_2 < (t745.length : Int) := of_decide_eq_true (by first | (with_reducible assumption) | assumption)
          obtain ⟨ad749, A749_0, c749_0, e749, hx749_0, hl749_0, hi749_0⟩ := at_L4 (Kd.N_reads' HO_5.out).2.2 x7_2 p749 q749
          cases e749
          obtain ⟨ce749, hce749, hMe749, hcc749⟩ := Kd.N_get HO_5.out [] x7_2 p749 (by first | exact q749 | exact of_decide_eq_true (by first | (with_reducible assumption) | assumption) | (have e_ := (Kd.N_reads' HO_5.out).1; omega))
          obtain ⟨ua749_0, uc749_0, rfl, ul749_0, ge749_0⟩ := Kd.FK_slice_open hMe749
          have hv749_0 := hcc749 0 _ rfl
          rw [Nat.add_zero, show ((Kd.slice 5 (Kd.int .u8))).sz = 1 from rfl, Nat.mul_one] at hv749_0
          replace hv749_0 := Option.some.inj (hv749_0.symm.trans hx749_0)
          injection hv749_0 with hva_ hvn_ hvc_
          rw [hva_] at ge749_0
          rw [hvc_] at ul749_0
          have HL749_0 := Aside0.mk (show Kd.V (Kd.int .u8) 5 _ w.heap.size _ _ (rd_L4 t745 x7_2) from Kd.V_mk ul749_0 ge749_0)
          clear hva_ hvn_ hvc_ ge749_0 ul749_0
          clear hcc749 hce749
          have HR749_0 := Aside0.mk hi749_0
          have HC749_0 := Aside0.mk hl749_0
          clear hi749_0 hl749_0
          replace p749 := eq_true p749
          replace q749 := eq_true q749
          go_upto_region 14 with (first | ((with_reducible refine gate_callee (f := 14) rfl ?_); refine HW.gz (some 51) rfl rfl Tryd.func14 (by kernel_rfl) rfl #[.slice A749_0 (rd_L4 t745 x7_2).length c749_0] rfl ?_; (with_reducible refine (impl_RawKey.calls _ _ (rd_L4 t745 x7_2) t750 t751 _ ?side1 ?side2 A21.out).mono ?_); (case side1 => repeat (first | exact (by repeat (first | (with_reducible exact HR749_0.out) | (with_reducible refine Kd.C_alloc ?_ _) | (with_reducible refine Kd.C_drewN ?_ _) | (with_reducible refine Kd.C_drew ?_) | exact HR749_0.out)) | (with_reducible refine Kd.C_alloc ?_ _) | (with_reducible refine Kd.C_drewN ?_ _) | (with_reducible refine Kd.C_drew ?_))); (case side2 => exact HC749_0.out); rintro e w25 ⟨rfl, hb⟩; refine ⟨_, rfl, ?_⟩; have n0_ := Aside0.mk (Kd.R_below (HW.zR HO_3.out) hb); have n1_ := Aside0.mk (Kd.N_below (by (with_reducible repeat (first | apply Kd.N_alloc | apply Kd.N_drewN | apply Kd.N_drew)); exact HO_5.out) hb); have n2_ := Aside0.mk (Kd.V_below (HW.zV HL749_0.out) hb); have n3_ := Aside0.mk (blk_below (g := gb739) (o := .cells #[.int .i64 a0_0, .string a0_1, .string a0_2, .int .i64 a0_3, .int .u64 a0_4, .int .u64 a0_5, .slice A0_6 l0_6.length c0_6, .slice A0_7 l0_7.length c0_7] 26 (0, 0)) (HW.zB BK739.out) hb); have n4_ := Aside0.mk (Kd.C_below (by repeat (first | (with_reducible exact HR749_0.out) | (with_reducible refine Kd.C_alloc ?_ _) | (with_reducible refine Kd.C_drewN ?_ _) | (with_reducible refine Kd.C_drew ?_) | exact HR749_0.out)) hb); have n5_ := Aside0.mk (below_step HW.zb hb); clear HO_3; clear HO_5; clear HL749_0; clear BK739; clear HR749_0; clear HB; have HO_3 := n0_; have HO_5 := n1_; have HL749_0 := n2_; have BK739 := n3_; have HR749_0 := n4_; have HB := n5_; clear n0_ n1_ n2_ n3_ n4_ n5_; (try clear hb); (try clear hb2); (try clear hk); (try clear hi); have p752 : 0 ≤ (x7_2 : Int) := of_decide_eq_true (by first | (with_reducible assumption) | assumption); have q752 : x7_2 < (t745.length : Int) := of_decide_eq_true (by first | (with_reducible assumption) | assumption); obtain ⟨ad752, A752_0, c752_0, e752, hx752_0, hl752_0, hi752_0⟩ := at_L4 (Kd.N_reads' HO_5.out).2.2 x7_2 p752 q752; obtain rfl : ad749 = ad752 := (by injection e752); obtain ⟨ce752, hce752, hMe752, hcc752⟩ := Kd.N_get HO_5.out [] x7_2 p752 (by first | exact q752 | exact of_decide_eq_true (by first | (with_reducible assumption) | assumption) | (have e_ := (Kd.N_reads' HO_5.out).1; omega)); obtain ⟨ua752_0, uc752_0, rfl, ul752_0, ge752_0⟩ := Kd.FK_slice_open hMe752; have hv752_0 := hcc752 0 _ rfl; rw [Nat.add_zero, show ((Kd.slice 5 (Kd.int .u8))).sz = 1 from rfl, Nat.mul_one] at hv752_0; replace hv752_0 := Option.some.inj (hv752_0.symm.trans hx752_0); injection hv752_0 with hva_ hvn_ hvc_; rw [hva_] at ge752_0; rw [hvc_] at ul752_0; have HL752_0 := Aside0.mk (show Kd.V (Kd.int .u8) 5 _ w.heap.size _ _ (rd_L4 t745 x7_2) from Kd.V_mk ul752_0 ge752_0); clear hva_ hvn_ hvc_ ge752_0 ul752_0; clear hcc752 hce752; have HR752_0 := Aside0.mk hi752_0; have HC752_0 := Aside0.mk hl752_0; clear hi752_0 hl752_0; replace p752 := eq_true p752; replace q752 := eq_true q752) | ((with_reducible refine gate_callee (f := 15) rfl ?_); refine HW.gz (some 59) rfl rfl Tryd.func15 (by kernel_rfl) rfl #[.slice A752_0 (rd_L4 t745 x7_2).length c752_0] rfl ?_; (with_reducible refine (impl_RawElementValue.calls k2 _ _ (rd_L4 t745 x7_2) t753 t754 t757 _ ?side1 ?side2 A22.out).mono ?_); (case side1 => repeat (first | exact (by repeat (first | (with_reducible exact HR752_0.out) | (with_reducible refine Kd.C_alloc ?_ _) | (with_reducible refine Kd.C_drewN ?_ _) | (with_reducible refine Kd.C_drew ?_) | exact HR752_0.out)) | (with_reducible refine Kd.C_alloc ?_ _) | (with_reducible refine Kd.C_drewN ?_ _) | (with_reducible refine Kd.C_drew ?_))); (case side2 => exact HC752_0.out); rintro e w26 ⟨v755, rfl, ho0, hb⟩; refine ⟨_, rfl, ?_⟩; have n0_ := Aside0.mk (Kd.R_elder' (HW.zR HO_3.out) (Kd.R_base ho0) hb); have n1_ := Aside0.mk (Kd.N_elder' (by (with_reducible repeat (first | apply Kd.N_alloc | apply Kd.N_drewN | apply Kd.N_drew)); exact HO_5.out) (Kd.R_base ho0) hb); have n2_ := Aside0.mk (Kd.V_elder' (HW.zV HL749_0.out) (Kd.R_base ho0) hb); have n3_ := Aside0.mk (Kd.V_elder' (HW.zV HL752_0.out) (Kd.R_base ho0) hb); have n4_ := Aside0.mk (Kd.R_lower (Kd.R_new' ho0 (Kd.R_lt (HW.zR HO_3.out))) (below_size HW.zb)); have n5_ := Aside0.mk (blk_below (g := gb739) (o := .cells #[.int .i64 a0_0, .string a0_1, .string a0_2, .int .i64 a0_3, .int .u64 a0_4, .int .u64 a0_5, .slice A0_6 l0_6.length c0_6, .slice A0_7 l0_7.length c0_7] 26 (0, 0)) (HW.zB BK739.out) hb); have n6_ := Aside0.mk (Kd.C_below (by repeat (first | (with_reducible exact HR749_0.out) | (with_reducible refine Kd.C_alloc ?_ _) | (with_reducible refine Kd.C_drewN ?_ _) | (with_reducible refine Kd.C_drew ?_) | exact HR749_0.out)) hb); have n7_ := Aside0.mk (Kd.C_below (by repeat (first | (with_reducible exact HR752_0.out) | (with_reducible refine Kd.C_alloc ?_ _) | (with_reducible refine Kd.C_drewN ?_ _) | (with_reducible refine Kd.C_drew ?_) | exact HR752_0.out)) hb); have n8_ := Aside0.mk (below_step HW.zb hb); clear HO_3; clear HO_5; clear HL749_0; clear HL752_0; clear BK739; clear HR749_0; clear HR752_0; clear HB; have HO_3 := n0_; have HO_5 := n1_; have HL749_0 := n2_; have HL752_0 := n3_; have HO756 := n4_; have BK739 := n5_; have HR749_0 := n6_; have HR752_0 := n7_; have HB := n8_; clear n0_ n1_ n2_ n3_ n4_ n5_ n6_ n7_ n8_; (try clear hb); (try clear hb2); (try clear hk); (try clear hi); (try clear ho0)) | ((with_reducible refine gate_dst (N := 10) rfl ?_); (try (refine gate_guard (by rfl) ?_; dsimp only)); refine box_event ?hg (N := 10) ?hd (cs := #[.int .i64 0, .slice none 0 0]) (t := 36) ?hr ?_; (case hd => rfl); (case hg => rfl); (case hr => first | (go_simp; done) | (go_simp; rfl)); intro gb758 hg w27 hbox hb; have n0_ := Aside0.mk (Kd.R_below (HW.zR HO_3.out) hb); have n1_ := Aside0.mk (Kd.N_below (Kd.N_elderB (by (with_reducible repeat (first | apply Kd.N_alloc | apply Kd.N_drewN | apply Kd.N_drew)); exact HO_5.out) gb758 (Nat.le_of_eq hg.symm)) hb); have n2_ := Aside0.mk (Kd.V_below (Kd.V_elderB (HW.zV HL749_0.out) gb758 (Nat.le_of_eq hg.symm)) hb); have n3_ := Aside0.mk (Kd.V_below (Kd.V_elderB (HW.zV HL752_0.out) gb758 (Nat.le_of_eq hg.symm)) hb); have n4_ := Aside0.mk (Kd.R_below (HW.zR HO756.out) hb); have n5_ := Aside0.mk (blk_below (g := gb739) (o := .cells #[.int .i64 a0_0, .string a0_1, .string a0_2, .int .i64 a0_3, .int .u64 a0_4, .int .u64 a0_5, .slice A0_6 l0_6.length c0_6, .slice A0_7 l0_7.length c0_7] 26 (0, 0)) (HW.zB BK739.out) hb); have n6_ := Aside0.mk (Kd.C_below (by repeat (first | (with_reducible exact HR749_0.out) | (with_reducible refine Kd.C_alloc ?_ _) | (with_reducible refine Kd.C_drewN ?_ _) | (with_reducible refine Kd.C_drew ?_) | exact HR749_0.out)) hb); have n7_ := Aside0.mk (Kd.C_below (by repeat (first | (with_reducible exact HR752_0.out) | (with_reducible refine Kd.C_alloc ?_ _) | (with_reducible refine Kd.C_drewN ?_ _) | (with_reducible refine Kd.C_drew ?_) | exact HR752_0.out)) hb); have n8_ := Aside0.mk (below_step HW.zb hb); have n9_ := Aside0.mk (hbox); have n10_ := Aside0.mk ((by rw [hg]; exact (below_size HW.zb) : w.heap.size ≤ gb758)); have n11_ := Aside0.mk ((by rw [hg]; exact (below_size HW.zb) : w.heap.size ≤ gb758)); have n12_ := Aside0.mk ((by rw [hg]; exact Nat.ne_of_lt (blk_lt (g := gb739) (o := .cells #[.int .i64 a0_0, .string a0_1, .string a0_2, .int .i64 a0_3, .int .u64 a0_4, .int .u64 a0_5, .slice A0_6 l0_6.length c0_6, .slice A0_7 l0_7.length c0_7] 26 (0, 0)) (HW.zB BK739.out)) : gb739 ≠ gb758)); have n13_ := Aside0.mk ((by rw [hg]; exact Nat.ne_of_gt (blk_lt (g := gb739) (o := .cells #[.int .i64 a0_0, .string a0_1, .string a0_2, .int .i64 a0_3, .int .u64 a0_4, .int .u64 a0_5, .slice A0_6 l0_6.length c0_6, .slice A0_7 l0_7.length c0_7] 26 (0, 0)) (HW.zB BK739.out)) : gb758 ≠ gb739)); clear HO_3; clear HO_5; clear HL749_0; clear HL752_0; clear HO756; clear BK739; clear HR749_0; clear HR752_0; clear HB; have HO_3 := n0_; have HO_5 := n1_; have HL749_0 := n2_; have HL752_0 := n3_; have HO756 := n4_; have BK739 := n5_; have HR749_0 := n6_; have HR752_0 := n7_; have HB := n8_; have BK758 := n9_; have GW758 := n10_; have GE758 := n11_; have NB739_758 := n12_; have NB758_739 := n13_; clear n0_ n1_ n2_ n3_ n4_ n5_ n6_ n7_ n8_ n9_ n10_ n11_ n12_ n13_; clear hb hbox hg; have hnb28 := NB758_739.out; have hnc28 := NB739_758.out; have hcz29_0 := HW.zc BK758.out 0 (.int .i64 0); have hcz29_1 := HW.zc BK758.out 1 (.slice none 0 0); have hfz30_0 := blk_frozen BK758.out 0; have hfz30_1 := blk_frozen BK758.out 1; obtain ⟨Ao31, co31, eo31⟩ := Kd.R_slice HO756.out; subst eo31))
          (try simp only [Act.put, List.setIfInBounds_toArray, List.set_cons_zero, List.set_cons_succ])
          go_cut [77] (fun v77 wc => ∃ (kq : Nat) (x77_22 : Bool), v77 = .bool x77_22 ∧ Aside0 (laws_FnBindRoads.j2 kq t741 t745 x7_2 t750 x77_22 a0_0 a0_1 a0_2 a0_3 a0_4 a0_5 l0_6 l0_7 t753 t754 = some r) ∧ Aside0 (kq ≤ k2) ∧ Aside0 (Kd.R (Kd.int .u8) 5 wc w.heap.size (fun k_ => some k_ ≠ ((.slice Ao31 t754.length co31) : Value).ownBlock) (.slice Ao13 t741.length co13) t741) ∧ Aside0 (Kd.N (Kd.slice 5 (Kd.int .u8)) 23 wc w.heap.size (fun k_ => some k_ ≠ ((.slice Ao31 t754.length co31) : Value).ownBlock ∧ k_ ≠ gb739 ∧ k_ ≠ gb758) (.slice (some ad749) t745.length co24) t745) ∧ Aside0 (Kd.R (Kd.int .u8) 5 wc w.heap.size (fun k_ => some k_ ≠ ((.slice Ao13 t741.length co13) : Value).ownBlock) (.slice Ao31 t754.length co31) t754) ∧ Aside0 (wc.heap[gb739]? = some (.cells #[.int .i64 a0_0, .string a0_1, .string a0_2, .int .i64 a0_3, .int .u64 a0_4, .int .u64 a0_5, (.slice A0_6 l0_6.length c0_6), (.slice A0_7 l0_7.length c0_7)] 26 (0, 0))) ∧ Aside0 (wc.heap[gb758]? = some (.cells #[.int .i64 t753, (.slice Ao31 t754.length co31)] 36 (0, 0))) ∧ Aside0 (Kd.C (Kd.int .u8) wc A749_0 (rd_L4 t745 x7_2).length (rd_L4 t745 x7_2)) ∧ Aside0 (Kd.C (Kd.int .u8) wc A752_0 (rd_L4 t745 x7_2).length (rd_L4 t745 x7_2)) ∧ Aside0 (Below w.heap.size w wc))
          case first =>
            have H := HC23.out
            clear HC23
            by_cases c32 : t751 = 0
            rotate_left
            · rw [if_neg c32] at H
              exact absurd H (by simp)
            rw [if_pos c32] at H
            have c32b0 : (t751 == 0) = true := beq_iff_eq.mpr c32
            have c32b1 : (t751 != 0) = false := bne_eq_false_iff_eq.mpr c32
            clear c32
            (first | rw [c32b0] | (simp only [i64_w, i32_w]; rw [c32b0]) | skip)
            by_cases c33 : t757 = 0
            rotate_left
            · rw [if_neg c33] at H
              exact absurd H (by simp)
            rw [if_pos c33] at H
            have c33b0 : (t757 == 0) = true := beq_iff_eq.mpr c33
            have c33b1 : (t757 != 0) = false := bne_eq_false_iff_eq.mpr c33
            clear c33
            by_cases c34 : x7_2 < (l0_7.length : Int)
            rotate_left
            · rw [if_neg c34] at H
              exact absurd H (by simp)
            rw [if_pos c34] at H
            have c34b0 : decide (x7_2 < (l0_7.length : Int)) = true := decide_eq_true c34
            clear c34
            as_aux_lemma =>
              have H' := Aside0.mk H
              clear H
              have hnb35 := NB739_758.out
              have hnc35 := NB758_739.out
              have hcz36_0 := HW.zc BK739.out 0 (.int .i64 a0_0)
              have hcz36_1 := HW.zc BK739.out 1 (.string a0_1)
              have hcz36_2 := HW.zc BK739.out 2 (.string a0_2)
              have hcz36_3 := HW.zc BK739.out 3 (.int .i64 a0_3)
              have hcz36_4 := HW.zc BK739.out 4 (.int .u64 a0_4)
              have hcz36_5 := HW.zc BK739.out 5 (.int .u64 a0_5)
              have hcz36_6 := HW.zc BK739.out 6 (.slice A0_6 l0_6.length c0_6)
              have hcz36_7 := HW.zc BK739.out 7 (.slice A0_7 l0_7.length c0_7)
              have p759 : 0 ≤ (x7_2 : Int) := of_decide_eq_true (by first | (with_reducible assumption) | assumption)
              have q759 : x7_2 < (l0_7.length : Int) := of_decide_eq_true (by first | (with_reducible assumption) | assumption)
              obtain ⟨ad759, A759_7, c759_7, A759_8, c759_8, e759, hx759_0, hx759_1, hx759_2, hx759_3, hx759_4, hx759_5, hx759_6, hx759_7, hx759_8, hl759_7, hi759_7, hl759_8, hi759_8⟩ := at_T34 HR0_7.out x7_2 p759 q759
              cases e759
              have hn759_0 : ad759.block ≠ gb758 := Nat.ne_of_lt (Nat.lt_of_lt_of_le (by have := World.block_lt_of_cell? _ _ hx759_0; first | rwa [add_block] at this | exact this) GW758.out)
              have hn759_1 : ad759.block ≠ gb758 := Nat.ne_of_lt (Nat.lt_of_lt_of_le (by have := World.block_lt_of_cell? _ _ hx759_0; first | rwa [add_block] at this | exact this) GW758.out)
              replace hx759_0 := (HB.out.cell (World.block_lt_of_cell? w _ hx759_0)).trans hx759_0
              replace hx759_1 := (HB.out.cell (World.block_lt_of_cell? w _ hx759_1)).trans hx759_1
              replace hx759_2 := (HB.out.cell (World.block_lt_of_cell? w _ hx759_2)).trans hx759_2
              replace hx759_3 := (HB.out.cell (World.block_lt_of_cell? w _ hx759_3)).trans hx759_3
              replace hx759_4 := (HB.out.cell (World.block_lt_of_cell? w _ hx759_4)).trans hx759_4
              replace hx759_5 := (HB.out.cell (World.block_lt_of_cell? w _ hx759_5)).trans hx759_5
              replace hx759_6 := (HB.out.cell (World.block_lt_of_cell? w _ hx759_6)).trans hx759_6
              replace hx759_7 := (HB.out.cell (World.block_lt_of_cell? w _ hx759_7)).trans hx759_7
              replace hx759_8 := (HB.out.cell (World.block_lt_of_cell? w _ hx759_8)).trans hx759_8
              have HR759_7 := Aside0.mk hi759_7
              have HC759_7 := Aside0.mk hl759_7
              clear hi759_7 hl759_7
              have HR759_8 := Aside0.mk hi759_8
              have HC759_8 := Aside0.mk hl759_8
              clear hi759_8 hl759_8
              replace hx759_0 := (cell_far (p := ⟨gb758, 0, none⟩) (by first | (rw [add_block]; exact hn759_0) | (show (Addr.add _ _).block ≠ _; rw [add_block]; exact hn759_0) | exact hn759_0) (.int .i64 t753)).trans hx759_0
              replace hx759_1 := (cell_far (p := ⟨gb758, 0, none⟩) (by first | (rw [add_block]; exact hn759_0) | (show (Addr.add _ _).block ≠ _; rw [add_block]; exact hn759_0) | exact hn759_0) (.int .i64 t753)).trans hx759_1
              replace hx759_2 := (cell_far (p := ⟨gb758, 0, none⟩) (by first | (rw [add_block]; exact hn759_0) | (show (Addr.add _ _).block ≠ _; rw [add_block]; exact hn759_0) | exact hn759_0) (.int .i64 t753)).trans hx759_2
              replace hx759_3 := (cell_far (p := ⟨gb758, 0, none⟩) (by first | (rw [add_block]; exact hn759_0) | (show (Addr.add _ _).block ≠ _; rw [add_block]; exact hn759_0) | exact hn759_0) (.int .i64 t753)).trans hx759_3
              replace hx759_4 := (cell_far (p := ⟨gb758, 0, none⟩) (by first | (rw [add_block]; exact hn759_0) | (show (Addr.add _ _).block ≠ _; rw [add_block]; exact hn759_0) | exact hn759_0) (.int .i64 t753)).trans hx759_4
              replace hx759_5 := (cell_far (p := ⟨gb758, 0, none⟩) (by first | (rw [add_block]; exact hn759_0) | (show (Addr.add _ _).block ≠ _; rw [add_block]; exact hn759_0) | exact hn759_0) (.int .i64 t753)).trans hx759_5
              replace hx759_6 := (cell_far (p := ⟨gb758, 0, none⟩) (by first | (rw [add_block]; exact hn759_0) | (show (Addr.add _ _).block ≠ _; rw [add_block]; exact hn759_0) | exact hn759_0) (.int .i64 t753)).trans hx759_6
              replace hx759_7 := (cell_far (p := ⟨gb758, 0, none⟩) (by first | (rw [add_block]; exact hn759_0) | (show (Addr.add _ _).block ≠ _; rw [add_block]; exact hn759_0) | exact hn759_0) (.int .i64 t753)).trans hx759_7
              replace hx759_8 := (cell_far (p := ⟨gb758, 0, none⟩) (by first | (rw [add_block]; exact hn759_0) | (show (Addr.add _ _).block ≠ _; rw [add_block]; exact hn759_0) | exact hn759_0) (.int .i64 t753)).trans hx759_8
              replace hx759_0 := (cell_far (p := ⟨gb758, 1, none⟩) (by first | (rw [add_block]; exact hn759_1) | (show (Addr.add _ _).block ≠ _; rw [add_block]; exact hn759_1) | exact hn759_1) (.slice Ao31 t754.length co31)).trans hx759_0
              replace hx759_1 := (cell_far (p := ⟨gb758, 1, none⟩) (by first | (rw [add_block]; exact hn759_1) | (show (Addr.add _ _).block ≠ _; rw [add_block]; exact hn759_1) | exact hn759_1) (.slice Ao31 t754.length co31)).trans hx759_1
              replace hx759_2 := (cell_far (p := ⟨gb758, 1, none⟩) (by first | (rw [add_block]; exact hn759_1) | (show (Addr.add _ _).block ≠ _; rw [add_block]; exact hn759_1) | exact hn759_1) (.slice Ao31 t754.length co31)).trans hx759_2
              replace hx759_3 := (cell_far (p := ⟨gb758, 1, none⟩) (by first | (rw [add_block]; exact hn759_1) | (show (Addr.add _ _).block ≠ _; rw [add_block]; exact hn759_1) | exact hn759_1) (.slice Ao31 t754.length co31)).trans hx759_3
              replace hx759_4 := (cell_far (p := ⟨gb758, 1, none⟩) (by first | (rw [add_block]; exact hn759_1) | (show (Addr.add _ _).block ≠ _; rw [add_block]; exact hn759_1) | exact hn759_1) (.slice Ao31 t754.length co31)).trans hx759_4
              replace hx759_5 := (cell_far (p := ⟨gb758, 1, none⟩) (by first | (rw [add_block]; exact hn759_1) | (show (Addr.add _ _).block ≠ _; rw [add_block]; exact hn759_1) | exact hn759_1) (.slice Ao31 t754.length co31)).trans hx759_5
              replace hx759_6 := (cell_far (p := ⟨gb758, 1, none⟩) (by first | (rw [add_block]; exact hn759_1) | (show (Addr.add _ _).block ≠ _; rw [add_block]; exact hn759_1) | exact hn759_1) (.slice Ao31 t754.length co31)).trans hx759_6
              replace hx759_7 := (cell_far (p := ⟨gb758, 1, none⟩) (by first | (rw [add_block]; exact hn759_1) | (show (Addr.add _ _).block ≠ _; rw [add_block]; exact hn759_1) | exact hn759_1) (.slice Ao31 t754.length co31)).trans hx759_7
              replace hx759_8 := (cell_far (p := ⟨gb758, 1, none⟩) (by first | (rw [add_block]; exact hn759_1) | (show (Addr.add _ _).block ≠ _; rw [add_block]; exact hn759_1) | exact hn759_1) (.slice Ao31 t754.length co31)).trans hx759_8
              clear hn759_0
              clear hn759_1
              replace p759 := eq_true p759
              replace q759 := eq_true q759
              go_wp2
              go_meet
              case rel => exact ⟨_, ((t750.toList != ((rd_T34 l0_7 x7_2).f0).toList)), (by first | rfl | (simp; done) | (simp [*]; done)), H', ⟨by have := HJ6.out; have := HK2.out; first | omega | exact Nat.le_refl _⟩, ⟨by (with_reducible repeat (first | apply Kd.R_alloc | apply Kd.R_drewN | apply Kd.R_drew)); exact Kd.R_mono (Kd.R_far (p := ⟨gb758, 1, none⟩) (Kd.R_far (p := ⟨gb758, 0, none⟩) (Kd.R_types HO_3.out BK758.out (by decide)) (fun _ hk => hk.2) (.int .i64 t753)) (fun _ hk => hk.2) (.slice Ao31 t754.length co31)) (fun _ hk => hk.1.2)⟩, ⟨by (with_reducible repeat (first | apply Kd.N_alloc | apply Kd.N_drewN | apply Kd.N_drew)); exact Kd.N_mono (Kd.N_far (p := ⟨gb758, 1, none⟩) (Kd.N_far (p := ⟨gb758, 0, none⟩) (Kd.N_mono HO_5.out (fun k_ hk => (⟨hk, hk.2⟩ : _ ∧ k_ ≠ gb758))) (fun _ hk => hk.2) (.int .i64 t753)) (fun _ hk => hk.2) (.slice Ao31 t754.length co31)) (fun _ hk => ⟨hk.1.1.2, ⟨hk.1.1.1, hk.1.2⟩⟩)⟩, ⟨by (with_reducible repeat (first | apply Kd.R_alloc | apply Kd.R_drewN | apply Kd.R_drew)); exact Kd.R_mono (Kd.R_far (p := ⟨gb758, 1, none⟩) (Kd.R_far (p := ⟨gb758, 0, none⟩) (Kd.R_types HO756.out BK758.out (by decide)) (fun _ hk => hk.2) (.int .i64 t753)) (fun _ hk => hk.2) (.slice Ao31 t754.length co31)) (fun _ hk => hk.1.2)⟩, ⟨by (with_reducible repeat (first | refine blk_drewN ?_ _ | refine blk_drew ?_ | refine blk_alloc ?_ _)); refine blk_far ?_ NB739_758.out _; (with_reducible repeat (first | refine blk_drewN ?_ _ | refine blk_drew ?_ | refine blk_alloc ?_ _)); refine blk_far ?_ NB739_758.out _; (with_reducible repeat (first | refine blk_drewN ?_ _ | refine blk_drew ?_ | refine blk_alloc ?_ _)); exact BK739.out⟩, ⟨by (with_reducible repeat (first | refine blk_drewN ?_ _ | refine blk_drew ?_ | refine blk_alloc ?_ _)); refine blk_put (cs := #[.int .i64 t753, .slice none 0 0]) ?_ 1 _ rfl; (with_reducible repeat (first | refine blk_drewN ?_ _ | refine blk_drew ?_ | refine blk_alloc ?_ _)); refine blk_put (cs := #[.int .i64 0, .slice none 0 0]) ?_ 0 _ rfl; (with_reducible repeat (first | refine blk_drewN ?_ _ | refine blk_drew ?_ | refine blk_alloc ?_ _)); exact BK758.out⟩, ⟨(Kd.V_reads' (by (with_reducible repeat (first | apply Kd.V_alloc | apply Kd.V_drewN | apply Kd.V_drew)); exact (Kd.V_mono (Kd.V_far (p := ⟨gb758, 1, none⟩) (Kd.V_far (p := ⟨gb758, 0, none⟩) (Kd.V_mono HL749_0.out (fun k_ hk => (⟨hk, hk.2⟩ : _ ∧ k_ ≠ gb758))) (fun _ hk => hk.2) (.int .i64 t753)) (fun _ hk => hk.2) (.slice Ao31 t754.length co31)) (fun _ h_ => h_.1)))).2.2⟩, ⟨(Kd.V_reads' (by (with_reducible repeat (first | apply Kd.V_alloc | apply Kd.V_drewN | apply Kd.V_drew)); exact (Kd.V_mono (Kd.V_far (p := ⟨gb758, 1, none⟩) (Kd.V_far (p := ⟨gb758, 0, none⟩) (Kd.V_mono HL752_0.out (fun k_ hk => (⟨hk, hk.2⟩ : _ ∧ k_ ≠ gb758))) (fun _ hk => hk.2) (.int .i64 t753)) (fun _ hk => hk.2) (.slice Ao31 t754.length co31)) (fun _ h_ => h_.1)))).2.2⟩, ⟨HW.zb⟩⟩
          case rest =>
            clear HC23
            try clear c1
            try clear c2
            try clear p2
            try clear c3
            try clear c4
            try clear c5
            try clear c6
            try clear c7
            try clear p7
            try clear q7
            try clear hx7
            try clear c13
            try clear c14
            try clear c15
            try clear c18
            try clear c19
            try clear c19b0
            try clear c20
            try clear c20b0
            try clear c28
            try clear c32
            try clear c32b0
            try clear c32b1
            try clear c33
            try clear c33b0
            try clear c33b1
            try clear c34
            try clear c34b0
            try clear c35
            try clear hcz11_0
            try clear hcz11_1
            try clear hcz11_2
            try clear hcz11_3
            try clear hcz11_4
            try clear hcz11_5
            try clear hcz11_6
            try clear hcz11_7
            try clear hcz17_0
            try clear hcz17_1
            try clear hcz17_2
            try clear hcz17_3
            try clear hcz17_4
            try clear hcz17_5
            try clear hcz17_6
            try clear hcz17_7
            try clear hcz29_0
            try clear hcz29_1
            try clear hcz36_0
            try clear hcz36_1
            try clear hcz36_2
            try clear hcz36_3
            try clear hcz36_4
            try clear hcz36_5
            try clear hcz36_6
            try clear hcz36_7
            try clear hcz9_0
            try clear hcz9_1
            try clear hcz9_2
            try clear hcz9_3
            try clear hcz9_4
            try clear hcz9_5
            try clear hcz9_6
            try clear hcz9_7
            try clear hfz30_0
            try clear hfz30_1
            try clear hx749_0
            try clear hx752_0
            try clear hx759_0
            try clear hx759_1
            try clear hx759_2
            try clear hx759_3
            try clear hx759_4
            try clear hx759_5
            try clear hx759_6
            try clear hx759_7
            try clear hx759_8
            try clear p2
            try clear p749
            try clear p752
            try clear p759
            try clear q749
            try clear q752
            try clear q759
            obtain ⟨kq, x77_22, rfl, HA, HJ22, HO_3, HO_5, HO_759001, BK739, BK758, HR749_0, HR752_0, HB⟩ := hcut
            cases kq with
            | zero => exact absurd HA.out (by simp [laws_FnBindRoads.j2])
            | succ kj22 =>
              have H := HA.out
              clear HA
              simp only [laws_FnBindRoads.j2] at H
              by_cases c37 : x77_22 = true
              · subst c37
                have H1 : (none) = some r := by rw [if_pos rfl] at H; exact H
                clear H
                have H := H1
                clear H1
                exact absurd H (by simp)
              replace c37 := Bool.eq_false_iff.mpr c37
              subst c37
              have H1 : ((impl_RawLookup.f kj22 t741 (([t750] : List ByteArray))).bind fun bt763 => ((spec_DocFind.f kj22 l0_7 t750).bind fun t769 => (if bt763.2.2 = 0 then (if t769 = x7_2 then ((spec_BindSame.f bt763.1 bt763.2.1 t753 t754).bind fun t770 => (laws_FnBindRoads.j3 kj22 t741 t745 x7_2 (!t770) a0_0 a0_1 a0_2 a0_3 a0_4 a0_5 l0_6 l0_7)) else (laws_FnBindRoads.j3 kj22 t741 t745 x7_2 false a0_0 a0_1 a0_2 a0_3 a0_4 a0_5 l0_6 l0_7)) else (none)))) = some r := by rw [if_neg (show ¬ (false = true) by decide)] at H; exact H
              clear H
              have H := H1
              clear H1
              obtain ⟨y760, hy760⟩ : ∃ y_ : List ByteArray, y_ = (([t750] : List ByteArray)) := ⟨_, rfl⟩
              replace H : ((impl_RawLookup.f kj22 t741 y760).bind fun bt763 => ((spec_DocFind.f kj22 l0_7 t750).bind fun t769 => (if bt763.2.2 = 0 then (if t769 = x7_2 then ((spec_BindSame.f bt763.1 bt763.2.1 t753 t754).bind fun t770 => (laws_FnBindRoads.j3 kj22 t741 t745 x7_2 (!t770) a0_0 a0_1 a0_2 a0_3 a0_4 a0_5 l0_6 l0_7)) else (laws_FnBindRoads.j3 kj22 t741 t745 x7_2 false a0_0 a0_1 a0_2 a0_3 a0_4 a0_5 l0_6 l0_7)) else (none)))) = some r := by first | (rw [hy760]; with_reducible exact H) | (have H2_ := (Option.bind_some _ _).symm.trans H; rw [hy760]; with_reducible exact H2_) | (have H2_ := (Option.bind_some _ _).symm.trans H; with_reducible exact H2_) | with_reducible exact H | (rw [hy760]; exact H) | exact H
              have Ny760 := Aside0.mk hy760
              clear hy760
              replace H := Option.bind_eq_some_iff.mp H
              obtain ⟨⟨t763, t764, t767⟩, A380, H⟩ := H
              replace H : ((spec_DocFind.f kj22 l0_7 t750).bind fun t769 => (if t767 = 0 then (if t769 = x7_2 then ((spec_BindSame.f t763 t764 t753 t754).bind fun t770 => (laws_FnBindRoads.j3 kj22 t741 t745 x7_2 (!t770) a0_0 a0_1 a0_2 a0_3 a0_4 a0_5 l0_6 l0_7)) else (laws_FnBindRoads.j3 kj22 t741 t745 x7_2 false a0_0 a0_1 a0_2 a0_3 a0_4 a0_5 l0_6 l0_7)) else (none))) = some r := H
              have A38 := Aside0.mk A380
              clear A380
              replace H := Option.bind_eq_some_iff.mp H
              obtain ⟨t769, A390, H⟩ := H
              replace H : (if t767 = 0 then (if t769 = x7_2 then ((spec_BindSame.f t763 t764 t753 t754).bind fun t770 => (laws_FnBindRoads.j3 kj22 t741 t745 x7_2 (!t770) a0_0 a0_1 a0_2 a0_3 a0_4 a0_5 l0_6 l0_7)) else (laws_FnBindRoads.j3 kj22 t741 t745 x7_2 false a0_0 a0_1 a0_2 a0_3 a0_4 a0_5 l0_6 l0_7)) else (none)) = some r := H
              have A39 := Aside0.mk A390
              clear A390
              have HC40 := Aside0.mk H
              clear H
              go_upto_region 18 with (first | ((with_reducible refine gate_dst (N := 81) rfl ?_); (try (refine gate_guard (by rfl) ?_; dsimp only)); refine Kd.R_lit Kd.string _ 9 ?hg (N := 81) ?hd (xs := ([t750] : List ByteArray)) (inner := [.string t750]) (ok := fun _ => True) (okp := fun _ => True) ?hr ?hp (fun _ hk => hk) trivial (Below.refl _ _) (Nat.le_refl _) (by simp) ?_; (case hd => rfl); (case hg => rfl); (case hr => first | (go_simp; done) | (go_simp; rfl)); (case hp => exact (Reps.one (show Kd.M Kd.string _ _ _ t750 [.string t750] from rfl) (Reps.none _ _))); intro v761 w41 ho42 hb hg_ hnew_; clear hg_ hnew_; (first | rw [← Ny760.out] at ho42 | (simp only [Int.reduceToNat] at ho42; rw [← Ny760.out] at ho42)); have n0_ := Aside0.mk (Kd.R_below (HW.zR HO_3.out) hb); have n1_ := Aside0.mk (Kd.N_elder' (by (with_reducible repeat (first | apply Kd.N_alloc | apply Kd.N_drewN | apply Kd.N_drew)); exact HO_5.out) (Kd.R_base ho42) hb); have n2_ := Aside0.mk (Kd.R_below (HW.zR HO_759001.out) hb); have n3_ := Aside0.mk (Kd.R_lower ho42 (below_size HW.zb)); have n4_ := Aside0.mk (blk_below (g := gb739) (o := .cells #[.int .i64 a0_0, .string a0_1, .string a0_2, .int .i64 a0_3, .int .u64 a0_4, .int .u64 a0_5, .slice A0_6 l0_6.length c0_6, .slice A0_7 l0_7.length c0_7] 26 (0, 0)) (HW.zB BK739.out) hb); have n5_ := Aside0.mk (blk_below (g := gb758) (o := .cells #[.int .i64 t753, .slice Ao31 t754.length co31] 36 (0, 0)) (HW.zB BK758.out) hb); have n8_ := Aside0.mk (below_step HW.zb hb); clear HO_3; clear HO_5; clear HO_759001; clear BK739; clear BK758; clear HB; have HO_3 := n0_; have HO_5 := n1_; have HO_759001 := n2_; have HO762 := n3_; have BK739 := n4_; have BK758 := n5_; have HB := n8_; clear n0_ n1_ n2_ n3_ n4_ n5_ n8_; clear hb ho42; obtain ⟨Ao43, co43, eo43⟩ := Kd.R_slice HO762.out; subst eo43) | ((with_reducible refine gate_callee (f := 11) rfl ?_); refine HW.gz (some 82) rfl rfl Tryd.func11 (by kernel_rfl) rfl #[.slice Ao13 t741.length co13, .slice Ao43 y760.length co43] rfl ?_; (with_reducible refine (impl_RawLookup.calls kj22 _ _ t741 _ _ y760 t763 t764 t767 _ ?side1 ?side2 ?side3 ?side4 A38.out).mono ?_); (case side1 => repeat (first | exact (Kd.R_reads' HO_3.out).2.2 | (with_reducible refine Kd.C_alloc ?_ _) | (with_reducible refine Kd.C_drewN ?_ _) | (with_reducible refine Kd.C_drew ?_))); (case side2 => exact (Kd.R_reads' HO_3.out).2.1); (case side3 => repeat (first | exact (Kd.R_reads' HO762.out).2.2 | (with_reducible refine Kd.C_alloc ?_ _) | (with_reducible refine Kd.C_drewN ?_ _) | (with_reducible refine Kd.C_drew ?_))); (case side4 => exact (Kd.R_reads' HO762.out).2.1); rintro e w44 ⟨v765, rfl, ho0, hb⟩; refine ⟨_, rfl, ?_⟩; have n0_ := Aside0.mk (Kd.R_elder' (HW.zR HO_3.out) (Kd.R_base ho0) hb); have n1_ := Aside0.mk (Kd.N_elder' (by (with_reducible repeat (first | apply Kd.N_alloc | apply Kd.N_drewN | apply Kd.N_drew)); exact HO_5.out) (Kd.R_base ho0) hb); have n2_ := Aside0.mk (Kd.R_elder' (HW.zR HO_759001.out) (Kd.R_base ho0) hb); have n4_ := Aside0.mk (Kd.R_lower (Kd.R_new' (Kd.R_new' ho0 (Kd.R_lt (HW.zR HO_3.out))) (Kd.R_lt (HW.zR HO_759001.out))) (below_size HW.zb)); have n5_ := Aside0.mk (blk_below (g := gb739) (o := .cells #[.int .i64 a0_0, .string a0_1, .string a0_2, .int .i64 a0_3, .int .u64 a0_4, .int .u64 a0_5, .slice A0_6 l0_6.length c0_6, .slice A0_7 l0_7.length c0_7] 26 (0, 0)) (HW.zB BK739.out) hb); have n6_ := Aside0.mk (blk_below (g := gb758) (o := .cells #[.int .i64 t753, .slice Ao31 t754.length co31] 36 (0, 0)) (HW.zB BK758.out) hb); have n9_ := Aside0.mk (below_step HW.zb hb); clear HO_3; clear HO_5; clear HO_759001; clear BK739; clear BK758; clear HB; have HO_3 := n0_; have HO_5 := n1_; have HO_759001 := n2_; have HO766 := n4_; have BK739 := n5_; have BK758 := n6_; have HB := n9_; clear n0_ n1_ n2_ n4_ n5_ n6_ n9_; (try clear hb); (try clear hb2); (try clear hk); (try clear hi); (try clear ho0)) | ((with_reducible refine gate_dst (N := 12) rfl ?_); (try (refine gate_guard (by rfl) ?_; dsimp only)); refine box_event ?hg (N := 12) ?hd (cs := #[.int .i64 0, .slice none 0 0]) (t := 36) ?hr ?_; (case hd => rfl); (case hg => rfl); (case hr => first | (go_simp; done) | (go_simp; rfl)); intro gb768 hg w45 hbox hb; have n0_ := Aside0.mk (Kd.R_below (HW.zR HO_3.out) hb); have n1_ := Aside0.mk (Kd.N_below (Kd.N_elderB (by (with_reducible repeat (first | apply Kd.N_alloc | apply Kd.N_drewN | apply Kd.N_drew)); exact HO_5.out) gb768 (Nat.le_of_eq hg.symm)) hb); have n2_ := Aside0.mk (Kd.R_below (HW.zR HO_759001.out) hb); have n4_ := Aside0.mk (Kd.R_below (HW.zR HO766.out) hb); have n5_ := Aside0.mk (blk_below (g := gb739) (o := .cells #[.int .i64 a0_0, .string a0_1, .string a0_2, .int .i64 a0_3, .int .u64 a0_4, .int .u64 a0_5, .slice A0_6 l0_6.length c0_6, .slice A0_7 l0_7.length c0_7] 26 (0, 0)) (HW.zB BK739.out) hb); have n6_ := Aside0.mk (blk_below (g := gb758) (o := .cells #[.int .i64 t753, .slice Ao31 t754.length co31] 36 (0, 0)) (HW.zB BK758.out) hb); have n9_ := Aside0.mk (below_step HW.zb hb); have n10_ := Aside0.mk (hbox); have n12_ := Aside0.mk ((by rw [hg]; exact (below_size HW.zb) : w.heap.size ≤ gb768)); have n13_ := Aside0.mk ((by rw [hg]; exact Nat.ne_of_lt (blk_lt (g := gb739) (o := .cells #[.int .i64 a0_0, .string a0_1, .string a0_2, .int .i64 a0_3, .int .u64 a0_4, .int .u64 a0_5, .slice A0_6 l0_6.length c0_6, .slice A0_7 l0_7.length c0_7] 26 (0, 0)) (HW.zB BK739.out)) : gb739 ≠ gb768)); have n14_ := Aside0.mk ((by rw [hg]; exact Nat.ne_of_gt (blk_lt (g := gb739) (o := .cells #[.int .i64 a0_0, .string a0_1, .string a0_2, .int .i64 a0_3, .int .u64 a0_4, .int .u64 a0_5, .slice A0_6 l0_6.length c0_6, .slice A0_7 l0_7.length c0_7] 26 (0, 0)) (HW.zB BK739.out)) : gb768 ≠ gb739)); have n15_ := Aside0.mk ((by rw [hg]; exact Nat.ne_of_lt (blk_lt (g := gb758) (o := .cells #[.int .i64 t753, .slice Ao31 t754.length co31] 36 (0, 0)) (HW.zB BK758.out)) : gb758 ≠ gb768)); have n16_ := Aside0.mk ((by rw [hg]; exact Nat.ne_of_gt (blk_lt (g := gb758) (o := .cells #[.int .i64 t753, .slice Ao31 t754.length co31] 36 (0, 0)) (HW.zB BK758.out)) : gb768 ≠ gb758)); clear HO_3; clear HO_5; clear HO_759001; clear HO766; clear BK739; clear BK758; clear HB; have HO_3 := n0_; have HO_5 := n1_; have HO_759001 := n2_; have HO766 := n4_; have BK739 := n5_; have BK758 := n6_; have HB := n9_; have BK768 := n10_; have GE768 := n12_; have NB739_768 := n13_; have NB768_739 := n14_; have NB758_768 := n15_; have NB768_758 := n16_; clear n0_ n1_ n2_ n4_ n5_ n6_ n9_ n10_ n12_ n13_ n14_ n15_ n16_; clear hb hbox hg; have hnb46 := NB768_739.out; have hnc46 := NB739_768.out; have hnb47 := NB768_758.out; have hnc47 := NB758_768.out; have hcz48_0 := HW.zc BK768.out 0 (.int .i64 0); have hcz48_1 := HW.zc BK768.out 1 (.slice none 0 0); have hfz49_0 := blk_frozen BK768.out 0; have hfz49_1 := blk_frozen BK768.out 1; obtain ⟨Ao50, co50, eo50⟩ := Kd.R_slice HO766.out; subst eo50; have hnb51 := NB739_758.out; have hnc51 := NB758_739.out; have hcz52_0 := HW.zc BK739.out 0 (.int .i64 a0_0); have hcz52_1 := HW.zc BK739.out 1 (.string a0_1); have hcz52_2 := HW.zc BK739.out 2 (.string a0_2); have hcz52_3 := HW.zc BK739.out 3 (.int .i64 a0_3); have hcz52_4 := HW.zc BK739.out 4 (.int .u64 a0_4); have hcz52_5 := HW.zc BK739.out 5 (.int .u64 a0_5); have hcz52_6 := HW.zc BK739.out 6 (.slice A0_6 l0_6.length c0_6); have hcz52_7 := HW.zc BK739.out 7 (.slice A0_7 l0_7.length c0_7)) | ((with_reducible refine gate_callee (f := 8) rfl ?_); refine HW.gz (some 88) rfl rfl Tryd.func8 (by kernel_rfl) rfl #[.slice A0_7 l0_7.length c0_7, .string t750] rfl ?_; (with_reducible refine (spec_DocFind.calls kj22 _ _ l0_7 t750 t769 _ ?side1 ?side2 A39.out).mono ?_); (case side1 => exact Kd.C_below HR0_7.out HW.zb); (case side2 => exact HC0_7.out); rintro e w' ⟨rfl, ⟨nd, rfl⟩⟩; refine ⟨_, rfl, ?_⟩))
              (try simp only [Act.put, List.setIfInBounds_toArray, List.set_cons_zero, List.set_cons_succ])
              generalize hfb : (t769 == x7_2) = fb
              go_cut [101] (fun v101 wc => ∃ (kq : Nat) (x101_39 : Bool), v101 = .bool x101_39 ∧ Aside0 (laws_FnBindRoads.j3 kq t741 t745 x7_2 x101_39 a0_0 a0_1 a0_2 a0_3 a0_4 a0_5 l0_6 l0_7 = some r) ∧ Aside0 (kq ≤ kj22) ∧ Aside0 (Kd.R (Kd.int .u8) 5 wc w.heap.size (fun k_ => some k_ ≠ ((.slice Ao31 t754.length co31) : Value).ownBlock ∧ some k_ ≠ ((.slice Ao50 t764.length co50) : Value).ownBlock) (.slice Ao13 t741.length co13) t741) ∧ Aside0 (Kd.N (Kd.slice 5 (Kd.int .u8)) 23 wc w.heap.size (fun k_ => some k_ ≠ ((.slice Ao31 t754.length co31) : Value).ownBlock ∧ some k_ ≠ ((.slice Ao50 t764.length co50) : Value).ownBlock ∧ k_ ≠ gb739 ∧ k_ ≠ gb758 ∧ k_ ≠ gb768) (.slice (some ad749) t745.length co24) t745) ∧ Aside0 (Kd.R (Kd.int .u8) 5 wc w.heap.size (fun k_ => some k_ ≠ ((.slice Ao13 t741.length co13) : Value).ownBlock ∧ some k_ ≠ ((.slice Ao50 t764.length co50) : Value).ownBlock) (.slice Ao31 t754.length co31) t754) ∧ Aside0 (Kd.R (Kd.int .u8) 5 wc w.heap.size (fun k_ => some k_ ≠ ((.slice Ao13 t741.length co13) : Value).ownBlock ∧ some k_ ≠ ((.slice Ao31 t754.length co31) : Value).ownBlock) (.slice Ao50 t764.length co50) t764) ∧ Aside0 (wc.heap[gb739]? = some (.cells #[.int .i64 a0_0, .string a0_1, .string a0_2, .int .i64 a0_3, .int .u64 a0_4, .int .u64 a0_5, (.slice A0_6 l0_6.length c0_6), (.slice A0_7 l0_7.length c0_7)] 26 (0, 0))) ∧ Aside0 (wc.heap[gb758]? = some (.cells #[.int .i64 t753, (.slice Ao31 t754.length co31)] 36 (0, 0))) ∧ Aside0 (wc.heap[gb768]? = some (.cells #[.int .i64 t763, (.slice Ao50 t764.length co50)] 36 (0, 0))) ∧ Aside0 (Below w.heap.size w wc))
              case first =>
                have H := HC40.out
                clear HC40
                by_cases c53 : t767 = 0
                rotate_left
                · rw [if_neg c53] at H
                  exact absurd H (by simp)
                rw [if_pos c53] at H
                have c53b0 : (t767 == 0) = true := beq_iff_eq.mpr c53
                have c53b1 : (t767 != 0) = false := bne_eq_false_iff_eq.mpr c53
                clear c53
                (first | rw [c53b0] | (simp only [i64_w, i32_w]; rw [c53b0]) | skip)
                by_cases c54 : t769 = x7_2
                rotate_left
                · rw [if_neg c54] at H
                  have c54b0 : (t769 == x7_2) = false := beq_eq_false_iff_ne.mpr c54
                  have c54b1 : (t769 != x7_2) = true := bne_iff_ne.mpr c54
                  rw [hfb] at c54b0
                  subst c54b0
                  as_aux_lemma =>
                    have H' := Aside0.mk H
                    clear H
                    go_wp2
                    go_meet
                    case rel => exact ⟨_, (false), (by first | rfl | (simp; done) | (simp [*]; done)), H', ⟨by have := HJ6.out; have := HK2.out; have := HJ22.out; first | omega | exact Nat.le_refl _⟩, ⟨by (with_reducible repeat (first | apply Kd.R_alloc | apply Kd.R_drewN | apply Kd.R_drew)); exact Kd.R_mono (Kd.R_far (p := ⟨gb768, 1, none⟩) (Kd.R_far (p := ⟨gb768, 0, none⟩) (Kd.R_types HO_3.out BK768.out (by decide)) (fun _ hk => hk.2) (.int .i64 t763)) (fun _ hk => hk.2) (.slice Ao50 t764.length co50)) (fun _ hk => ⟨hk.1.1, hk.1.2⟩)⟩, ⟨by (with_reducible repeat (first | apply Kd.N_alloc | apply Kd.N_drewN | apply Kd.N_drew)); exact Kd.N_mono (Kd.N_far (p := ⟨gb768, 1, none⟩) (Kd.N_far (p := ⟨gb768, 0, none⟩) (Kd.N_mono HO_5.out (fun k_ hk => (⟨hk, hk.2⟩ : _ ∧ k_ ≠ gb768))) (fun _ hk => hk.2) (.int .i64 t763)) (fun _ hk => hk.2) (.slice Ao50 t764.length co50)) (fun _ hk => ⟨hk.1.1.1.1.1, ⟨hk.1.1.2, ⟨hk.1.1.1.1.2.1, ⟨hk.1.1.1.1.2.2, hk.1.2⟩⟩⟩⟩)⟩, ⟨by (with_reducible repeat (first | apply Kd.R_alloc | apply Kd.R_drewN | apply Kd.R_drew)); exact Kd.R_mono (Kd.R_far (p := ⟨gb768, 1, none⟩) (Kd.R_far (p := ⟨gb768, 0, none⟩) (Kd.R_types HO_759001.out BK768.out (by decide)) (fun _ hk => hk.2) (.int .i64 t763)) (fun _ hk => hk.2) (.slice Ao50 t764.length co50)) (fun _ hk => ⟨hk.1.1, hk.1.2⟩)⟩, ⟨by (with_reducible repeat (first | apply Kd.R_alloc | apply Kd.R_drewN | apply Kd.R_drew)); exact Kd.R_mono (Kd.R_far (p := ⟨gb768, 1, none⟩) (Kd.R_far (p := ⟨gb768, 0, none⟩) (Kd.R_types HO766.out BK768.out (by decide)) (fun _ hk => hk.2) (.int .i64 t763)) (fun _ hk => hk.2) (.slice Ao50 t764.length co50)) (fun _ hk => ⟨hk.1.1.2, hk.1.2⟩)⟩, ⟨by (with_reducible repeat (first | refine blk_drewN ?_ _ | refine blk_drew ?_ | refine blk_alloc ?_ _)); refine blk_far ?_ NB739_768.out _; (with_reducible repeat (first | refine blk_drewN ?_ _ | refine blk_drew ?_ | refine blk_alloc ?_ _)); refine blk_far ?_ NB739_768.out _; (with_reducible repeat (first | refine blk_drewN ?_ _ | refine blk_drew ?_ | refine blk_alloc ?_ _)); exact BK739.out⟩, ⟨by (with_reducible repeat (first | refine blk_drewN ?_ _ | refine blk_drew ?_ | refine blk_alloc ?_ _)); refine blk_far ?_ NB758_768.out _; (with_reducible repeat (first | refine blk_drewN ?_ _ | refine blk_drew ?_ | refine blk_alloc ?_ _)); refine blk_far ?_ NB758_768.out _; (with_reducible repeat (first | refine blk_drewN ?_ _ | refine blk_drew ?_ | refine blk_alloc ?_ _)); exact BK758.out⟩, ⟨by (with_reducible repeat (first | refine blk_drewN ?_ _ | refine blk_drew ?_ | refine blk_alloc ?_ _)); refine blk_put (cs := #[.int .i64 t763, .slice none 0 0]) ?_ 1 _ rfl; (with_reducible repeat (first | refine blk_drewN ?_ _ | refine blk_drew ?_ | refine blk_alloc ?_ _)); refine blk_put (cs := #[.int .i64 0, .slice none 0 0]) ?_ 0 _ rfl; (with_reducible repeat (first | refine blk_drewN ?_ _ | refine blk_drew ?_ | refine blk_alloc ?_ _)); exact BK768.out⟩, ⟨HW.zb⟩⟩
                rw [if_pos c54] at H
                have c54b0 : (t769 == x7_2) = true := beq_iff_eq.mpr c54
                have c54b1 : (t769 != x7_2) = false := bne_eq_false_iff_eq.mpr c54
                rw [hfb] at c54b0
                subst c54b0
                clear c54
                replace H := Option.bind_eq_some_iff.mp H
                obtain ⟨t770, A550, H⟩ := H
                replace H : (laws_FnBindRoads.j3 kj22 t741 t745 x7_2 (!t770) a0_0 a0_1 a0_2 a0_3 a0_4 a0_5 l0_6 l0_7) = some r := H
                have A55 := Aside0.mk A550
                clear A550
                as_aux_lemma =>
                  have H' := Aside0.mk H
                  clear H
                  have hnb56 := NB768_739.out
                  have hnc56 := NB739_768.out
                  have hnb57 := NB768_758.out
                  have hnc57 := NB758_768.out
                  have hcz58_0 := HW.zc BK768.out 0 (.int .i64 0)
                  have hcz58_1 := HW.zc BK768.out 1 (.slice none 0 0)
                  have hfz59_0 := blk_frozen BK768.out 0
                  have hfz59_1 := blk_frozen BK768.out 1
                  have hnb60 := NB758_739.out
                  have hnc60 := NB739_758.out
                  have hcz61_0 := HW.zc BK758.out 0 (.int .i64 t753)
                  have hcz61_1 := HW.zc BK758.out 1 (.slice Ao31 t754.length co31)
                  go_wp2_with (first | (go_at_call 12; (with_reducible refine (spec_BindSame.calls t763 _ _ t764 t753 _ _ t754 t770 _ ?side1 ?side2 ?side3 ?side4 A55.out).mono ?_); (case side1 => refine (Kd.R_reads' (e := 5) (base := w.heap.size) (ok := fun k_ => ((True ∧ some k_ ≠ (.slice Ao13 t741.length co13 : Value).ownBlock) ∧ some k_ ≠ (.slice Ao31 t754.length co31 : Value).ownBlock)) (n := t764.length) (c := co50) ?_).2.2; exact (by (with_reducible repeat (first | apply Kd.R_alloc | apply Kd.R_drewN | apply Kd.R_drew)); exact (Kd.R_mono (Kd.R_far (p := ⟨gb768, 1, none⟩) (Kd.R_far (p := ⟨gb768, 0, none⟩) (Kd.R_types HO766.out BK768.out (by decide)) (fun _ hk => hk.2) (.int .i64 t763)) (fun _ hk => hk.2) (.slice Ao50 t764.length co50)) (fun _ h_ => h_.1)))); (case side2 => exact (Kd.R_reads' HO766.out).2.1); (case side3 => refine (Kd.R_reads' (e := 5) (base := w.heap.size) (ok := fun k_ => (some k_ ≠ (.slice Ao13 t741.length co13 : Value).ownBlock ∧ some k_ ≠ (.slice Ao50 t764.length co50 : Value).ownBlock)) (n := t754.length) (c := co31) ?_).2.2; exact (by (with_reducible repeat (first | apply Kd.R_alloc | apply Kd.R_drewN | apply Kd.R_drew)); exact (Kd.R_mono (Kd.R_far (p := ⟨gb768, 1, none⟩) (Kd.R_far (p := ⟨gb768, 0, none⟩) (Kd.R_types HO_759001.out BK768.out (by decide)) (fun _ hk => hk.2) (.int .i64 t763)) (fun _ hk => hk.2) (.slice Ao50 t764.length co50)) (fun _ h_ => h_.1)))); (case side4 => exact (Kd.R_reads' HO_759001.out).2.1); rintro e w62 ⟨rfl, hb⟩; have n0_ := Aside0.mk (Kd.R_below (by (with_reducible repeat (first | apply Kd.R_alloc | apply Kd.R_drewN | apply Kd.R_drew)); exact (Kd.R_mono (Kd.R_far (p := ⟨gb768, 1, none⟩) (Kd.R_far (p := ⟨gb768, 0, none⟩) (Kd.R_types HO_3.out BK768.out (by decide)) (fun _ hk => hk.2) (.int .i64 t763)) (fun _ hk => hk.2) (.slice Ao50 t764.length co50)) (fun _ h_ => h_.1))) hb); have n1_ := Aside0.mk (Kd.N_below (by (with_reducible repeat (first | apply Kd.N_alloc | apply Kd.N_drewN | apply Kd.N_drew)); exact (Kd.N_mono (Kd.N_far (p := ⟨gb768, 1, none⟩) (Kd.N_far (p := ⟨gb768, 0, none⟩) (Kd.N_mono HO_5.out (fun k_ hk => (⟨hk, hk.2⟩ : _ ∧ k_ ≠ gb768))) (fun _ hk => hk.2) (.int .i64 t763)) (fun _ hk => hk.2) (.slice Ao50 t764.length co50)) (fun _ h_ => h_.1))) hb); have n2_ := Aside0.mk (Kd.R_below (by (with_reducible repeat (first | apply Kd.R_alloc | apply Kd.R_drewN | apply Kd.R_drew)); exact (Kd.R_mono (Kd.R_far (p := ⟨gb768, 1, none⟩) (Kd.R_far (p := ⟨gb768, 0, none⟩) (Kd.R_types HO_759001.out BK768.out (by decide)) (fun _ hk => hk.2) (.int .i64 t763)) (fun _ hk => hk.2) (.slice Ao50 t764.length co50)) (fun _ h_ => h_.1))) hb); have n4_ := Aside0.mk (Kd.R_below (by (with_reducible repeat (first | apply Kd.R_alloc | apply Kd.R_drewN | apply Kd.R_drew)); exact (Kd.R_mono (Kd.R_far (p := ⟨gb768, 1, none⟩) (Kd.R_far (p := ⟨gb768, 0, none⟩) (Kd.R_types HO766.out BK768.out (by decide)) (fun _ hk => hk.2) (.int .i64 t763)) (fun _ hk => hk.2) (.slice Ao50 t764.length co50)) (fun _ h_ => h_.1))) hb); have n5_ := Aside0.mk (blk_below (g := gb739) (o := .cells #[.int .i64 a0_0, .string a0_1, .string a0_2, .int .i64 a0_3, .int .u64 a0_4, .int .u64 a0_5, .slice A0_6 l0_6.length c0_6, .slice A0_7 l0_7.length c0_7] 26 (0, 0)) (by (with_reducible repeat (first | refine blk_drewN ?_ _ | refine blk_drew ?_ | refine blk_alloc ?_ _)); refine blk_far ?_ NB739_768.out _; (with_reducible repeat (first | refine blk_drewN ?_ _ | refine blk_drew ?_ | refine blk_alloc ?_ _)); refine blk_far ?_ NB739_768.out _; (with_reducible repeat (first | refine blk_drewN ?_ _ | refine blk_drew ?_ | refine blk_alloc ?_ _)); exact BK739.out) hb); have n6_ := Aside0.mk (blk_below (g := gb758) (o := .cells #[.int .i64 t753, .slice Ao31 t754.length co31] 36 (0, 0)) (by (with_reducible repeat (first | refine blk_drewN ?_ _ | refine blk_drew ?_ | refine blk_alloc ?_ _)); refine blk_far ?_ NB758_768.out _; (with_reducible repeat (first | refine blk_drewN ?_ _ | refine blk_drew ?_ | refine blk_alloc ?_ _)); refine blk_far ?_ NB758_768.out _; (with_reducible repeat (first | refine blk_drewN ?_ _ | refine blk_drew ?_ | refine blk_alloc ?_ _)); exact BK758.out) hb); have n7_ := Aside0.mk (blk_below (g := gb768) (o := .cells #[.int .i64 t763, .slice Ao50 t764.length co50] 36 (0, 0)) (by (with_reducible repeat (first | refine blk_drewN ?_ _ | refine blk_drew ?_ | refine blk_alloc ?_ _)); refine blk_put (cs := #[.int .i64 t763, .slice none 0 0]) ?_ 1 _ rfl; (with_reducible repeat (first | refine blk_drewN ?_ _ | refine blk_drew ?_ | refine blk_alloc ?_ _)); refine blk_put (cs := #[.int .i64 0, .slice none 0 0]) ?_ 0 _ rfl; (with_reducible repeat (first | refine blk_drewN ?_ _ | refine blk_drew ?_ | refine blk_alloc ?_ _)); exact BK768.out) hb); have n8_ := Aside0.mk (below_step HW.zb hb); clear HO_3; clear HO_5; clear HO_759001; clear HO766; clear BK739; clear BK758; clear BK768; clear HB; have HO_3 := n0_; have HO_5 := n1_; have HO_759001 := n2_; have HO766 := n4_; have BK739 := n5_; have BK758 := n6_; have BK768 := n7_; have HB := n8_; clear n0_ n1_ n2_ n4_ n5_ n6_ n7_ n8_; (try clear hb); (try clear hb2); (try clear hk); (try clear hi)))
                  go_meet
                  case rel => exact ⟨_, (!t770), (by first | rfl | (simp; done) | (simp [*]; done)), H', ⟨by have := HJ6.out; have := HK2.out; have := HJ22.out; first | omega | exact Nat.le_refl _⟩, ⟨HW.zR HO_3.out⟩, ⟨by (with_reducible repeat (first | apply Kd.N_alloc | apply Kd.N_drewN | apply Kd.N_drew)); exact Kd.N_mono HO_5.out (fun _ hk => ⟨hk.1.1.1.1, ⟨hk.1.2, ⟨hk.1.1.1.2.1, ⟨hk.1.1.1.2.2, hk.2⟩⟩⟩⟩)⟩, ⟨HW.zR HO_759001.out⟩, ⟨by (with_reducible repeat (first | apply Kd.R_alloc | apply Kd.R_drewN | apply Kd.R_drew)); exact Kd.R_mono HO766.out (fun _ hk => ⟨hk.1.2, hk.2⟩)⟩, ⟨by (with_reducible repeat (first | refine blk_drewN ?_ _ | refine blk_drew ?_ | refine blk_alloc ?_ _)); exact BK739.out⟩, ⟨by (with_reducible repeat (first | refine blk_drewN ?_ _ | refine blk_drew ?_ | refine blk_alloc ?_ _)); exact BK758.out⟩, ⟨by (with_reducible repeat (first | refine blk_drewN ?_ _ | refine blk_drew ?_ | refine blk_alloc ?_ _)); exact BK768.out⟩, ⟨HW.zb⟩⟩
              case rest =>
                clear HC40
                try clear c1
                try clear c2
                try clear p2
                try clear c3
                try clear c4
                try clear c5
                try clear c6
                try clear c7
                try clear p7
                try clear q7
                try clear hx7
                try clear c8
                try clear c11
                try clear c13
                try clear c14
                try clear c15
                try clear c18
                try clear c19
                try clear c19b0
                try clear c20
                try clear c20b0
                try clear c28
                try clear c32
                try clear c32b0
                try clear c32b1
                try clear c33
                try clear c33b0
                try clear c33b1
                try clear c34
                try clear c34b0
                try clear c35
                try clear c37
                try clear c46
                try clear c47
                try clear c51
                try clear c53
                try clear c53b0
                try clear c53b1
                try clear c54
                try clear c54b0
                try clear c54b1
                try clear c56
                try clear c57
                try clear c60
                try clear hcz11_0
                try clear hcz11_1
                try clear hcz11_2
                try clear hcz11_3
                try clear hcz11_4
                try clear hcz11_5
                try clear hcz11_6
                try clear hcz11_7
                try clear hcz17_0
                try clear hcz17_1
                try clear hcz17_2
                try clear hcz17_3
                try clear hcz17_4
                try clear hcz17_5
                try clear hcz17_6
                try clear hcz17_7
                try clear hcz29_0
                try clear hcz29_1
                try clear hcz36_0
                try clear hcz36_1
                try clear hcz36_2
                try clear hcz36_3
                try clear hcz36_4
                try clear hcz36_5
                try clear hcz36_6
                try clear hcz36_7
                try clear hcz48_0
                try clear hcz48_1
                try clear hcz52_0
                try clear hcz52_1
                try clear hcz52_2
                try clear hcz52_3
                try clear hcz52_4
                try clear hcz52_5
                try clear hcz52_6
                try clear hcz52_7
                try clear hcz58_0
                try clear hcz58_1
                try clear hcz61_0
                try clear hcz61_1
                try clear hcz9_0
                try clear hcz9_1
                try clear hcz9_2
                try clear hcz9_3
                try clear hcz9_4
                try clear hcz9_5
                try clear hcz9_6
                try clear hcz9_7
                try clear hfz30_0
                try clear hfz30_1
                try clear hfz49_0
                try clear hfz49_1
                try clear hfz59_0
                try clear hfz59_1
                try clear hx749_0
                try clear hx752_0
                try clear hx759_0
                try clear hx759_1
                try clear hx759_2
                try clear hx759_3
                try clear hx759_4
                try clear hx759_5
                try clear hx759_6
                try clear hx759_7
                try clear hx759_8
                try clear p2
                try clear p7
                try clear p749
                try clear p752
                try clear p759
                try clear q7
                try clear q749
                try clear q752
                try clear q759
                obtain ⟨kq, x101_39, rfl, HA, HJ39, HO_3, HO_5, HO_759001, HO_769001, BK739, BK758, BK768, HB⟩ := hcut
                cases kq with
                | zero => exact absurd HA.out (by simp [laws_FnBindRoads.j3])
                | succ kj39 =>
                  have H := HA.out
                  clear HA
                  simp only [laws_FnBindRoads.j3] at H
                  by_cases c63 : x101_39 = true
                  · subst c63
                    have H1 : (none) = some r := by rw [if_pos rfl] at H; exact H
                    clear H
                    have H := H1
                    clear H1
                    exact absurd H (by simp)
                  replace c63 := Bool.eq_false_iff.mpr c63
                  subst c63
                  have H1 : (laws_FnBindRoads.l0 kj39 t741 t745 (wrap64 (x7_2 + 1)) a0_0 a0_1 a0_2 a0_3 a0_4 a0_5 l0_6 l0_7) = some r := by rw [if_neg (show ¬ (false = true) by decide)] at H; exact H
                  clear H
                  have H := H1
                  clear H1
                  as_aux_lemma =>
                    have H' := Aside0.mk H
                    clear H
                    go_wp2
                    go_roundg kj39
                    case measure => have := HJ6.out; have := HK2.out; have := HJ22.out; have := HJ39.out; omega
                    case rel => exact ⟨(wrap64 (x7_2 + 1)), (by first | rfl | (simp; done) | (simp [*]; done)), H', ⟨by have := HJ6.out; have := HK2.out; have := HJ22.out; have := HJ39.out; omega⟩, ⟨by (with_reducible repeat (first | apply Kd.R_alloc | apply Kd.R_drewN | apply Kd.R_drew)); exact Kd.R_mono HO_3.out (fun _ hk => trivial)⟩, ⟨by (with_reducible repeat (first | apply Kd.N_alloc | apply Kd.N_drewN | apply Kd.N_drew)); exact Kd.N_mono HO_5.out (fun _ hk => hk.2.2.1)⟩, ⟨by (with_reducible repeat (first | refine blk_drewN ?_ _ | refine blk_drew ?_ | refine blk_alloc ?_ _)); exact BK739.out⟩, ⟨HW.zb⟩⟩

end Go.Proofs.YtlcgakpnpdkjjaaDoor.PRd
