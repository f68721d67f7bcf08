/- Printed by a program of this session (a turned copy of the printer of the kit): contracts of functions of the translation, each with the Lean function that it computes. Conditions: as each theorem states them. -/
import Derived.Test.YtbfhpjkahobgnaaGreatDoorPLox0
import Derived.Test.YtbfhpjkahobgnaaGreatDoorPLox6
import Derived.Test.YtbfhpjkahobgnaaGreatDoorPLox7
import Derived.Test.YtbfhpjkahobgnaaGreatDoorPLox10
import Derived.Test.YtbfhpjkahobgnaaGreatDoorPLox11
import Derived.Test.YtbfhpjkahobgnaaGreatDoorPLox12
import Derived.Test.YtbfhpjkahobgnaaGreatDoorPLox14
namespace Go.Proofs.YtbfhpjkahobgnaaGreatDoor.PLo
open Go.RowKit Go.Proofs.YtbfhpjkahobgnaaGreatDoorW.PrintWords Go.Proofs.YtbfhpjkahobgnaaGreatDoorW.PrintLast Go.Proofs.YtbfhpjkahobgnaaGreatDoorW.PrintMore
attribute [local go_sem] max2_int min2_int max_two min_two max_three min_three max_four min_four   -- for this text's walks alone
set_option linter.unusedVariables false
set_option linter.unusedSimpArgs false

/-! ### laws_FnDocLookup: function 4 -/
mutual
def laws_FnDocLookup.j0 : Nat → List (S73) → List ByteArray → Bool → Option (Bool)
  | 0, _, _, _ => none
  | k + 1, x0, x1, x20 => if x20 = true then (some true) else ((laws_docFineKids.f k x0).bind fun t744 => (if t744 = true then (laws_FnDocLookup.j1 k x0 x1 (decide ((x1.length : Int) > 20))) else (laws_FnDocLookup.j1 k x0 x1 true)))
def laws_FnDocLookup.j1 : Nat → List (S73) → List ByteArray → Bool → Option (Bool)
  | 0, _, _, _ => none
  | k + 1, x0, x1, x28 => if x28 = true then (some true) else (laws_FnDocLookup.l0 k x0 x1 0)
def laws_FnDocLookup.l0 : Nat → List (S73) → List ByteArray → Int → Option (Bool)
  | 0, _, _, _ => none
  | k + 1, x0, x1, x5 => if x5 < (x1.length : Int) then (if 0 ≤ x5 then ((spec_DocPlain.f k (rdOf ByteArray.empty x1 x5)).bind fun t746 => (if t746 = true then (laws_FnDocLookup.j3 k x0 x1 x5 (decide (((rdOf ByteArray.empty x1 x5).size : Int) > 200))) else (laws_FnDocLookup.j3 k x0 x1 x5 true))) else (none)) else ((laws_docLeads.f k x0 x1).bind fun bt748 => ((spec_DocBytes.f k x0).bind fun t762 => ((impl_Lookup.f k t762 x1).bind fun bt765 => ((impl_LookupPlain.f k t762 x1).bind fun bt771 => (if bt748.2.2.2.2.2.2.2.2 = 0 then ((spec_DocValue.f k bt748.1 bt748.2.1 bt748.2.2.1 bt748.2.2.2.1 bt748.2.2.2.2.1 bt748.2.2.2.2.2.1 bt748.2.2.2.2.2.2.1 bt748.2.2.2.2.2.2.2.1).bind fun t777 => (if bt765.2.2 = 0 then ((laws_docSameRaw.f bt765.1 bt765.2.1 bt748.1 t777).bind fun t780 => (if t780 = true then ((laws_docSameRaw.f bt771.1 bt771.2 bt748.1 t777).bind fun t781 => (some t781)) else (none))) else (none))) else ((laws_docAwake.f k).bind fun t776 => (if t776 = true then (if bt765.2.2 = bt748.2.2.2.2.2.2.2.2 then (if (bt771.2.length : Int) = 0 then (some (bt771.1 == 0)) else (none)) else (none)) else (none))))))))
def laws_FnDocLookup.j3 : Nat → List (S73) → List ByteArray → Int → Bool → Option (Bool)
  | 0, _, _, _, _ => none
  | k + 1, x0, x1, x5, x48 => if x48 = true then (some true) else (laws_FnDocLookup.l0 k x0 x1 (wrap64 (x5 + 1)))
end
def laws_FnDocLookup.f (k : Nat) (l0 : List (S73)) (l1 : List ByteArray) : Option (Bool) := if (l0.length : Int) > 2147483647 then (laws_FnDocLookup.j0 k l0 l1 true) else ((laws_zzFits2.f k l1).bind fun t743 => (laws_FnDocLookup.j0 k l0 l1 (!t743)))
theorem laws_FnDocLookup.mono_l : ∀ k, (∀ y0 y1 y2, LeO (laws_FnDocLookup.j0 k y0 y1 y2) (laws_FnDocLookup.j0 (k + 1) y0 y1 y2)) ∧ (∀ y0 y1 y2, LeO (laws_FnDocLookup.j1 k y0 y1 y2) (laws_FnDocLookup.j1 (k + 1) y0 y1 y2)) ∧ (∀ y0 y1 y2, LeO (laws_FnDocLookup.l0 k y0 y1 y2) (laws_FnDocLookup.l0 (k + 1) y0 y1 y2)) ∧ (∀ y0 y1 y2 y3, LeO (laws_FnDocLookup.j3 k y0 y1 y2 y3) (laws_FnDocLookup.j3 (k + 1) y0 y1 y2 y3))
  | 0 => ⟨fun _ _ _ r h => by simp [laws_FnDocLookup.j0] at h, fun _ _ _ r h => by simp [laws_FnDocLookup.j1] at h, fun _ _ _ r h => by simp [laws_FnDocLookup.l0] at h, fun _ _ _ _ r h => by simp [laws_FnDocLookup.j3] at h⟩
  | k + 1 => by
    obtain ⟨ih0, ih1, ih2, ih3⟩ := laws_FnDocLookup.mono_l k
    refine ⟨?_, ?_, ?_, ?_⟩
    · intro y0 y1 y2
      unfold laws_FnDocLookup.j0
      repeat' first
      | (with_reducible exact ih0 _ _ _)
      | (with_reducible exact ih1 _ _ _)
      | (with_reducible exact ih2 _ _ _)
      | (with_reducible exact ih3 _ _ _ _)
      | (with_reducible exact impl_Lookup.mono _ _ _)
      | (with_reducible exact impl_LookupPlain.mono _ _ _)
      | (with_reducible exact laws_docAwake.mono _)
      | (with_reducible exact laws_docFineKids.mono _ _)
      | (with_reducible exact laws_docLeads.mono _ _ _)
      | (with_reducible exact laws_zzFits2.mono _ _)
      | (with_reducible exact spec_DocBytes.mono _ _)
      | (with_reducible exact spec_DocPlain.mono _ _)
      | (with_reducible exact spec_DocValue.mono _ _ _ _ _ _ _ _ _)
      | (with_reducible exact LeO.refl _)
      | (with_reducible exact LeO.none _)
      | (with_reducible refine LeO.ite ?_ ?_)
      | (with_reducible refine LeO.bind ?_ (fun _ => ?_))
      | exact ih0 _ _ _
      | exact ih1 _ _ _
      | exact ih2 _ _ _
      | exact ih3 _ _ _ _
      | exact impl_Lookup.mono _ _ _
      | exact impl_LookupPlain.mono _ _ _
      | exact laws_docAwake.mono _
      | exact laws_docFineKids.mono _ _
      | exact laws_docLeads.mono _ _ _
      | exact laws_zzFits2.mono _ _
      | exact spec_DocBytes.mono _ _
      | exact spec_DocPlain.mono _ _
      | exact spec_DocValue.mono _ _ _ _ _ _ _ _ _
      | exact LeO.none _
      | refine LeO.ite ?_ ?_
      | refine LeO.bind ?_ (fun _ => ?_)
    · intro y0 y1 y2
      unfold laws_FnDocLookup.j1
      repeat' first
      | (with_reducible exact ih0 _ _ _)
      | (with_reducible exact ih1 _ _ _)
      | (with_reducible exact ih2 _ _ _)
      | (with_reducible exact ih3 _ _ _ _)
      | (with_reducible exact impl_Lookup.mono _ _ _)
      | (with_reducible exact impl_LookupPlain.mono _ _ _)
      | (with_reducible exact laws_docAwake.mono _)
      | (with_reducible exact laws_docFineKids.mono _ _)
      | (with_reducible exact laws_docLeads.mono _ _ _)
      | (with_reducible exact laws_zzFits2.mono _ _)
      | (with_reducible exact spec_DocBytes.mono _ _)
      | (with_reducible exact spec_DocPlain.mono _ _)
      | (with_reducible exact spec_DocValue.mono _ _ _ _ _ _ _ _ _)
      | (with_reducible exact LeO.refl _)
      | (with_reducible exact LeO.none _)
      | (with_reducible refine LeO.ite ?_ ?_)
      | (with_reducible refine LeO.bind ?_ (fun _ => ?_))
      | exact ih0 _ _ _
      | exact ih1 _ _ _
      | exact ih2 _ _ _
      | exact ih3 _ _ _ _
      | exact impl_Lookup.mono _ _ _
      | exact impl_LookupPlain.mono _ _ _
      | exact laws_docAwake.mono _
      | exact laws_docFineKids.mono _ _
      | exact laws_docLeads.mono _ _ _
      | exact laws_zzFits2.mono _ _
      | exact spec_DocBytes.mono _ _
      | exact spec_DocPlain.mono _ _
      | exact spec_DocValue.mono _ _ _ _ _ _ _ _ _
      | exact LeO.none _
      | refine LeO.ite ?_ ?_
      | refine LeO.bind ?_ (fun _ => ?_)
    · intro y0 y1 y2
      unfold laws_FnDocLookup.l0
      repeat' first
      | (with_reducible exact ih0 _ _ _)
      | (with_reducible exact ih1 _ _ _)
      | (with_reducible exact ih2 _ _ _)
      | (with_reducible exact ih3 _ _ _ _)
      | (with_reducible exact impl_Lookup.mono _ _ _)
      | (with_reducible exact impl_LookupPlain.mono _ _ _)
      | (with_reducible exact laws_docAwake.mono _)
      | (with_reducible exact laws_docFineKids.mono _ _)
      | (with_reducible exact laws_docLeads.mono _ _ _)
      | (with_reducible exact laws_zzFits2.mono _ _)
      | (with_reducible exact spec_DocBytes.mono _ _)
      | (with_reducible exact spec_DocPlain.mono _ _)
      | (with_reducible exact spec_DocValue.mono _ _ _ _ _ _ _ _ _)
      | (with_reducible exact LeO.refl _)
      | (with_reducible exact LeO.none _)
      | (with_reducible refine LeO.ite ?_ ?_)
      | (with_reducible refine LeO.bind ?_ (fun _ => ?_))
      | exact ih0 _ _ _
      | exact ih1 _ _ _
      | exact ih2 _ _ _
      | exact ih3 _ _ _ _
      | exact impl_Lookup.mono _ _ _
      | exact impl_LookupPlain.mono _ _ _
      | exact laws_docAwake.mono _
      | exact laws_docFineKids.mono _ _
      | exact laws_docLeads.mono _ _ _
      | exact laws_zzFits2.mono _ _
      | exact spec_DocBytes.mono _ _
      | exact spec_DocPlain.mono _ _
      | exact spec_DocValue.mono _ _ _ _ _ _ _ _ _
      | exact LeO.none _
      | refine LeO.ite ?_ ?_
      | refine LeO.bind ?_ (fun _ => ?_)
    · intro y0 y1 y2 y3
      unfold laws_FnDocLookup.j3
      repeat' first
      | (with_reducible exact ih0 _ _ _)
      | (with_reducible exact ih1 _ _ _)
      | (with_reducible exact ih2 _ _ _)
      | (with_reducible exact ih3 _ _ _ _)
      | (with_reducible exact impl_Lookup.mono _ _ _)
      | (with_reducible exact impl_LookupPlain.mono _ _ _)
      | (with_reducible exact laws_docAwake.mono _)
      | (with_reducible exact laws_docFineKids.mono _ _)
      | (with_reducible exact laws_docLeads.mono _ _ _)
      | (with_reducible exact laws_zzFits2.mono _ _)
      | (with_reducible exact spec_DocBytes.mono _ _)
      | (with_reducible exact spec_DocPlain.mono _ _)
      | (with_reducible exact spec_DocValue.mono _ _ _ _ _ _ _ _ _)
      | (with_reducible exact LeO.refl _)
      | (with_reducible exact LeO.none _)
      | (with_reducible refine LeO.ite ?_ ?_)
      | (with_reducible refine LeO.bind ?_ (fun _ => ?_))
      | exact ih0 _ _ _
      | exact ih1 _ _ _
      | exact ih2 _ _ _
      | exact ih3 _ _ _ _
      | exact impl_Lookup.mono _ _ _
      | exact impl_LookupPlain.mono _ _ _
      | exact laws_docAwake.mono _
      | exact laws_docFineKids.mono _ _
      | exact laws_docLeads.mono _ _ _
      | exact laws_zzFits2.mono _ _
      | exact spec_DocBytes.mono _ _
      | exact spec_DocPlain.mono _ _
      | exact spec_DocValue.mono _ _ _ _ _ _ _ _ _
      | exact LeO.none _
      | refine LeO.ite ?_ ?_
      | refine LeO.bind ?_ (fun _ => ?_)
theorem laws_FnDocLookup.mono : ∀ a0 a1 k, LeO (laws_FnDocLookup.f k a0 a1) (laws_FnDocLookup.f (k + 1) a0 a1) := by
  intro a0 a1 k
  obtain ⟨ih0, ih1, ih2, ih3⟩ := laws_FnDocLookup.mono_l k
  unfold laws_FnDocLookup.f
  repeat' first
      | (with_reducible exact ih0 _ _ _)
      | (with_reducible exact ih1 _ _ _)
      | (with_reducible exact ih2 _ _ _)
      | (with_reducible exact ih3 _ _ _ _)
      | (with_reducible exact impl_Lookup.mono _ _ _)
      | (with_reducible exact impl_LookupPlain.mono _ _ _)
      | (with_reducible exact laws_docAwake.mono _)
      | (with_reducible exact laws_docFineKids.mono _ _)
      | (with_reducible exact laws_docLeads.mono _ _ _)
      | (with_reducible exact laws_zzFits2.mono _ _)
      | (with_reducible exact spec_DocBytes.mono _ _)
      | (with_reducible exact spec_DocPlain.mono _ _)
      | (with_reducible exact spec_DocValue.mono _ _ _ _ _ _ _ _ _)
      | (with_reducible exact LeO.refl _)
      | (with_reducible exact LeO.none _)
      | (with_reducible refine LeO.ite ?_ ?_)
      | (with_reducible refine LeO.bind ?_ (fun _ => ?_))
      | exact ih0 _ _ _
      | exact ih1 _ _ _
      | exact ih2 _ _ _
      | exact ih3 _ _ _ _
      | exact impl_Lookup.mono _ _ _
      | exact impl_LookupPlain.mono _ _ _
      | exact laws_docAwake.mono _
      | exact laws_docFineKids.mono _ _
      | exact laws_docLeads.mono _ _ _
      | exact laws_zzFits2.mono _ _
      | exact spec_DocBytes.mono _ _
      | exact spec_DocPlain.mono _ _
      | exact spec_DocValue.mono _ _ _ _ _ _ _ _ _
      | exact LeO.none _
      | refine LeO.ite ?_ ?_
      | refine LeO.bind ?_ (fun _ => ?_)
set_option maxHeartbeats 8000000 in
set_option maxRecDepth 100000 in
theorem laws_FnDocLookup.calls (ρ : Nat → Addr) (k : Nat) (A0 : Option Addr) (c0 : Nat) (l0 : List (S73)) (A1 : Option Addr) (c1 : Nat) (l1 : List ByteArray) (r : Bool) (w : World) (hL : Er.LaidE ρ w) (hr0 : Kd.C k73 w A0 l0.length l0) (hc0 : l0.length ≤ c0) (hr1 : Kd.C Kd.string w A1 l1.length l1) (hc1 : l1.length ≤ c1) (h : laws_FnDocLookup.f k l0 l1 = some r) :
    Calls Tryz.prog 4 #[.slice A0 l0.length c0, .slice A1 l1.length c1] w fun e w' => e = .returned (.bool r) ∧ Below w.heap.size w w' := by
  have hu46 := Tryz.underlying46; have hu25 := Tryz.underlying25; have HR0 := Aside0.mk hr0; have HC0 := Aside0.mk hc0; clear hr0 hc0; have HR1 := Aside0.mk hr1; have HC1 := Aside0.mk hc1; clear hr1 hc1; have HB := Aside0.mk (Below.refl w.heap.size w); have HL_ := Aside0.mk hL; clear hL; have H : (if (l0.length : Int) > 2147483647 then (laws_FnDocLookup.j0 k l0 l1 true) else ((laws_zzFits2.f k l1).bind fun t743 => (laws_FnDocLookup.j0 k l0 l1 (!t743)))) = some r := h; clear h; have HC3 := Aside0.mk H; clear H
  go_enter Tryz.func4, Tryz.ntmps4
  go_upto_region 1 with (fail)
  go_cut [20] (fun v20 wc => ∃ (kq : Nat) (x20_2 : Bool), v20 = .bool x20_2 ∧ Aside0 (laws_FnDocLookup.j0 kq l0 l1 x20_2 = some r) ∧ Aside0 (kq ≤ k) ∧ Aside0 (Below w.heap.size w wc))
  case first =>
    have H := HC3.out; clear HC3
    by_cases c4 : (l0.length : Int) > 2147483647
    · rw [if_pos c4] at H
      have c4b0 : decide (2147483647 < (l0.length : Int)) = true := decide_eq_true c4
      have c4b1 : decide (2147483647 < l0.length) = true := decide_eq_true (by omega)
      clear c4
      (first | rw [c4b0] | (simp only [i64_w, i32_w]; rw [c4b0]) | skip)
      focus
        have H' := Aside0.mk H; clear H
        go_wp2
        go_meet
        case rel => exact ⟨_, (true), (by first | rfl | (simp; done) | (simp [*]; done)), H', ⟨by first | omega | exact Nat.le_refl _⟩, ⟨HW.zb⟩⟩
    rw [if_neg c4] at H; have c4b0 : decide (2147483647 < (l0.length : Int)) = false := decide_eq_false c4
    have c4b1 : decide (2147483647 < l0.length) = false := decide_eq_false (by omega)
    clear c4
    (first | rw [c4b0] | (simp only [i64_w, i32_w]; rw [c4b0]) | skip)
    replace H := Option.bind_eq_some_iff.mp H; obtain ⟨t743, A50, H⟩ := H; replace H : (laws_FnDocLookup.j0 k l0 l1 (!t743)) = some r := H; have A5 := Aside0.mk A50; clear A50
    focus
      have H' := Aside0.mk H; clear H
      go_wp2_with (first | (go_at_call 13; (with_reducible refine (laws_zzFits2.calls k _ _ l1 t743 _ ?side1 ?side2 A5.out).mono ?_); (case side1 => repeat (first | exact (Kd.C_below HR1.out HB.out) | (with_reducible refine Kd.C_alloc ?_ _) | (with_reducible refine Kd.C_drewN ?_ _) | (with_reducible refine Kd.C_drew ?_))); (case side2 => exact HC1.out); rintro e w' ⟨rfl, ⟨nd, rfl⟩⟩))
      go_meet
      case rel => exact ⟨_, (!t743), (by first | rfl | (simp; done) | (simp [*]; done)), H', ⟨by first | omega | exact Nat.le_refl _⟩, ⟨HW.zb⟩⟩
  case rest =>
    clear HC3; (try clear c1); (try clear p2); (try clear c4); (try clear c4b0); (try clear c4b1); obtain ⟨kq, x20_2, rfl, HA, HJ2, HB⟩ := hcut
    cases kq with
    | zero => exact absurd HA.out (by simp [laws_FnDocLookup.j0])
    | succ kj2 =>
      have H := HA.out; clear HA
      simp only [laws_FnDocLookup.j0] at H
      by_cases c6 : x20_2 = true
      · subst c6
        have H1 : (some true) = some r := by rw [if_pos rfl] at H; exact H
        clear H; have H := H1; clear H1
        focus
          obtain rfl := Option.some.inj H
          go_wp2
          go_ret
          exact ⟨rfl, HW.zb⟩
      replace c6 := Bool.eq_false_iff.mpr c6; subst c6
      have H1 : ((laws_docFineKids.f kj2 l0).bind fun t744 => (if t744 = true then (laws_FnDocLookup.j1 kj2 l0 l1 (decide ((l1.length : Int) > 20))) else (laws_FnDocLookup.j1 kj2 l0 l1 true))) = some r := by rw [if_neg (show ¬ (false = true) by decide)] at H; exact H
      clear H; have H := H1; clear H1; have HC7 := Aside0.mk H; clear H
      go_upto_region 3 with (fail)
      go_cut [28] (fun v28 wc => ∃ (kq : Nat) (x28_6 : Bool), v28 = .bool x28_6 ∧ Aside0 (laws_FnDocLookup.j1 kq l0 l1 x28_6 = some r) ∧ Aside0 (kq ≤ kj2) ∧ Aside0 (Below w.heap.size w wc))
      case first =>
        have H := HC7.out; clear HC7; replace H := Option.bind_eq_some_iff.mp H; obtain ⟨t744, A80, H⟩ := H; replace H : (if t744 = true then (laws_FnDocLookup.j1 kj2 l0 l1 (decide ((l1.length : Int) > 20))) else (laws_FnDocLookup.j1 kj2 l0 l1 true)) = some r := H; have A8 := Aside0.mk A80; clear A80
        by_cases c9 : t744 = true
        · subst c9
          have H1 : (laws_FnDocLookup.j1 kj2 l0 l1 (decide ((l1.length : Int) > 20))) = some r := by rw [if_pos rfl] at H; exact H
          clear H; have H := H1; clear H1
          focus
            have H' := Aside0.mk H; clear H
            go_wp2_with (first | ((with_reducible refine gate_callee (f := 14) rfl ?_); refine HW.gz (some 22) rfl rfl Tryz.func14 (by kernel_rfl) rfl #[.slice A0 l0.length c0] rfl ?_; (with_reducible refine (laws_docFineKids.calls kj2 _ _ l0 true _ ?side1 ?side2 A8.out).mono ?_); (case side1 => repeat (first | exact (Kd.C_below HR0.out HB.out) | (with_reducible refine Kd.C_alloc ?_ _) | (with_reducible refine Kd.C_drewN ?_ _) | (with_reducible refine Kd.C_drew ?_))); (case side2 => exact HC0.out); rintro e w10 ⟨rfl, hb⟩; refine ⟨_, rfl, ?_⟩; replace HB := Aside0.mk (below_step HW.zb hb); (try clear hb)))
            go_meet
            case rel => exact ⟨_, (decide ((l1.length : Int) > 20)), (by first | rfl | (simp; done) | (simp [*]; done)), H', ⟨by have := HJ2.out; first | omega | exact Nat.le_refl _⟩, ⟨HW.zb⟩⟩
        replace c9 := Bool.eq_false_iff.mpr c9; subst c9
        have H1 : (laws_FnDocLookup.j1 kj2 l0 l1 true) = some r := by rw [if_neg (show ¬ (false = true) by decide)] at H; exact H
        clear H; have H := H1; clear H1
        focus
          have H' := Aside0.mk H; clear H
          go_wp2_with (first | ((with_reducible refine gate_callee (f := 14) rfl ?_); refine HW.gz (some 22) rfl rfl Tryz.func14 (by kernel_rfl) rfl #[.slice A0 l0.length c0] rfl ?_; (with_reducible refine (laws_docFineKids.calls kj2 _ _ l0 false _ ?side1 ?side2 A8.out).mono ?_); (case side1 => repeat (first | exact (Kd.C_below HR0.out HB.out) | (with_reducible refine Kd.C_alloc ?_ _) | (with_reducible refine Kd.C_drewN ?_ _) | (with_reducible refine Kd.C_drew ?_))); (case side2 => exact HC0.out); rintro e w11 ⟨rfl, hb⟩; refine ⟨_, rfl, ?_⟩; replace HB := Aside0.mk (below_step HW.zb hb); (try clear hb)))
          go_meet
          case rel => exact ⟨_, (true), (by first | rfl | (simp; done) | (simp [*]; done)), H', ⟨by have := HJ2.out; first | omega | exact Nat.le_refl _⟩, ⟨HW.zb⟩⟩
      case rest =>
        clear HC7; (try clear c1); (try clear p2); (try clear c4); (try clear c4b0); (try clear c4b1); (try clear c6); (try clear c9); (try clear p2); obtain ⟨kq, x28_6, rfl, HA, HJ6, HB⟩ := hcut
        cases kq with
        | zero => exact absurd HA.out (by simp [laws_FnDocLookup.j1])
        | succ kj6 =>
          have H := HA.out; clear HA
          simp only [laws_FnDocLookup.j1] at H
          by_cases c12 : x28_6 = true
          · subst c12
            have H1 : (some true) = some r := by rw [if_pos rfl] at H; exact H
            clear H; have H := H1; clear H1
            focus
              obtain rfl := Option.some.inj H
              go_wp2
              go_ret
              exact ⟨rfl, HW.zb⟩
          replace c12 := Bool.eq_false_iff.mpr c12; subst c12
          have H1 : (laws_FnDocLookup.l0 kj6 l0 l1 0) = some r := by rw [if_neg (show ¬ (false = true) by decide)] at H; exact H
          clear H; have H := H1; clear H1; have H' := Aside0.mk H; clear H
          go_wp2
          go_loopg [5] kj6 (fun kq v5 w' => ∃ (x5_3 : Int), v5 = .int .i64 x5_3 ∧ Aside0 (laws_FnDocLookup.l0 kq l0 l1 x5_3 = some r) ∧ Aside0 (kq ≤ kj6) ∧ Aside0 (Below w.heap.size w w'))
          case atStart => exact ⟨(0), (by first | rfl | (simp; done) | (simp [*]; done)), H', ⟨Nat.le_refl _⟩, ⟨HW.zb⟩⟩
          case round =>
            clear H'; (try clear c1); (try clear p2); (try clear c4); (try clear c4b0); (try clear c4b1); (try clear c6); (try clear c9); (try clear c12); (try clear p2); obtain ⟨x5_3, rfl, HA, HK3, HB⟩ := hrel
            cases gk with
            | zero => exact absurd HA.out (by simp [laws_FnDocLookup.l0])
            | succ k3 =>
              have H := HA.out; clear HA
              simp only [laws_FnDocLookup.l0] at H
              by_cases c13 : x5_3 < (l1.length : Int)
              rotate_left
              · rw [if_neg c13] at H
                have c13b0 : decide (x5_3 < (l1.length : Int)) = false := decide_eq_false c13; clear c13; replace H := Option.bind_eq_some_iff.mp H; obtain ⟨⟨t748, t749, t750, t751, t752, t753, t754, t757, t760⟩, A190, H⟩ := H
                replace H : ((spec_DocBytes.f k3 l0).bind fun t762 => ((impl_Lookup.f k3 t762 l1).bind fun bt765 => ((impl_LookupPlain.f k3 t762 l1).bind fun bt771 => (if t760 = 0 then ((spec_DocValue.f k3 t748 t749 t750 t751 t752 t753 t754 t757).bind fun t777 => (if bt765.2.2 = 0 then ((laws_docSameRaw.f bt765.1 bt765.2.1 t748 t777).bind fun t780 => (if t780 = true then ((laws_docSameRaw.f bt771.1 bt771.2 t748 t777).bind fun t781 => (some t781)) else (none))) else (none))) else ((laws_docAwake.f k3).bind fun t776 => (if t776 = true then (if bt765.2.2 = t760 then (if (bt771.2.length : Int) = 0 then (some (bt771.1 == 0)) else (none)) else (none)) else (none))))))) = some r := H
                have A19 := Aside0.mk A190; clear A190; replace H := Option.bind_eq_some_iff.mp H; obtain ⟨t762, A200, H⟩ := H
                replace H : ((impl_Lookup.f k3 t762 l1).bind fun bt765 => ((impl_LookupPlain.f k3 t762 l1).bind fun bt771 => (if t760 = 0 then ((spec_DocValue.f k3 t748 t749 t750 t751 t752 t753 t754 t757).bind fun t777 => (if bt765.2.2 = 0 then ((laws_docSameRaw.f bt765.1 bt765.2.1 t748 t777).bind fun t780 => (if t780 = true then ((laws_docSameRaw.f bt771.1 bt771.2 t748 t777).bind fun t781 => (some t781)) else (none))) else (none))) else ((laws_docAwake.f k3).bind fun t776 => (if t776 = true then (if bt765.2.2 = t760 then (if (bt771.2.length : Int) = 0 then (some (bt771.1 == 0)) else (none)) else (none)) else (none)))))) = some r := H
                have A20 := Aside0.mk A200; clear A200; replace H := Option.bind_eq_some_iff.mp H; obtain ⟨⟨t765, t766, t769⟩, A210, H⟩ := H; replace H : ((impl_LookupPlain.f k3 t762 l1).bind fun bt771 => (if t760 = 0 then ((spec_DocValue.f k3 t748 t749 t750 t751 t752 t753 t754 t757).bind fun t777 => (if t769 = 0 then ((laws_docSameRaw.f t765 t766 t748 t777).bind fun t780 => (if t780 = true then ((laws_docSameRaw.f bt771.1 bt771.2 t748 t777).bind fun t781 => (some t781)) else (none))) else (none))) else ((laws_docAwake.f k3).bind fun t776 => (if t776 = true then (if t769 = t760 then (if (bt771.2.length : Int) = 0 then (some (bt771.1 == 0)) else (none)) else (none)) else (none))))) = some r := H; have A21 := Aside0.mk A210; clear A210; replace H := Option.bind_eq_some_iff.mp H; obtain ⟨⟨t771, t772⟩, A220, H⟩ := H; replace H : (if t760 = 0 then ((spec_DocValue.f k3 t748 t749 t750 t751 t752 t753 t754 t757).bind fun t777 => (if t769 = 0 then ((laws_docSameRaw.f t765 t766 t748 t777).bind fun t780 => (if t780 = true then ((laws_docSameRaw.f t771 t772 t748 t777).bind fun t781 => (some t781)) else (none))) else (none))) else ((laws_docAwake.f k3).bind fun t776 => (if t776 = true then (if t769 = t760 then (if (t772.length : Int) = 0 then (some (t771 == 0)) else (none)) else (none)) else (none)))) = some r := H; have A22 := Aside0.mk A220; clear A220
                by_cases c23 : t760 = 0
                rotate_left
                · rw [if_neg c23] at H
                  have c23b0 : (t760 == 0) = false := beq_eq_false_iff_ne.mpr c23; have c23b1 : (t760 != 0) = true := bne_iff_ne.mpr c23; replace H := Option.bind_eq_some_iff.mp H; obtain ⟨t776, A590, H⟩ := H; replace H : (if t776 = true then (if t769 = t760 then (if (t772.length : Int) = 0 then (some (t771 == 0)) else (none)) else (none)) else (none)) = some r := H; have A59 := Aside0.mk A590; clear A590
                  by_cases c60 : t776 = true
                  rotate_left
                  · replace c60 := Bool.eq_false_iff.mpr c60
                    subst c60
                    have H1 : (none) = some r := by rw [if_neg (show ¬ (false = true) by decide)] at H; exact H
                    clear H; have H := H1; clear H1
                    exact absurd H (by simp)
                  subst c60
                  have H1 : (if t769 = t760 then (if (t772.length : Int) = 0 then (some (t771 == 0)) else (none)) else (none)) = some r := by rw [if_pos rfl] at H; exact H
                  clear H; have H := H1; clear H1
                  by_cases c61 : t769 = t760
                  rotate_left
                  · rw [if_neg c61] at H
                    exact absurd H (by simp)
                  rw [if_pos c61] at H; have c61b0 : (t769 == t760) = true := beq_iff_eq.mpr c61; have c61b1 : (t769 != t760) = false := bne_eq_false_iff_eq.mpr c61; clear c61
                  by_cases c62 : (t772.length : Int) = 0
                  rotate_left
                  · rw [if_neg c62] at H
                    exact absurd H (by simp)
                  rw [if_pos c62] at H; have c62b0 : ((t772.length : Int) == 0) = true := beq_iff_eq.mpr c62; have c62b1 : ((t772.length : Int) != 0) = false := bne_eq_false_iff_eq.mpr c62; clear c62
                  focus
                    obtain rfl := Option.some.inj H
                    go_wp2_with (first | ((with_reducible refine gate_callee (f := 16) rfl ?_); refine HW.gz (some 52) rfl rfl Tryz.func16 (by kernel_rfl) rfl #[.slice A0 l0.length c0, .slice A1 l1.length c1] rfl ?_; (with_reducible refine (laws_docLeads.calls k3 (fun k_ => k_ < w.heap.size) _ _ l0 _ _ l1 t748 t749 t750 t751 t752 t753 t754 t757 t760 _ ?side1 ?side2 ?side3 A19.out).mono ?_); (case side1 => exact Kd.V_mk HC0.out (Kd.F_below (Kd.C_F k73_heap HR0.out) HW.zb)); (case side2 => repeat (first | exact (Kd.C_below HR1.out HB.out) | (with_reducible refine Kd.C_alloc ?_ _) | (with_reducible refine Kd.C_drewN ?_ _) | (with_reducible refine Kd.C_drew ?_))); (case side3 => exact HC1.out); rintro e w63 ⟨v755, v758, rfl, ho0, ho1, hb⟩; refine ⟨_, rfl, ?_⟩; have HO756 := Aside0.mk (Kd.V_lower (Kd.V_mono (ok' := fun k_ => True) ho0 (fun k_ hk_ => trivial)) (below_size HW.zb)); have HO759 := Aside0.mk (Kd.V_lower (Kd.V_mono (ok' := fun k_ => True) ho1 (fun k_ hk_ => trivial)) (below_size HW.zb)); replace HB := Aside0.mk (below_step HW.zb hb); (try clear hb); (try clear ho0); (try clear ho1)) | ((with_reducible refine gate_dst (N := 6) rfl ?_); (try (refine gate_guard (by rfl) ?_; dsimp only)); refine box_event ?hg (N := 6) ?hd (cs := #[.int .i64 0, .string (⟨#[]⟩ : ByteArray), .string (⟨#[]⟩ : ByteArray), .int .i64 0, .int .u64 0, .int .u64 0, .slice none 0 0, .slice none 0 0]) (t := 46) ?hr ?_; (case hd => rfl); (case hg => rfl); (case hr => first | (go_simp; done) | (go_simp; rfl)); intro gb761 hg w64 hbox hb; replace HO756 := Aside0.mk (Kd.V_below (Kd.V_elderB (HW.zV HO756.out) gb761 (Nat.le_of_eq hg.symm)) hb); replace HO759 := Aside0.mk (Kd.V_below (Kd.V_elderB (HW.zV HO759.out) gb761 (Nat.le_of_eq hg.symm)) hb); have BK761 := Aside0.mk (hbox); have GE761 := Aside0.mk ((by rw [hg]; exact (below_size HW.zb) : w.heap.size ≤ gb761)); replace HB := Aside0.mk (below_step HW.zb hb); clear hb hbox hg; obtain ⟨hcz65_0, hcz65_1, hcz65_2, hcz65_3, hcz65_4, hcz65_5, hcz65_6, hcz65_7, hfz66_0, hfz66_1, hfz66_2, hfz66_3, hfz66_4, hfz66_5, hfz66_6, hfz66_7⟩ := HW.k8f BK761.out; obtain ⟨Ao67, co67, eo67⟩ := Kd.V_slice HO756.out; subst eo67; obtain ⟨Ao68, co68, eo68⟩ := Kd.V_slice HO759.out; subst eo68) | ((with_reducible refine gate_callee (f := 17) rfl ?_); refine HW.gz (some 56) rfl rfl Tryz.func17 (by kernel_rfl) rfl #[.slice A0 l0.length c0] rfl ?_; (with_reducible refine (spec_DocBytes.calls k3 _ _ l0 t762 _ ?side1 ?side2 A20.out).mono ?_); (case side1 => exact Kd.C_below HR0.out HW.zb); (case side2 => exact HC0.out); rintro e w69 ⟨v763, rfl, ho0, hb⟩; refine ⟨_, rfl, ?_⟩; replace HO756 := Aside0.mk (Kd.V_below (by (with_reducible repeat (first | apply Kd.V_alloc | apply Kd.V_drewN | apply Kd.V_drew)); exact (Kd.V_mono (Kd.V_far (p := ⟨gb761, 7, none⟩) (Kd.V_far (p := ⟨gb761, 6, none⟩) (Kd.V_far (p := ⟨gb761, 5, none⟩) (Kd.V_far (p := ⟨gb761, 4, none⟩) (Kd.V_far (p := ⟨gb761, 3, none⟩) (Kd.V_far (p := ⟨gb761, 2, none⟩) (Kd.V_far (p := ⟨gb761, 1, none⟩) (Kd.V_far (p := ⟨gb761, 0, none⟩) (Kd.V_mono HO756.out (fun k_ hk => (⟨hk, hk.2⟩ : _ ∧ k_ ≠ gb761))) (fun _ hk => hk.2) (.int .i64 t748)) (fun _ hk => hk.2) (.string t749)) (fun _ hk => hk.2) (.string t750)) (fun _ hk => hk.2) (.int .i64 t751)) (fun _ hk => hk.2) (.int .u64 t752)) (fun _ hk => hk.2) (.int .u64 t753)) (fun _ hk => hk.2) (.slice Ao67 t754.length co67)) (fun _ hk => hk.2) (.slice Ao68 t757.length co68)) (fun _ h_ => h_.1))) hb); replace HO759 := Aside0.mk (Kd.V_below (by (with_reducible repeat (first | apply Kd.V_alloc | apply Kd.V_drewN | apply Kd.V_drew)); exact (Kd.V_mono (Kd.V_far (p := ⟨gb761, 7, none⟩) (Kd.V_far (p := ⟨gb761, 6, none⟩) (Kd.V_far (p := ⟨gb761, 5, none⟩) (Kd.V_far (p := ⟨gb761, 4, none⟩) (Kd.V_far (p := ⟨gb761, 3, none⟩) (Kd.V_far (p := ⟨gb761, 2, none⟩) (Kd.V_far (p := ⟨gb761, 1, none⟩) (Kd.V_far (p := ⟨gb761, 0, none⟩) (Kd.V_mono HO759.out (fun k_ hk => (⟨hk, hk.2⟩ : _ ∧ k_ ≠ gb761))) (fun _ hk => hk.2) (.int .i64 t748)) (fun _ hk => hk.2) (.string t749)) (fun _ hk => hk.2) (.string t750)) (fun _ hk => hk.2) (.int .i64 t751)) (fun _ hk => hk.2) (.int .u64 t752)) (fun _ hk => hk.2) (.int .u64 t753)) (fun _ hk => hk.2) (.slice Ao67 t754.length co67)) (fun _ hk => hk.2) (.slice Ao68 t757.length co68)) (fun _ h_ => h_.1))) hb); have HO764 := Aside0.mk (Kd.R_lower ho0 (below_size HW.zb)); replace BK761 := Aside0.mk (blk_below (g := gb761) (o := .cells #[.int .i64 t748, .string t749, .string t750, .int .i64 t751, .int .u64 t752, .int .u64 t753, .slice Ao67 t754.length co67, .slice Ao68 t757.length co68] 46 (0, 0)) (by (with_reducible repeat (first | refine blk_drewN ?_ _ | refine blk_drew ?_ | refine blk_alloc ?_ _)); refine blk_put (cs := #[.int .i64 t748, .string t749, .string t750, .int .i64 t751, .int .u64 t752, .int .u64 t753, .slice Ao67 t754.length co67, .slice none 0 0]) ?_ 7 _ rfl; (with_reducible repeat (first | refine blk_drewN ?_ _ | refine blk_drew ?_ | refine blk_alloc ?_ _)); refine blk_put (cs := #[.int .i64 t748, .string t749, .string t750, .int .i64 t751, .int .u64 t752, .int .u64 t753, .slice none 0 0, .slice none 0 0]) ?_ 6 _ rfl; (with_reducible repeat (first | refine blk_drewN ?_ _ | refine blk_drew ?_ | refine blk_alloc ?_ _)); refine blk_put (cs := #[.int .i64 t748, .string t749, .string t750, .int .i64 t751, .int .u64 t752, .int .u64 0, .slice none 0 0, .slice none 0 0]) ?_ 5 _ rfl; (with_reducible repeat (first | refine blk_drewN ?_ _ | refine blk_drew ?_ | refine blk_alloc ?_ _)); refine blk_put (cs := #[.int .i64 t748, .string t749, .string t750, .int .i64 t751, .int .u64 0, .int .u64 0, .slice none 0 0, .slice none 0 0]) ?_ 4 _ rfl; (with_reducible repeat (first | refine blk_drewN ?_ _ | refine blk_drew ?_ | refine blk_alloc ?_ _)); refine blk_put (cs := #[.int .i64 t748, .string t749, .string t750, .int .i64 0, .int .u64 0, .int .u64 0, .slice none 0 0, .slice none 0 0]) ?_ 3 _ rfl; (with_reducible repeat (first | refine blk_drewN ?_ _ | refine blk_drew ?_ | refine blk_alloc ?_ _)); refine blk_put (cs := #[.int .i64 t748, .string t749, .string (⟨#[]⟩ : ByteArray), .int .i64 0, .int .u64 0, .int .u64 0, .slice none 0 0, .slice none 0 0]) ?_ 2 _ rfl; (with_reducible repeat (first | refine blk_drewN ?_ _ | refine blk_drew ?_ | refine blk_alloc ?_ _)); refine blk_put (cs := #[.int .i64 t748, .string (⟨#[]⟩ : ByteArray), .string (⟨#[]⟩ : ByteArray), .int .i64 0, .int .u64 0, .int .u64 0, .slice none 0 0, .slice none 0 0]) ?_ 1 _ rfl; (with_reducible repeat (first | refine blk_drewN ?_ _ | refine blk_drew ?_ | refine blk_alloc ?_ _)); refine blk_put (cs := #[.int .i64 0, .string (⟨#[]⟩ : ByteArray), .string (⟨#[]⟩ : ByteArray), .int .i64 0, .int .u64 0, .int .u64 0, .slice none 0 0, .slice none 0 0]) ?_ 0 _ rfl; exact HW.zB BK761.out) hb); replace HB := Aside0.mk (below_step HW.zb hb); (try clear hb); (try clear ho0); obtain ⟨Ao70, co70, eo70⟩ := Kd.R_slice HO764.out; subst eo70) | ((with_reducible refine gate_callee (f := 18) rfl ?_); refine HW.gz (some 60) rfl rfl Tryz.func18 (by kernel_rfl) rfl #[.slice Ao70 t762.length co70, .slice A1 l1.length c1] rfl ?_; (with_reducible refine (impl_Lookup.calls ρ k3 _ _ t762 _ _ l1 t765 t766 t769 _ ?aLD ?side1 ?side2 ?side3 ?side4 A21.out).mono ?_); (case aLD => exact Er.LaidE.below HL_.out (by repeat (first | (with_reducible first | exact HB.out | apply below_alloc | apply pw_below_drewN | apply below_drew1 | refine below_set ?_ GE761.out | refine below_set ?_ GE770.out | refine below_set ?_ GE775.out) | exact HB.out))); (case side1 => repeat (first | exact (Kd.R_reads' HO764.out).2.2 | (with_reducible refine Kd.C_alloc ?_ _) | (with_reducible refine Kd.C_drewN ?_ _) | (with_reducible refine Kd.C_drew ?_))); (case side2 => exact (Kd.R_reads' HO764.out).2.1); (case side3 => repeat (first | exact (Kd.C_below HR1.out HB.out) | (with_reducible refine Kd.C_alloc ?_ _) | (with_reducible refine Kd.C_drewN ?_ _) | (with_reducible refine Kd.C_drew ?_))); (case side4 => exact HC1.out); rintro e w71 ⟨v767, rfl, ho0, hb⟩; refine ⟨_, rfl, ?_⟩; have n0_ := Aside0.mk (Kd.R_below (HW.zR HO764.out) hb); have n1_ := Aside0.mk (Kd.R_lower ho0 (below_size HW.zb)); have n2_ := Aside0.mk (below_step HW.zb hb); clear HO764; clear HB; (try clear HO756); (try clear HO759); (try clear BK761); have HO764 := n0_; have HO768 := n1_; have HB := n2_; clear n0_ n1_ n2_; (try clear hb); (try clear ho0)) | ((with_reducible refine gate_dst (N := 9) rfl ?_); (try (refine gate_guard (by rfl) ?_; dsimp only)); refine box_event ?hg (N := 9) ?hd (cs := #[.int .i64 0, .slice none 0 0]) (t := 25) ?hr ?_; (case hd => rfl); (case hg => rfl); (case hr => first | (go_simp; done) | (go_simp; rfl)); intro gb770 hg w72 hbox hb; replace HO764 := Aside0.mk (Kd.R_below (HW.zR HO764.out) hb); replace HO768 := Aside0.mk (Kd.R_below (HW.zR HO768.out) hb); have BK770 := Aside0.mk (hbox); have GE770 := Aside0.mk ((by rw [hg]; exact (below_size HW.zb) : w.heap.size ≤ gb770)); replace HB := Aside0.mk (below_step HW.zb hb); clear hb hbox hg; obtain ⟨hcz73_0, hcz73_1, hfz74_0, hfz74_1⟩ := HW.k2f BK770.out; obtain ⟨Ao75, co75, eo75⟩ := Kd.R_slice HO768.out; subst eo75) | ((with_reducible refine gate_callee (f := 19) rfl ?_); refine HW.gz (some 65) rfl rfl Tryz.func19 (by kernel_rfl) rfl #[.slice Ao70 t762.length co70, .slice A1 l1.length c1] rfl ?_; (with_reducible refine (impl_LookupPlain.calls ρ k3 _ _ t762 _ _ l1 t771 t772 _ ?aLD ?side1 ?side2 ?side3 ?side4 A22.out).mono ?_); (case aLD => exact Er.LaidE.below HL_.out (by repeat (first | (with_reducible first | exact HB.out | apply below_alloc | apply pw_below_drewN | apply below_drew1 | refine below_set ?_ GE761.out | refine below_set ?_ GE770.out | refine below_set ?_ GE775.out) | exact HB.out))); (case side1 => refine (Kd.R_reads' (e := 5) (base := w.heap.size) (ok := fun k_ => True) (n := t762.length) (c := co70) ?_).2.2; exact (by (with_reducible repeat (first | apply Kd.R_alloc | apply Kd.R_drewN | apply Kd.R_drew)); exact (Kd.R_mono (Kd.R_far (p := ⟨gb770, 1, none⟩) (Kd.R_far (p := ⟨gb770, 0, none⟩) (Kd.R_types HO764.out BK770.out (by decide)) (fun _ hk => hk.2) (.int .i64 t765)) (fun _ hk => hk.2) (.slice Ao75 t766.length co75)) (fun _ h_ => h_.1)))); (case side2 => exact (Kd.R_reads' HO764.out).2.1); (case side3 => exact Kd.C_below HR1.out HW.zb); (case side4 => exact HC1.out); rintro e w76 ⟨v773, rfl, ho0, hb⟩; refine ⟨_, rfl, ?_⟩; replace HO764 := Aside0.mk (Kd.R_below (by (with_reducible repeat (first | apply Kd.R_alloc | apply Kd.R_drewN | apply Kd.R_drew)); exact (Kd.R_mono (Kd.R_far (p := ⟨gb770, 1, none⟩) (Kd.R_far (p := ⟨gb770, 0, none⟩) (Kd.R_types HO764.out BK770.out (by decide)) (fun _ hk => hk.2) (.int .i64 t765)) (fun _ hk => hk.2) (.slice Ao75 t766.length co75)) (fun _ h_ => h_.1))) hb); replace HO768 := Aside0.mk (Kd.R_below (by (with_reducible repeat (first | apply Kd.R_alloc | apply Kd.R_drewN | apply Kd.R_drew)); exact (Kd.R_mono (Kd.R_far (p := ⟨gb770, 1, none⟩) (Kd.R_far (p := ⟨gb770, 0, none⟩) (Kd.R_types HO768.out BK770.out (by decide)) (fun _ hk => hk.2) (.int .i64 t765)) (fun _ hk => hk.2) (.slice Ao75 t766.length co75)) (fun _ h_ => h_.1))) hb); have HO774 := Aside0.mk (Kd.R_lower ho0 (below_size HW.zb)); replace BK770 := Aside0.mk (blk_below (g := gb770) (o := .cells #[.int .i64 t765, .slice Ao75 t766.length co75] 25 (0, 0)) (by (with_reducible repeat (first | refine blk_drewN ?_ _ | refine blk_drew ?_ | refine blk_alloc ?_ _)); refine blk_put (cs := #[.int .i64 t765, .slice none 0 0]) ?_ 1 _ rfl; (with_reducible repeat (first | refine blk_drewN ?_ _ | refine blk_drew ?_ | refine blk_alloc ?_ _)); refine blk_put (cs := #[.int .i64 0, .slice none 0 0]) ?_ 0 _ rfl; exact HW.zB BK770.out) hb); replace HB := Aside0.mk (below_step HW.zb hb); (try clear hb); (try clear ho0)) | ((with_reducible refine gate_dst (N := 11) rfl ?_); (try (refine gate_guard (by rfl) ?_; dsimp only)); refine box_event ?hg (N := 11) ?hd (cs := #[.int .i64 0, .slice none 0 0]) (t := 25) ?hr ?_; (case hd => rfl); (case hg => rfl); (case hr => first | (go_simp; done) | (go_simp; rfl)); intro gb775 hg w77 hbox hb; have n0_ := Aside0.mk (Kd.R_below (HW.zR HO774.out) hb); have n1_ := Aside0.mk (below_step HW.zb hb); have n2_ := Aside0.mk (hbox); have n3_ := Aside0.mk ((by rw [hg]; exact (below_size HW.zb) : w.heap.size ≤ gb775)); have n4_ := Aside0.mk ((by rw [hg]; exact (below_size HW.zb) : w.heap.size ≤ gb775)); clear HO774; clear HB; (try clear HO764); (try clear HO768); (try clear BK770); have HO774 := n0_; have HB := n1_; have BK775 := n2_; have GW775 := n3_; have GE775 := n4_; clear n0_ n1_ n2_ n3_ n4_; clear hb hbox hg; obtain ⟨hcz78_0, hcz78_1, hfz79_0, hfz79_1⟩ := HW.k2f BK775.out; obtain ⟨Ao80, co80, eo80⟩ := Kd.R_slice HO774.out; subst eo80) | ((with_reducible refine gate_callee (f := 10) rfl ?_); refine HW.gz (some 68) rfl rfl Tryz.func10 (by kernel_rfl) rfl #[] rfl ?_; (with_reducible refine (laws_docAwake.calls ρ k3  true _ ?aLD A59.out).mono ?_); (case aLD => exact Er.LaidE.below HL_.out (by repeat (first | (with_reducible first | exact HB.out | apply below_alloc | apply pw_below_drewN | apply below_drew1 | refine below_set ?_ GE761.out | refine below_set ?_ GE770.out | refine below_set ?_ GE775.out) | exact HB.out))); rintro e w81 ⟨rfl, hb⟩; refine ⟨_, rfl, ?_⟩; replace HO774 := Aside0.mk (Kd.R_below (by (with_reducible repeat (first | apply Kd.R_alloc | apply Kd.R_drewN | apply Kd.R_drew)); exact (Kd.R_mono (Kd.R_far (p := ⟨gb775, 1, none⟩) (Kd.R_far (p := ⟨gb775, 0, none⟩) (Kd.R_types HO774.out BK775.out (by decide)) (fun _ hk => hk.2) (.int .i64 t771)) (fun _ hk => hk.2) (.slice Ao80 t772.length co80)) (fun _ h_ => h_.1))) hb); replace BK775 := Aside0.mk (blk_below (g := gb775) (o := .cells #[.int .i64 t771, .slice Ao80 t772.length co80] 25 (0, 0)) (by (with_reducible repeat (first | refine blk_drewN ?_ _ | refine blk_drew ?_ | refine blk_alloc ?_ _)); refine blk_put (cs := #[.int .i64 t771, .slice none 0 0]) ?_ 1 _ rfl; (with_reducible repeat (first | refine blk_drewN ?_ _ | refine blk_drew ?_ | refine blk_alloc ?_ _)); refine blk_put (cs := #[.int .i64 0, .slice none 0 0]) ?_ 0 _ rfl; exact HW.zB BK775.out) hb); replace HB := Aside0.mk (below_step HW.zb hb); (try clear hb); obtain ⟨hcz82_0, hcz82_1⟩ := HW.k2 BK775.out))
                    go_ret
                    exact ⟨rfl, HW.zb⟩
                rw [if_pos c23] at H; have c23b0 : (t760 == 0) = true := beq_iff_eq.mpr c23; have c23b1 : (t760 != 0) = false := bne_eq_false_iff_eq.mpr c23; clear c23; replace H := Option.bind_eq_some_iff.mp H; obtain ⟨t777, A240, H⟩ := H; replace H : (if t769 = 0 then ((laws_docSameRaw.f t765 t766 t748 t777).bind fun t780 => (if t780 = true then ((laws_docSameRaw.f t771 t772 t748 t777).bind fun t781 => (some t781)) else (none))) else (none)) = some r := H; have A24 := Aside0.mk A240; clear A240
                by_cases c25 : t769 = 0
                rotate_left
                · rw [if_neg c25] at H
                  exact absurd H (by simp)
                rw [if_pos c25] at H; have c25b0 : (t769 == 0) = true := beq_iff_eq.mpr c25; have c25b1 : (t769 != 0) = false := bne_eq_false_iff_eq.mpr c25; clear c25; replace H := Option.bind_eq_some_iff.mp H; obtain ⟨t780, A260, H⟩ := H; replace H : (if t780 = true then ((laws_docSameRaw.f t771 t772 t748 t777).bind fun t781 => (some t781)) else (none)) = some r := H; have A26 := Aside0.mk A260; clear A260
                by_cases c27 : t780 = true
                rotate_left
                · replace c27 := Bool.eq_false_iff.mpr c27
                  subst c27
                  have H1 : (none) = some r := by rw [if_neg (show ¬ (false = true) by decide)] at H; exact H
                  clear H; have H := H1; clear H1
                  exact absurd H (by simp)
                subst c27
                have H1 : ((laws_docSameRaw.f t771 t772 t748 t777).bind fun t781 => (some t781)) = some r := by rw [if_pos rfl] at H; exact H
                clear H; have H := H1; clear H1; replace H := Option.bind_eq_some_iff.mp H; obtain ⟨t781, A280, H⟩ := H; replace H : (some t781) = some r := H; have A28 := Aside0.mk A280; clear A280
                focus
                  obtain rfl := Option.some.inj H
                  go_wp2_with (first | ((with_reducible refine gate_callee (f := 16) rfl ?_); refine HW.gz (some 52) rfl rfl Tryz.func16 (by kernel_rfl) rfl #[.slice A0 l0.length c0, .slice A1 l1.length c1] rfl ?_; (with_reducible refine (laws_docLeads.calls k3 (fun k_ => k_ < w.heap.size) _ _ l0 _ _ l1 t748 t749 t750 t751 t752 t753 t754 t757 t760 _ ?side1 ?side2 ?side3 A19.out).mono ?_); (case side1 => exact Kd.V_mk HC0.out (Kd.F_below (Kd.C_F k73_heap HR0.out) HW.zb)); (case side2 => repeat (first | exact (Kd.C_below HR1.out HB.out) | (with_reducible refine Kd.C_alloc ?_ _) | (with_reducible refine Kd.C_drewN ?_ _) | (with_reducible refine Kd.C_drew ?_))); (case side3 => exact HC1.out); rintro e w29 ⟨v755, v758, rfl, ho0, ho1, hb⟩; refine ⟨_, rfl, ?_⟩; have HO756 := Aside0.mk (Kd.V_lower (Kd.V_mono (ok' := fun k_ => True) ho0 (fun k_ hk_ => trivial)) (below_size HW.zb)); have HO759 := Aside0.mk (Kd.V_lower (Kd.V_mono (ok' := fun k_ => True) ho1 (fun k_ hk_ => trivial)) (below_size HW.zb)); replace HB := Aside0.mk (below_step HW.zb hb); (try clear hb); (try clear ho0); (try clear ho1)) | ((with_reducible refine gate_dst (N := 6) rfl ?_); (try (refine gate_guard (by rfl) ?_; dsimp only)); refine box_event ?hg (N := 6) ?hd (cs := #[.int .i64 0, .string (⟨#[]⟩ : ByteArray), .string (⟨#[]⟩ : ByteArray), .int .i64 0, .int .u64 0, .int .u64 0, .slice none 0 0, .slice none 0 0]) (t := 46) ?hr ?_; (case hd => rfl); (case hg => rfl); (case hr => first | (go_simp; done) | (go_simp; rfl)); intro gb761 hg w30 hbox hb; replace HO756 := Aside0.mk (Kd.V_below (Kd.V_elderB (HW.zV HO756.out) gb761 (Nat.le_of_eq hg.symm)) hb); replace HO759 := Aside0.mk (Kd.V_below (Kd.V_elderB (HW.zV HO759.out) gb761 (Nat.le_of_eq hg.symm)) hb); have BK761 := Aside0.mk (hbox); have GE761 := Aside0.mk ((by rw [hg]; exact (below_size HW.zb) : w.heap.size ≤ gb761)); replace HB := Aside0.mk (below_step HW.zb hb); clear hb hbox hg; obtain ⟨hcz31_0, hcz31_1, hcz31_2, hcz31_3, hcz31_4, hcz31_5, hcz31_6, hcz31_7, hfz32_0, hfz32_1, hfz32_2, hfz32_3, hfz32_4, hfz32_5, hfz32_6, hfz32_7⟩ := HW.k8f BK761.out; obtain ⟨Ao33, co33, eo33⟩ := Kd.V_slice HO756.out; subst eo33; obtain ⟨Ao34, co34, eo34⟩ := Kd.V_slice HO759.out; subst eo34) | ((with_reducible refine gate_callee (f := 17) rfl ?_); refine HW.gz (some 56) rfl rfl Tryz.func17 (by kernel_rfl) rfl #[.slice A0 l0.length c0] rfl ?_; (with_reducible refine (spec_DocBytes.calls k3 _ _ l0 t762 _ ?side1 ?side2 A20.out).mono ?_); (case side1 => exact Kd.C_below HR0.out HW.zb); (case side2 => exact HC0.out); rintro e w35 ⟨v763, rfl, ho0, hb⟩; refine ⟨_, rfl, ?_⟩; replace HO756 := Aside0.mk (Kd.V_below (by (with_reducible repeat (first | apply Kd.V_alloc | apply Kd.V_drewN | apply Kd.V_drew)); exact (Kd.V_mono (Kd.V_far (p := ⟨gb761, 7, none⟩) (Kd.V_far (p := ⟨gb761, 6, none⟩) (Kd.V_far (p := ⟨gb761, 5, none⟩) (Kd.V_far (p := ⟨gb761, 4, none⟩) (Kd.V_far (p := ⟨gb761, 3, none⟩) (Kd.V_far (p := ⟨gb761, 2, none⟩) (Kd.V_far (p := ⟨gb761, 1, none⟩) (Kd.V_far (p := ⟨gb761, 0, none⟩) (Kd.V_mono HO756.out (fun k_ hk => (⟨hk, hk.2⟩ : _ ∧ k_ ≠ gb761))) (fun _ hk => hk.2) (.int .i64 t748)) (fun _ hk => hk.2) (.string t749)) (fun _ hk => hk.2) (.string t750)) (fun _ hk => hk.2) (.int .i64 t751)) (fun _ hk => hk.2) (.int .u64 t752)) (fun _ hk => hk.2) (.int .u64 t753)) (fun _ hk => hk.2) (.slice Ao33 t754.length co33)) (fun _ hk => hk.2) (.slice Ao34 t757.length co34)) (fun _ h_ => h_.1))) hb); replace HO759 := Aside0.mk (Kd.V_below (by (with_reducible repeat (first | apply Kd.V_alloc | apply Kd.V_drewN | apply Kd.V_drew)); exact (Kd.V_mono (Kd.V_far (p := ⟨gb761, 7, none⟩) (Kd.V_far (p := ⟨gb761, 6, none⟩) (Kd.V_far (p := ⟨gb761, 5, none⟩) (Kd.V_far (p := ⟨gb761, 4, none⟩) (Kd.V_far (p := ⟨gb761, 3, none⟩) (Kd.V_far (p := ⟨gb761, 2, none⟩) (Kd.V_far (p := ⟨gb761, 1, none⟩) (Kd.V_far (p := ⟨gb761, 0, none⟩) (Kd.V_mono HO759.out (fun k_ hk => (⟨hk, hk.2⟩ : _ ∧ k_ ≠ gb761))) (fun _ hk => hk.2) (.int .i64 t748)) (fun _ hk => hk.2) (.string t749)) (fun _ hk => hk.2) (.string t750)) (fun _ hk => hk.2) (.int .i64 t751)) (fun _ hk => hk.2) (.int .u64 t752)) (fun _ hk => hk.2) (.int .u64 t753)) (fun _ hk => hk.2) (.slice Ao33 t754.length co33)) (fun _ hk => hk.2) (.slice Ao34 t757.length co34)) (fun _ h_ => h_.1))) hb); have HO764 := Aside0.mk (Kd.R_lower ho0 (below_size HW.zb)); replace BK761 := Aside0.mk (blk_below (g := gb761) (o := .cells #[.int .i64 t748, .string t749, .string t750, .int .i64 t751, .int .u64 t752, .int .u64 t753, .slice Ao33 t754.length co33, .slice Ao34 t757.length co34] 46 (0, 0)) (by (with_reducible repeat (first | refine blk_drewN ?_ _ | refine blk_drew ?_ | refine blk_alloc ?_ _)); refine blk_put (cs := #[.int .i64 t748, .string t749, .string t750, .int .i64 t751, .int .u64 t752, .int .u64 t753, .slice Ao33 t754.length co33, .slice none 0 0]) ?_ 7 _ rfl; (with_reducible repeat (first | refine blk_drewN ?_ _ | refine blk_drew ?_ | refine blk_alloc ?_ _)); refine blk_put (cs := #[.int .i64 t748, .string t749, .string t750, .int .i64 t751, .int .u64 t752, .int .u64 t753, .slice none 0 0, .slice none 0 0]) ?_ 6 _ rfl; (with_reducible repeat (first | refine blk_drewN ?_ _ | refine blk_drew ?_ | refine blk_alloc ?_ _)); refine blk_put (cs := #[.int .i64 t748, .string t749, .string t750, .int .i64 t751, .int .u64 t752, .int .u64 0, .slice none 0 0, .slice none 0 0]) ?_ 5 _ rfl; (with_reducible repeat (first | refine blk_drewN ?_ _ | refine blk_drew ?_ | refine blk_alloc ?_ _)); refine blk_put (cs := #[.int .i64 t748, .string t749, .string t750, .int .i64 t751, .int .u64 0, .int .u64 0, .slice none 0 0, .slice none 0 0]) ?_ 4 _ rfl; (with_reducible repeat (first | refine blk_drewN ?_ _ | refine blk_drew ?_ | refine blk_alloc ?_ _)); refine blk_put (cs := #[.int .i64 t748, .string t749, .string t750, .int .i64 0, .int .u64 0, .int .u64 0, .slice none 0 0, .slice none 0 0]) ?_ 3 _ rfl; (with_reducible repeat (first | refine blk_drewN ?_ _ | refine blk_drew ?_ | refine blk_alloc ?_ _)); refine blk_put (cs := #[.int .i64 t748, .string t749, .string (⟨#[]⟩ : ByteArray), .int .i64 0, .int .u64 0, .int .u64 0, .slice none 0 0, .slice none 0 0]) ?_ 2 _ rfl; (with_reducible repeat (first | refine blk_drewN ?_ _ | refine blk_drew ?_ | refine blk_alloc ?_ _)); refine blk_put (cs := #[.int .i64 t748, .string (⟨#[]⟩ : ByteArray), .string (⟨#[]⟩ : ByteArray), .int .i64 0, .int .u64 0, .int .u64 0, .slice none 0 0, .slice none 0 0]) ?_ 1 _ rfl; (with_reducible repeat (first | refine blk_drewN ?_ _ | refine blk_drew ?_ | refine blk_alloc ?_ _)); refine blk_put (cs := #[.int .i64 0, .string (⟨#[]⟩ : ByteArray), .string (⟨#[]⟩ : ByteArray), .int .i64 0, .int .u64 0, .int .u64 0, .slice none 0 0, .slice none 0 0]) ?_ 0 _ rfl; exact HW.zB BK761.out) hb); replace HB := Aside0.mk (below_step HW.zb hb); (try clear hb); (try clear ho0); obtain ⟨Ao36, co36, eo36⟩ := Kd.R_slice HO764.out; subst eo36) | ((with_reducible refine gate_callee (f := 18) rfl ?_); refine HW.gz (some 60) rfl rfl Tryz.func18 (by kernel_rfl) rfl #[.slice Ao36 t762.length co36, .slice A1 l1.length c1] rfl ?_; (with_reducible refine (impl_Lookup.calls ρ k3 _ _ t762 _ _ l1 t765 t766 t769 _ ?aLD ?side1 ?side2 ?side3 ?side4 A21.out).mono ?_); (case aLD => exact Er.LaidE.below HL_.out (by repeat (first | (with_reducible first | exact HB.out | apply below_alloc | apply pw_below_drewN | apply below_drew1 | refine below_set ?_ GE761.out | refine below_set ?_ GE770.out | refine below_set ?_ GE775.out) | exact HB.out))); (case side1 => repeat (first | exact (Kd.R_reads' HO764.out).2.2 | (with_reducible refine Kd.C_alloc ?_ _) | (with_reducible refine Kd.C_drewN ?_ _) | (with_reducible refine Kd.C_drew ?_))); (case side2 => exact (Kd.R_reads' HO764.out).2.1); (case side3 => repeat (first | exact (Kd.C_below HR1.out HB.out) | (with_reducible refine Kd.C_alloc ?_ _) | (with_reducible refine Kd.C_drewN ?_ _) | (with_reducible refine Kd.C_drew ?_))); (case side4 => exact HC1.out); rintro e w37 ⟨v767, rfl, ho0, hb⟩; refine ⟨_, rfl, ?_⟩; replace HO756 := Aside0.mk (Kd.V_below (HW.zV HO756.out) hb); replace HO759 := Aside0.mk (Kd.V_below (HW.zV HO759.out) hb); replace HO764 := Aside0.mk (Kd.R_below (HW.zR HO764.out) hb); have HO768 := Aside0.mk (Kd.R_lower ho0 (below_size HW.zb)); replace BK761 := Aside0.mk (blk_below (g := gb761) (o := .cells #[.int .i64 t748, .string t749, .string t750, .int .i64 t751, .int .u64 t752, .int .u64 t753, .slice Ao33 t754.length co33, .slice Ao34 t757.length co34] 46 (0, 0)) (HW.zB BK761.out) hb); replace HB := Aside0.mk (below_step HW.zb hb); (try clear hb); (try clear ho0)) | ((with_reducible refine gate_dst (N := 9) rfl ?_); (try (refine gate_guard (by rfl) ?_; dsimp only)); refine box_event ?hg (N := 9) ?hd (cs := #[.int .i64 0, .slice none 0 0]) (t := 25) ?hr ?_; (case hd => rfl); (case hg => rfl); (case hr => first | (go_simp; done) | (go_simp; rfl)); intro gb770 hg w38 hbox hb; replace HO756 := Aside0.mk (Kd.V_below (Kd.V_elderB (HW.zV HO756.out) gb770 (Nat.le_of_eq hg.symm)) hb); replace HO759 := Aside0.mk (Kd.V_below (Kd.V_elderB (HW.zV HO759.out) gb770 (Nat.le_of_eq hg.symm)) hb); replace HO764 := Aside0.mk (Kd.R_below (HW.zR HO764.out) hb); replace HO768 := Aside0.mk (Kd.R_below (HW.zR HO768.out) hb); have BK770 := Aside0.mk (hbox); have GE770 := Aside0.mk ((by rw [hg]; exact (below_size HW.zb) : w.heap.size ≤ gb770)); have NB761_770 := Aside0.mk ((by rw [hg]; exact Nat.ne_of_lt (blk_lt (g := gb761) (o := .cells #[.int .i64 t748, .string t749, .string t750, .int .i64 t751, .int .u64 t752, .int .u64 t753, .slice Ao33 t754.length co33, .slice Ao34 t757.length co34] 46 (0, 0)) (HW.zB BK761.out)) : gb761 ≠ gb770)); have NB770_761 := Aside0.mk ((by rw [hg]; exact Nat.ne_of_gt (blk_lt (g := gb761) (o := .cells #[.int .i64 t748, .string t749, .string t750, .int .i64 t751, .int .u64 t752, .int .u64 t753, .slice Ao33 t754.length co33, .slice Ao34 t757.length co34] 46 (0, 0)) (HW.zB BK761.out)) : gb770 ≠ gb761)); replace BK761 := Aside0.mk (blk_below (g := gb761) (o := .cells #[.int .i64 t748, .string t749, .string t750, .int .i64 t751, .int .u64 t752, .int .u64 t753, .slice Ao33 t754.length co33, .slice Ao34 t757.length co34] 46 (0, 0)) (HW.zB BK761.out) hb); replace HB := Aside0.mk (below_step HW.zb hb); clear hb hbox hg; have hnb39 := NB770_761.out; have hnc39 := NB761_770.out; obtain ⟨hcz40_0, hcz40_1, hfz41_0, hfz41_1⟩ := HW.k2f BK770.out; obtain ⟨Ao42, co42, eo42⟩ := Kd.R_slice HO768.out; subst eo42) | ((with_reducible refine gate_callee (f := 19) rfl ?_); refine HW.gz (some 65) rfl rfl Tryz.func19 (by kernel_rfl) rfl #[.slice Ao36 t762.length co36, .slice A1 l1.length c1] rfl ?_; (with_reducible refine (impl_LookupPlain.calls ρ k3 _ _ t762 _ _ l1 t771 t772 _ ?aLD ?side1 ?side2 ?side3 ?side4 A22.out).mono ?_); (case aLD => exact Er.LaidE.below HL_.out (by repeat (first | (with_reducible first | exact HB.out | apply below_alloc | apply pw_below_drewN | apply below_drew1 | refine below_set ?_ GE761.out | refine below_set ?_ GE770.out | refine below_set ?_ GE775.out) | exact HB.out))); (case side1 => refine (Kd.R_reads' (e := 5) (base := w.heap.size) (ok := fun k_ => True) (n := t762.length) (c := co36) ?_).2.2; exact (by (with_reducible repeat (first | apply Kd.R_alloc | apply Kd.R_drewN | apply Kd.R_drew)); exact (Kd.R_mono (Kd.R_far (p := ⟨gb770, 1, none⟩) (Kd.R_far (p := ⟨gb770, 0, none⟩) (Kd.R_types HO764.out BK770.out (by decide)) (fun _ hk => hk.2) (.int .i64 t765)) (fun _ hk => hk.2) (.slice Ao42 t766.length co42)) (fun _ h_ => h_.1)))); (case side2 => exact (Kd.R_reads' HO764.out).2.1); (case side3 => exact Kd.C_below HR1.out HW.zb); (case side4 => exact HC1.out); rintro e w43 ⟨v773, rfl, ho0, hb⟩; refine ⟨_, rfl, ?_⟩; replace HO756 := Aside0.mk (Kd.V_below (by (with_reducible repeat (first | apply Kd.V_alloc | apply Kd.V_drewN | apply Kd.V_drew)); exact (Kd.V_mono (Kd.V_far (p := ⟨gb770, 1, none⟩) (Kd.V_far (p := ⟨gb770, 0, none⟩) (Kd.V_mono HO756.out (fun k_ hk => (⟨hk, hk.2⟩ : _ ∧ k_ ≠ gb770))) (fun _ hk => hk.2) (.int .i64 t765)) (fun _ hk => hk.2) (.slice Ao42 t766.length co42)) (fun _ h_ => h_.1))) hb); replace HO759 := Aside0.mk (Kd.V_below (by (with_reducible repeat (first | apply Kd.V_alloc | apply Kd.V_drewN | apply Kd.V_drew)); exact (Kd.V_mono (Kd.V_far (p := ⟨gb770, 1, none⟩) (Kd.V_far (p := ⟨gb770, 0, none⟩) (Kd.V_mono HO759.out (fun k_ hk => (⟨hk, hk.2⟩ : _ ∧ k_ ≠ gb770))) (fun _ hk => hk.2) (.int .i64 t765)) (fun _ hk => hk.2) (.slice Ao42 t766.length co42)) (fun _ h_ => h_.1))) hb); replace HO768 := Aside0.mk (Kd.R_below (by (with_reducible repeat (first | apply Kd.R_alloc | apply Kd.R_drewN | apply Kd.R_drew)); exact (Kd.R_mono (Kd.R_far (p := ⟨gb770, 1, none⟩) (Kd.R_far (p := ⟨gb770, 0, none⟩) (Kd.R_types HO768.out BK770.out (by decide)) (fun _ hk => hk.2) (.int .i64 t765)) (fun _ hk => hk.2) (.slice Ao42 t766.length co42)) (fun _ h_ => h_.1))) hb); have HO774 := Aside0.mk (Kd.R_lower ho0 (below_size HW.zb)); replace BK761 := Aside0.mk (blk_below (g := gb761) (o := .cells #[.int .i64 t748, .string t749, .string t750, .int .i64 t751, .int .u64 t752, .int .u64 t753, .slice Ao33 t754.length co33, .slice Ao34 t757.length co34] 46 (0, 0)) (by (with_reducible repeat (first | refine blk_drewN ?_ _ | refine blk_drew ?_ | refine blk_alloc ?_ _)); refine blk_far ?_ NB761_770.out _; (with_reducible repeat (first | refine blk_drewN ?_ _ | refine blk_drew ?_ | refine blk_alloc ?_ _)); refine blk_far ?_ NB761_770.out _; exact HW.zB BK761.out) hb); replace BK770 := Aside0.mk (blk_below (g := gb770) (o := .cells #[.int .i64 t765, .slice Ao42 t766.length co42] 25 (0, 0)) (by (with_reducible repeat (first | refine blk_drewN ?_ _ | refine blk_drew ?_ | refine blk_alloc ?_ _)); refine blk_put (cs := #[.int .i64 t765, .slice none 0 0]) ?_ 1 _ rfl; (with_reducible repeat (first | refine blk_drewN ?_ _ | refine blk_drew ?_ | refine blk_alloc ?_ _)); refine blk_put (cs := #[.int .i64 0, .slice none 0 0]) ?_ 0 _ rfl; exact HW.zB BK770.out) hb); replace HB := Aside0.mk (below_step HW.zb hb); (try clear hb); (try clear ho0)) | ((with_reducible refine gate_dst (N := 11) rfl ?_); (try (refine gate_guard (by rfl) ?_; dsimp only)); refine box_event ?hg (N := 11) ?hd (cs := #[.int .i64 0, .slice none 0 0]) (t := 25) ?hr ?_; (case hd => rfl); (case hg => rfl); (case hr => first | (go_simp; done) | (go_simp; rfl)); intro gb775 hg w44 hbox hb; have n0_ := Aside0.mk (Kd.V_below (Kd.V_elderB (HW.zV HO756.out) gb775 (Nat.le_of_eq hg.symm)) hb); have n1_ := Aside0.mk (Kd.V_below (Kd.V_elderB (HW.zV HO759.out) gb775 (Nat.le_of_eq hg.symm)) hb); have n2_ := Aside0.mk (Kd.R_below (HW.zR HO768.out) hb); have n3_ := Aside0.mk (Kd.R_below (HW.zR HO774.out) hb); have n4_ := Aside0.mk (blk_below (g := gb761) (o := .cells #[.int .i64 t748, .string t749, .string t750, .int .i64 t751, .int .u64 t752, .int .u64 t753, .slice Ao33 t754.length co33, .slice Ao34 t757.length co34] 46 (0, 0)) (HW.zB BK761.out) hb); have n5_ := Aside0.mk (blk_below (g := gb770) (o := .cells #[.int .i64 t765, .slice Ao42 t766.length co42] 25 (0, 0)) (HW.zB BK770.out) hb); have n6_ := Aside0.mk (below_step HW.zb hb); have n7_ := Aside0.mk (hbox); have n8_ := Aside0.mk ((by rw [hg]; exact (below_size HW.zb) : w.heap.size ≤ gb775)); have n9_ := Aside0.mk ((by rw [hg]; exact (below_size HW.zb) : w.heap.size ≤ gb775)); have n10_ := Aside0.mk ((by rw [hg]; exact Nat.ne_of_lt (blk_lt (g := gb761) (o := .cells #[.int .i64 t748, .string t749, .string t750, .int .i64 t751, .int .u64 t752, .int .u64 t753, .slice Ao33 t754.length co33, .slice Ao34 t757.length co34] 46 (0, 0)) (HW.zB BK761.out)) : gb761 ≠ gb775)); have n11_ := Aside0.mk ((by rw [hg]; exact Nat.ne_of_gt (blk_lt (g := gb761) (o := .cells #[.int .i64 t748, .string t749, .string t750, .int .i64 t751, .int .u64 t752, .int .u64 t753, .slice Ao33 t754.length co33, .slice Ao34 t757.length co34] 46 (0, 0)) (HW.zB BK761.out)) : gb775 ≠ gb761)); have n12_ := Aside0.mk ((by rw [hg]; exact Nat.ne_of_lt (blk_lt (g := gb770) (o := .cells #[.int .i64 t765, .slice Ao42 t766.length co42] 25 (0, 0)) (HW.zB BK770.out)) : gb770 ≠ gb775)); have n13_ := Aside0.mk ((by rw [hg]; exact Nat.ne_of_gt (blk_lt (g := gb770) (o := .cells #[.int .i64 t765, .slice Ao42 t766.length co42] 25 (0, 0)) (HW.zB BK770.out)) : gb775 ≠ gb770)); clear HO756; clear HO759; clear HO768; clear HO774; clear BK761; clear BK770; clear HB; (try clear HO764); have HO756 := n0_; have HO759 := n1_; have HO768 := n2_; have HO774 := n3_; have BK761 := n4_; have BK770 := n5_; have HB := n6_; have BK775 := n7_; have GW775 := n8_; have GE775 := n9_; have NB761_775 := n10_; have NB775_761 := n11_; have NB770_775 := n12_; have NB775_770 := n13_; clear n0_ n1_ n2_ n3_ n4_ n5_ n6_ n7_ n8_ n9_ n10_ n11_ n12_ n13_; clear hb hbox hg; have hnb45 := NB775_761.out; have hnc45 := NB761_775.out; have hnb46 := NB775_770.out; have hnc46 := NB770_775.out; obtain ⟨hcz47_0, hcz47_1, hfz48_0, hfz48_1⟩ := HW.k2f BK775.out; obtain ⟨Ao49, co49, eo49⟩ := Kd.R_slice HO774.out; subst eo49; obtain ⟨hcz50_0, hcz50_1, hcz50_2, hcz50_3, hcz50_4, hcz50_5, hcz50_6, hcz50_7⟩ := HW.k8 BK761.out) | ((with_reducible refine gate_callee (f := 20) rfl ?_); refine HW.gz (some 86) rfl rfl Tryz.func20 (by kernel_rfl) rfl #[.agg #[.int .i64 t748, .string t749, .string t750, .int .i64 t751, .int .u64 t752, .int .u64 t753, .slice Ao33 t754.length co33, .slice Ao34 t757.length co34]] rfl ?_; (with_reducible refine (spec_DocValue.calls k3 t748 t749 t750 t751 t752 t753 _ _ t754 _ _ t757 t777 _ ?side1 ?side2 ?side3 ?side4 A24.out).mono ?_); (case side1 => refine (Kd.V_reads' (e := 5) (base := w.heap.size) (ok := fun k_ => (((True ∧ k_ ≠ gb761) ∧ k_ ≠ gb770) ∧ k_ ≠ gb775)) (n := t754.length) (c := co33) ?_).2.2; exact (by (with_reducible repeat (first | apply Kd.V_alloc | apply Kd.V_drewN | apply Kd.V_drew)); exact (Kd.V_mono (Kd.V_far (p := ⟨gb775, 1, none⟩) (Kd.V_far (p := ⟨gb775, 0, none⟩) (Kd.V_mono HO756.out (fun k_ hk => (⟨hk, hk.2⟩ : _ ∧ k_ ≠ gb775))) (fun _ hk => hk.2) (.int .i64 t771)) (fun _ hk => hk.2) (.slice Ao49 t772.length co49)) (fun _ h_ => h_.1)))); (case side2 => exact (Kd.V_reads' HO756.out).2.1); (case side3 => refine (Kd.V_reads' (e := 73) (base := w.heap.size) (ok := fun k_ => (((True ∧ k_ ≠ gb761) ∧ k_ ≠ gb770) ∧ k_ ≠ gb775)) (n := t757.length) (c := co34) ?_).2.2; exact (by (with_reducible repeat (first | apply Kd.V_alloc | apply Kd.V_drewN | apply Kd.V_drew)); exact (Kd.V_mono (Kd.V_far (p := ⟨gb775, 1, none⟩) (Kd.V_far (p := ⟨gb775, 0, none⟩) (Kd.V_mono HO759.out (fun k_ hk => (⟨hk, hk.2⟩ : _ ∧ k_ ≠ gb775))) (fun _ hk => hk.2) (.int .i64 t771)) (fun _ hk => hk.2) (.slice Ao49 t772.length co49)) (fun _ h_ => h_.1)))); (case side4 => exact (Kd.V_reads' HO759.out).2.1); rintro e w51 ⟨v778, rfl, ho0, hb⟩; refine ⟨_, rfl, ?_⟩; replace HO768 := Aside0.mk (Kd.R_below (by (with_reducible repeat (first | apply Kd.R_alloc | apply Kd.R_drewN | apply Kd.R_drew)); exact (Kd.R_mono (Kd.R_far (p := ⟨gb775, 1, none⟩) (Kd.R_far (p := ⟨gb775, 0, none⟩) (Kd.R_types HO768.out BK775.out (by decide)) (fun _ hk => hk.2) (.int .i64 t771)) (fun _ hk => hk.2) (.slice Ao49 t772.length co49)) (fun _ h_ => h_.1))) hb); replace HO774 := Aside0.mk (Kd.R_below (by (with_reducible repeat (first | apply Kd.R_alloc | apply Kd.R_drewN | apply Kd.R_drew)); exact (Kd.R_mono (Kd.R_far (p := ⟨gb775, 1, none⟩) (Kd.R_far (p := ⟨gb775, 0, none⟩) (Kd.R_types HO774.out BK775.out (by decide)) (fun _ hk => hk.2) (.int .i64 t771)) (fun _ hk => hk.2) (.slice Ao49 t772.length co49)) (fun _ h_ => h_.1))) hb); have HO779 := Aside0.mk (Kd.R_lower ho0 (below_size HW.zb)); replace BK761 := Aside0.mk (blk_below (g := gb761) (o := .cells #[.int .i64 t748, .string t749, .string t750, .int .i64 t751, .int .u64 t752, .int .u64 t753, .slice Ao33 t754.length co33, .slice Ao34 t757.length co34] 46 (0, 0)) (by (with_reducible repeat (first | refine blk_drewN ?_ _ | refine blk_drew ?_ | refine blk_alloc ?_ _)); refine blk_far ?_ NB761_775.out _; (with_reducible repeat (first | refine blk_drewN ?_ _ | refine blk_drew ?_ | refine blk_alloc ?_ _)); refine blk_far ?_ NB761_775.out _; exact HW.zB BK761.out) hb); replace BK770 := Aside0.mk (blk_below (g := gb770) (o := .cells #[.int .i64 t765, .slice Ao42 t766.length co42] 25 (0, 0)) (by (with_reducible repeat (first | refine blk_drewN ?_ _ | refine blk_drew ?_ | refine blk_alloc ?_ _)); refine blk_far ?_ NB770_775.out _; (with_reducible repeat (first | refine blk_drewN ?_ _ | refine blk_drew ?_ | refine blk_alloc ?_ _)); refine blk_far ?_ NB770_775.out _; exact HW.zB BK770.out) hb); replace BK775 := Aside0.mk (blk_below (g := gb775) (o := .cells #[.int .i64 t771, .slice Ao49 t772.length co49] 25 (0, 0)) (by (with_reducible repeat (first | refine blk_drewN ?_ _ | refine blk_drew ?_ | refine blk_alloc ?_ _)); refine blk_put (cs := #[.int .i64 t771, .slice none 0 0]) ?_ 1 _ rfl; (with_reducible repeat (first | refine blk_drewN ?_ _ | refine blk_drew ?_ | refine blk_alloc ?_ _)); refine blk_put (cs := #[.int .i64 0, .slice none 0 0]) ?_ 0 _ rfl; exact HW.zB BK775.out) hb); replace HB := Aside0.mk (below_step HW.zb hb); (try clear hb); (try clear ho0); have hcz52_0 := HW.zc BK770.out 0 (.int .i64 t765); have hcz52_1 := HW.zc BK770.out 1 (.slice Ao42 t766.length co42); have hcz53_0 := HW.zc BK761.out 0 (.int .i64 t748); have hcz53_1 := HW.zc BK761.out 1 (.string t749); have hcz53_2 := HW.zc BK761.out 2 (.string t750); have hcz53_3 := HW.zc BK761.out 3 (.int .i64 t751); have hcz53_4 := HW.zc BK761.out 4 (.int .u64 t752); have hcz53_5 := HW.zc BK761.out 5 (.int .u64 t753); have hcz53_6 := HW.zc BK761.out 6 (.slice Ao33 t754.length co33); have hcz53_7 := HW.zc BK761.out 7 (.slice Ao34 t757.length co34); obtain ⟨Ao54, co54, eo54⟩ := Kd.R_slice HO779.out; subst eo54) | (go_at_call 12; (with_reducible refine (laws_docSameRaw.calls t765 _ _ t766 t748 _ _ t777 true _ ?side1 ?side2 ?side3 ?side4 A26.out).mono ?_); (case side1 => repeat (first | exact (Kd.R_reads' HO768.out).2.2 | (with_reducible refine Kd.C_alloc ?_ _) | (with_reducible refine Kd.C_drewN ?_ _) | (with_reducible refine Kd.C_drew ?_))); (case side2 => exact (Kd.R_reads' HO768.out).2.1); (case side3 => repeat (first | exact (Kd.R_reads' HO779.out).2.2 | (with_reducible refine Kd.C_alloc ?_ _) | (with_reducible refine Kd.C_drewN ?_ _) | (with_reducible refine Kd.C_drew ?_))); (case side4 => exact (Kd.R_reads' HO779.out).2.1); rintro e w55 ⟨rfl, hb⟩; have n0_ := Aside0.mk (Kd.R_below (HW.zR HO768.out) hb); have n1_ := Aside0.mk (Kd.R_below (HW.zR HO774.out) hb); have n2_ := Aside0.mk (Kd.R_below (HW.zR HO779.out) hb); have n3_ := Aside0.mk (blk_below (g := gb761) (o := .cells #[.int .i64 t748, .string t749, .string t750, .int .i64 t751, .int .u64 t752, .int .u64 t753, .slice Ao33 t754.length co33, .slice Ao34 t757.length co34] 46 (0, 0)) (HW.zB BK761.out) hb); have n4_ := Aside0.mk (blk_below (g := gb775) (o := .cells #[.int .i64 t771, .slice Ao49 t772.length co49] 25 (0, 0)) (HW.zB BK775.out) hb); have n5_ := Aside0.mk (below_step HW.zb hb); clear HO768; clear HO774; clear HO779; clear BK761; clear BK775; clear HB; (try clear HO756); (try clear HO759); (try clear BK770); have HO768 := n0_; have HO774 := n1_; have HO779 := n2_; have BK761 := n3_; have BK775 := n4_; have HB := n5_; clear n0_ n1_ n2_ n3_ n4_ n5_; (try clear hb); have hcz56_0 := HW.zc BK775.out 0 (.int .i64 t771); have hcz56_1 := HW.zc BK775.out 1 (.slice Ao49 t772.length co49); have hcz57_0 := HW.zc BK761.out 0 (.int .i64 t748); have hcz57_1 := HW.zc BK761.out 1 (.string t749); have hcz57_2 := HW.zc BK761.out 2 (.string t750); have hcz57_3 := HW.zc BK761.out 3 (.int .i64 t751); have hcz57_4 := HW.zc BK761.out 4 (.int .u64 t752); have hcz57_5 := HW.zc BK761.out 5 (.int .u64 t753); have hcz57_6 := HW.zc BK761.out 6 (.slice Ao33 t754.length co33); have hcz57_7 := HW.zc BK761.out 7 (.slice Ao34 t757.length co34)) | (go_at_call 12; (with_reducible refine (laws_docSameRaw.calls t771 _ _ t772 t748 _ _ t777 t781 _ ?side1 ?side2 ?side3 ?side4 A28.out).mono ?_); (case side1 => repeat (first | exact (Kd.R_reads' HO774.out).2.2 | (with_reducible refine Kd.C_alloc ?_ _) | (with_reducible refine Kd.C_drewN ?_ _) | (with_reducible refine Kd.C_drew ?_))); (case side2 => exact (Kd.R_reads' HO774.out).2.1); (case side3 => repeat (first | exact (Kd.R_reads' HO779.out).2.2 | (with_reducible refine Kd.C_alloc ?_ _) | (with_reducible refine Kd.C_drewN ?_ _) | (with_reducible refine Kd.C_drew ?_))); (case side4 => exact (Kd.R_reads' HO779.out).2.1); rintro e w58 ⟨rfl, hb⟩; have n0_ := Aside0.mk (Kd.R_below (HW.zR HO774.out) hb); have n1_ := Aside0.mk (Kd.R_below (HW.zR HO779.out) hb); have n2_ := Aside0.mk (below_step HW.zb hb); clear HO774; clear HO779; clear HB; (try clear HO768); (try clear BK775); (try clear BK761); have HO774 := n0_; have HO779 := n1_; have HB := n2_; clear n0_ n1_ n2_; (try clear hb)))
                  go_ret
                  exact ⟨rfl, HW.zb⟩
              rw [if_pos c13] at H; have c13b0 : decide (x5_3 < (l1.length : Int)) = true := decide_eq_true c13; clear c13; have HC14 := Aside0.mk H; clear H
              go_upto_region 8 with (fail)
              go_cut [48] (fun v48 wc => ∃ (kq : Nat) (x48_13 : Bool), v48 = .bool x48_13 ∧ Aside0 (laws_FnDocLookup.j3 kq l0 l1 x5_3 x48_13 = some r) ∧ Aside0 (kq ≤ k3) ∧ Aside0 (Below w.heap.size w wc))
              case first =>
                have H := HC14.out; clear HC14
                by_cases c15 : 0 ≤ x5_3
                rotate_left
                · rw [if_neg c15] at H
                  exact absurd H (by simp)
                rw [if_pos c15] at H; have c15b0 : decide (0 ≤ x5_3) = true := decide_eq_true c15; clear c15
                (first | rw [c15b0] | (simp only [i64_w, i32_w]; rw [c15b0]) | skip)
                replace H := Option.bind_eq_some_iff.mp H; obtain ⟨t746, A160, H⟩ := H; replace H : (if t746 = true then (laws_FnDocLookup.j3 k3 l0 l1 x5_3 (decide (((rdOf ByteArray.empty l1 x5_3).size : Int) > 200))) else (laws_FnDocLookup.j3 k3 l0 l1 x5_3 true)) = some r := H; have A16 := Aside0.mk A160; clear A160
                by_cases c17 : t746 = true
                · subst c17
                  have H1 : (laws_FnDocLookup.j3 k3 l0 l1 x5_3 (decide (((rdOf ByteArray.empty l1 x5_3).size : Int) > 200))) = some r := by rw [if_pos rfl] at H; exact H
                  clear H; have H := H1; clear H1
                  focus
                    have H' := Aside0.mk H; clear H
                    have p745 : 0 ≤ (x5_3 : Int) := of_decide_eq_true (by first | (with_reducible assumption) | assumption)
                    have q745 : x5_3 < (l1.length : Int) := of_decide_eq_true (by first | (with_reducible assumption) | assumption)
                    obtain ⟨ad745, e745, hx745_0⟩ := Kd.at_string HR1.out x5_3 p745 q745
                    cases e745
                    replace hx745_0 := (HB.out.cell (World.block_lt_of_cell? w _ hx745_0)).trans hx745_0; replace p745 := eq_true p745; replace q745 := eq_true q745
                    go_wp2_with (first | ((with_reducible refine gate_callee (f := 15) rfl ?_); refine HW.gz (some 39) rfl rfl Tryz.func15 (by kernel_rfl) rfl #[.string (rdOf ByteArray.empty l1 x5_3)] rfl ?_; (with_reducible refine (spec_DocPlain.calls k3 (rdOf ByteArray.empty l1 x5_3) true _ A16.out).mono ?_); rintro e w' ⟨rfl, ⟨nd, rfl⟩⟩; refine ⟨_, rfl, ?_⟩; have p747 : 0 ≤ (x5_3 : Int) := of_decide_eq_true (by first | (with_reducible assumption) | assumption); have q747 : x5_3 < (l1.length : Int) := of_decide_eq_true (by first | (with_reducible assumption) | assumption); obtain ⟨ad747, e747, hx747_0⟩ := Kd.at_string HR1.out x5_3 p747 q747; obtain rfl : ad745 = ad747 := (by injection e747); replace hx747_0 := (HB.out.cell (World.block_lt_of_cell? w _ hx747_0)).trans hx747_0; replace p747 := eq_true p747; replace q747 := eq_true q747))
                    go_meet
                    case rel => exact ⟨_, (decide (((rdOf ByteArray.empty l1 x5_3).size : Int) > 200)), (by first | rfl | (simp; done) | (simp [*]; done)), H', ⟨by have := HJ2.out; have := HJ6.out; have := HK3.out; first | omega | exact Nat.le_refl _⟩, ⟨HW.zb⟩⟩
                replace c17 := Bool.eq_false_iff.mpr c17; subst c17
                have H1 : (laws_FnDocLookup.j3 k3 l0 l1 x5_3 true) = some r := by rw [if_neg (show ¬ (false = true) by decide)] at H; exact H
                clear H; have H := H1; clear H1
                focus
                  have H' := Aside0.mk H; clear H
                  have p745 : 0 ≤ (x5_3 : Int) := of_decide_eq_true (by first | (with_reducible assumption) | assumption)
                  have q745 : x5_3 < (l1.length : Int) := of_decide_eq_true (by first | (with_reducible assumption) | assumption)
                  obtain ⟨ad745, e745, hx745_0⟩ := Kd.at_string HR1.out x5_3 p745 q745
                  cases e745
                  replace hx745_0 := (HB.out.cell (World.block_lt_of_cell? w _ hx745_0)).trans hx745_0; replace p745 := eq_true p745; replace q745 := eq_true q745
                  go_wp2_with (first | ((with_reducible refine gate_callee (f := 15) rfl ?_); refine HW.gz (some 39) rfl rfl Tryz.func15 (by kernel_rfl) rfl #[.string (rdOf ByteArray.empty l1 x5_3)] rfl ?_; (with_reducible refine (spec_DocPlain.calls k3 (rdOf ByteArray.empty l1 x5_3) false _ A16.out).mono ?_); rintro e w' ⟨rfl, ⟨nd, rfl⟩⟩; refine ⟨_, rfl, ?_⟩))
                  go_meet
                  case rel => exact ⟨_, (true), (by first | rfl | (simp; done) | (simp [*]; done)), H', ⟨by have := HJ2.out; have := HJ6.out; have := HK3.out; first | omega | exact Nat.le_refl _⟩, ⟨HW.zb⟩⟩
              case rest =>
                clear HC14; (try clear c1); (try clear p2); (try clear c4); (try clear c4b0); (try clear c4b1); (try clear c6); (try clear p7); (try clear q7); (try clear hx7); (try clear c9); (try clear c12); (try clear c13); (try clear c13b0); (try clear c14); (try clear c15); (try clear c15b0); (try clear c17); (try clear hx745_0); (try clear hx747_0); (try clear p2); (try clear p745); (try clear p747); (try clear q745); (try clear q747); obtain ⟨kq, x48_13, rfl, HA, HJ13, HB⟩ := hcut
                cases kq with
                | zero => exact absurd HA.out (by simp [laws_FnDocLookup.j3])
                | succ kj13 =>
                  have H := HA.out; clear HA
                  simp only [laws_FnDocLookup.j3] at H
                  by_cases c18 : x48_13 = true
                  · subst c18
                    have H1 : (some true) = some r := by rw [if_pos rfl] at H; exact H
                    clear H; have H := H1; clear H1
                    focus
                      obtain rfl := Option.some.inj H
                      go_wp2
                      go_ret
                      exact ⟨rfl, HW.zb⟩
                  replace c18 := Bool.eq_false_iff.mpr c18; subst c18
                  have H1 : (laws_FnDocLookup.l0 kj13 l0 l1 (wrap64 (x5_3 + 1))) = some r := by rw [if_neg (show ¬ (false = true) by decide)] at H; exact H
                  clear H; have H := H1; clear H1
                  focus
                    have H' := Aside0.mk H; clear H
                    go_wp2
                    go_roundg kj13
                    case measure => have := HJ2.out; have := HJ6.out; have := HK3.out; have := HJ13.out; omega
                    case rel => exact ⟨(wrap64 (x5_3 + 1)), (by first | rfl | (simp; done) | (simp [*]; done)), H', ⟨by have := HJ2.out; have := HJ6.out; have := HK3.out; have := HJ13.out; omega⟩, ⟨HW.zb⟩⟩

end Go.Proofs.YtbfhpjkahobgnaaGreatDoor.PLo
