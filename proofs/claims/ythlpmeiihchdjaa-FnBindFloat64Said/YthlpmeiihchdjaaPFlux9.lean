/- Printed by a program of this session (a turned copy of the printer of the kit): contracts of functions of the translation, each with the Lean function that it computes. Conditions: as each theorem states them. -/
import Derived.Test.YthlpmeiihchdjaaPFlux0
import Derived.Test.YthlpmeiihchdjaaPFlux1
import Derived.Test.YthlpmeiihchdjaaPFlux4
import Derived.Test.YthlpmeiihchdjaaPFlux5
import Derived.Test.YthlpmeiihchdjaaPFlux8
namespace Go.Proofs.Ythlpmeiihchdjaa.PFlu
open Go.RowKit Go.Proofs.YthlpmeiihchdjaaW.PrintWords Go.Proofs.YthlpmeiihchdjaaW.PrintLast Go.Proofs.YthlpmeiihchdjaaW.PrintMore
attribute [local go_sem] max2_int min2_int max_two min_two max_three min_three max_four min_four   -- for this text's walks alone
set_option linter.unusedVariables false
set_option linter.unusedSimpArgs false

/-! ### laws_FnBindFloat64: function 8 -/
mutual
def laws_FnBindFloat64.j0 : Nat → Bool → Int → ByteArray → ByteArray → Int → Int → Int → List Int → List (S98) → Option (Bool)
  | 0, _, _, _, _, _, _, _, _, _ => none
  | k + 1, x15, x410000, x410001, x410002, x410003, x410004, x410005, x410006, x410007 => if x15 = true then (some true) else ((spec_BindRaw.f k x410000 x410001 x410002 x410003 x410004 x410005 x410006 x410007).bind fun bt412 => ((impl_RawAsFloat64.f bt412.1 bt412.2).bind fun bt416 => (if x410000 = 1 then (if bt416.2 = true then (some (bt416.1 == x410004)) else (some false)) else (if x410000 = 16 then (laws_FnBindFloat64.j1 k bt416.1 bt416.2 (x410000 == 16) x410000 x410001 x410002 x410003 x410004 x410005 x410006 x410007) else (laws_FnBindFloat64.j1 k bt416.1 bt416.2 (x410000 == 18) x410000 x410001 x410002 x410003 x410004 x410005 x410006 x410007)))))
def laws_FnBindFloat64.j1 : Nat → Int → Bool → Bool → Int → ByteArray → ByteArray → Int → Int → Int → List Int → List (S98) → Option (Bool)
  | 0, _, _, _, _, _, _, _, _, _, _, _ => none
  | k + 1, x3, x4, x33, x410000, x410001, x410002, x410003, x410004, x410005, x410006, x410007 => if x33 = true then (if x410003 < (-9007199254740992) then (laws_FnBindFloat64.j2 k x3 x4 true x410000 x410001 x410002 x410003 x410004 x410005 x410006 x410007) else (laws_FnBindFloat64.j2 k x3 x4 (decide (x410003 > 9007199254740992)) x410000 x410001 x410002 x410003 x410004 x410005 x410006 x410007)) else (some (!x4))
def laws_FnBindFloat64.j2 : Nat → Int → Bool → Bool → Int → ByteArray → ByteArray → Int → Int → Int → List Int → List (S98) → Option (Bool)
  | 0, _, _, _, _, _, _, _, _, _, _, _ => none
  | k + 1, x3, x4, x43, x410000, x410001, x410002, x410003, x410004, x410005, x410006, x410007 => if x43 = true then (some x4) else (if x4 = true then ((spec_BindDouble.f k x410003).bind fun t418 => (some (x3 == t418))) else (some false))
end
def laws_FnBindFloat64.f (k : Nat) (a0_0 : Int) (a0_1 : ByteArray) (a0_2 : ByteArray) (a0_3 : Int) (a0_4 : Int) (a0_5 : Int) (l0_6 : List Int) (l0_7 : List (S98)) : Option (Bool) := (laws_zzFits1.f a0_0 a0_1 a0_2 a0_3 a0_4 a0_5 l0_6 l0_7).bind fun t410 => (if t410 = true then ((laws_bindRight.f k a0_0 a0_1 a0_2 a0_3 a0_4 a0_5 l0_6 l0_7).bind fun t411 => (if t411 = true then (laws_FnBindFloat64.j0 k (a0_0 == 19) a0_0 a0_1 a0_2 a0_3 a0_4 a0_5 l0_6 l0_7) else (laws_FnBindFloat64.j0 k true a0_0 a0_1 a0_2 a0_3 a0_4 a0_5 l0_6 l0_7))) else (some true))
theorem laws_FnBindFloat64.mono_l : ∀ k, (∀ y0 y1 y2 y3 y4 y5 y6 y7 y8, LeO (laws_FnBindFloat64.j0 k y0 y1 y2 y3 y4 y5 y6 y7 y8) (laws_FnBindFloat64.j0 (k + 1) y0 y1 y2 y3 y4 y5 y6 y7 y8)) ∧ (∀ y0 y1 y2 y3 y4 y5 y6 y7 y8 y9 y10, LeO (laws_FnBindFloat64.j1 k y0 y1 y2 y3 y4 y5 y6 y7 y8 y9 y10) (laws_FnBindFloat64.j1 (k + 1) y0 y1 y2 y3 y4 y5 y6 y7 y8 y9 y10)) ∧ (∀ y0 y1 y2 y3 y4 y5 y6 y7 y8 y9 y10, LeO (laws_FnBindFloat64.j2 k y0 y1 y2 y3 y4 y5 y6 y7 y8 y9 y10) (laws_FnBindFloat64.j2 (k + 1) y0 y1 y2 y3 y4 y5 y6 y7 y8 y9 y10))
  | 0 => ⟨fun _ _ _ _ _ _ _ _ _ r h => by simp [laws_FnBindFloat64.j0] at h, fun _ _ _ _ _ _ _ _ _ _ _ r h => by simp [laws_FnBindFloat64.j1] at h, fun _ _ _ _ _ _ _ _ _ _ _ r h => by simp [laws_FnBindFloat64.j2] at h⟩
  | k + 1 => by
    obtain ⟨ih0, ih1, ih2⟩ := laws_FnBindFloat64.mono_l k
    refine ⟨?_, ?_, ?_⟩
    · intro y0 y1 y2 y3 y4 y5 y6 y7 y8
      unfold laws_FnBindFloat64.j0
      repeat' first
      | (with_reducible exact ih0 _ _ _ _ _ _ _ _ _)
      | (with_reducible exact ih1 _ _ _ _ _ _ _ _ _ _ _)
      | (with_reducible exact ih2 _ _ _ _ _ _ _ _ _ _ _)
      | (with_reducible exact laws_bindRight.mono _ _ _ _ _ _ _ _ _)
      | (with_reducible exact spec_BindDouble.mono _ _)
      | (with_reducible exact spec_BindRaw.mono _ _ _ _ _ _ _ _ _)
      | (with_reducible exact LeO.refl _)
      | (with_reducible exact LeO.none _)
      | (with_reducible refine LeO.ite ?_ ?_)
      | (with_reducible refine LeO.bind ?_ (fun _ => ?_))
      | exact ih0 _ _ _ _ _ _ _ _ _
      | exact ih1 _ _ _ _ _ _ _ _ _ _ _
      | exact ih2 _ _ _ _ _ _ _ _ _ _ _
      | exact laws_bindRight.mono _ _ _ _ _ _ _ _ _
      | exact spec_BindDouble.mono _ _
      | exact spec_BindRaw.mono _ _ _ _ _ _ _ _ _
      | exact LeO.none _
      | refine LeO.ite ?_ ?_
      | refine LeO.bind ?_ (fun _ => ?_)
    · intro y0 y1 y2 y3 y4 y5 y6 y7 y8 y9 y10
      unfold laws_FnBindFloat64.j1
      repeat' first
      | (with_reducible exact ih0 _ _ _ _ _ _ _ _ _)
      | (with_reducible exact ih1 _ _ _ _ _ _ _ _ _ _ _)
      | (with_reducible exact ih2 _ _ _ _ _ _ _ _ _ _ _)
      | (with_reducible exact laws_bindRight.mono _ _ _ _ _ _ _ _ _)
      | (with_reducible exact spec_BindDouble.mono _ _)
      | (with_reducible exact spec_BindRaw.mono _ _ _ _ _ _ _ _ _)
      | (with_reducible exact LeO.refl _)
      | (with_reducible exact LeO.none _)
      | (with_reducible refine LeO.ite ?_ ?_)
      | (with_reducible refine LeO.bind ?_ (fun _ => ?_))
      | exact ih0 _ _ _ _ _ _ _ _ _
      | exact ih1 _ _ _ _ _ _ _ _ _ _ _
      | exact ih2 _ _ _ _ _ _ _ _ _ _ _
      | exact laws_bindRight.mono _ _ _ _ _ _ _ _ _
      | exact spec_BindDouble.mono _ _
      | exact spec_BindRaw.mono _ _ _ _ _ _ _ _ _
      | exact LeO.none _
      | refine LeO.ite ?_ ?_
      | refine LeO.bind ?_ (fun _ => ?_)
    · intro y0 y1 y2 y3 y4 y5 y6 y7 y8 y9 y10
      unfold laws_FnBindFloat64.j2
      repeat' first
      | (with_reducible exact ih0 _ _ _ _ _ _ _ _ _)
      | (with_reducible exact ih1 _ _ _ _ _ _ _ _ _ _ _)
      | (with_reducible exact ih2 _ _ _ _ _ _ _ _ _ _ _)
      | (with_reducible exact laws_bindRight.mono _ _ _ _ _ _ _ _ _)
      | (with_reducible exact spec_BindDouble.mono _ _)
      | (with_reducible exact spec_BindRaw.mono _ _ _ _ _ _ _ _ _)
      | (with_reducible exact LeO.refl _)
      | (with_reducible exact LeO.none _)
      | (with_reducible refine LeO.ite ?_ ?_)
      | (with_reducible refine LeO.bind ?_ (fun _ => ?_))
      | exact ih0 _ _ _ _ _ _ _ _ _
      | exact ih1 _ _ _ _ _ _ _ _ _ _ _
      | exact ih2 _ _ _ _ _ _ _ _ _ _ _
      | exact laws_bindRight.mono _ _ _ _ _ _ _ _ _
      | exact spec_BindDouble.mono _ _
      | exact spec_BindRaw.mono _ _ _ _ _ _ _ _ _
      | exact LeO.none _
      | refine LeO.ite ?_ ?_
      | refine LeO.bind ?_ (fun _ => ?_)
theorem laws_FnBindFloat64.mono : ∀ a0 a1 a2 a3 a4 a5 a6 a7 k, LeO (laws_FnBindFloat64.f k a0 a1 a2 a3 a4 a5 a6 a7) (laws_FnBindFloat64.f (k + 1) a0 a1 a2 a3 a4 a5 a6 a7) := by
  intro a0 a1 a2 a3 a4 a5 a6 a7 k
  obtain ⟨ih0, ih1, ih2⟩ := laws_FnBindFloat64.mono_l k
  unfold laws_FnBindFloat64.f
  repeat' first
      | (with_reducible exact ih0 _ _ _ _ _ _ _ _ _)
      | (with_reducible exact ih1 _ _ _ _ _ _ _ _ _ _ _)
      | (with_reducible exact ih2 _ _ _ _ _ _ _ _ _ _ _)
      | (with_reducible exact laws_bindRight.mono _ _ _ _ _ _ _ _ _)
      | (with_reducible exact spec_BindDouble.mono _ _)
      | (with_reducible exact spec_BindRaw.mono _ _ _ _ _ _ _ _ _)
      | (with_reducible exact LeO.refl _)
      | (with_reducible exact LeO.none _)
      | (with_reducible refine LeO.ite ?_ ?_)
      | (with_reducible refine LeO.bind ?_ (fun _ => ?_))
      | exact ih0 _ _ _ _ _ _ _ _ _
      | exact ih1 _ _ _ _ _ _ _ _ _ _ _
      | exact ih2 _ _ _ _ _ _ _ _ _ _ _
      | exact laws_bindRight.mono _ _ _ _ _ _ _ _ _
      | exact spec_BindDouble.mono _ _
      | exact spec_BindRaw.mono _ _ _ _ _ _ _ _ _
      | exact LeO.none _
      | refine LeO.ite ?_ ?_
      | refine LeO.bind ?_ (fun _ => ?_)
set_option maxHeartbeats 8000000 in
set_option maxRecDepth 100000 in
theorem laws_FnBindFloat64.calls (k : Nat) (a0_0 : Int) (a0_1 : ByteArray) (a0_2 : ByteArray) (a0_3 : Int) (a0_4 : Int) (a0_5 : Int) (A0_6 : Option Addr) (c0_6 : Nat) (l0_6 : List Int) (A0_7 : Option Addr) (c0_7 : Nat) (l0_7 : List (S98)) (r : Bool) (w : World) (hr0_6 : Kd.C (Kd.int .u8) w A0_6 l0_6.length l0_6) (hc0_6 : l0_6.length ≤ c0_6) (hr0_7 : Kd.C k98 w A0_7 l0_7.length l0_7) (hc0_7 : l0_7.length ≤ c0_7) (h : laws_FnBindFloat64.f k a0_0 a0_1 a0_2 a0_3 a0_4 a0_5 l0_6 l0_7 = some r) :
    Calls Try.prog 8 #[.agg #[.int .i64 a0_0, .string a0_1, .string a0_2, .int .i64 a0_3, .int .u64 a0_4, .int .u64 a0_5, .slice A0_6 l0_6.length c0_6, .slice A0_7 l0_7.length c0_7]] w fun e w' => e = .returned (.bool r) ∧ Below w.heap.size w w' := by
  have hu37 := Try.underlying37
  have HR0_6 := Aside0.mk hr0_6
  have HC0_6 := Aside0.mk hc0_6
  clear hr0_6 hc0_6
  have HR0_7 := Aside0.mk hr0_7
  have HC0_7 := Aside0.mk hc0_7
  clear hr0_7 hc0_7
  have HB := Aside0.mk (Below.refl w.heap.size w)
  have H : ((laws_zzFits1.f a0_0 a0_1 a0_2 a0_3 a0_4 a0_5 l0_6 l0_7).bind fun t410 => (if t410 = true then ((laws_bindRight.f k a0_0 a0_1 a0_2 a0_3 a0_4 a0_5 l0_6 l0_7).bind fun t411 => (if t411 = true then (laws_FnBindFloat64.j0 k (a0_0 == 19) a0_0 a0_1 a0_2 a0_3 a0_4 a0_5 l0_6 l0_7) else (laws_FnBindFloat64.j0 k true a0_0 a0_1 a0_2 a0_3 a0_4 a0_5 l0_6 l0_7))) else (some true))) = some r := h
  clear h
  replace H := Option.bind_eq_some_iff.mp H
  obtain ⟨t410, A20, H⟩ := H
  replace H : (if t410 = true then ((laws_bindRight.f k a0_0 a0_1 a0_2 a0_3 a0_4 a0_5 l0_6 l0_7).bind fun t411 => (if t411 = true then (laws_FnBindFloat64.j0 k (a0_0 == 19) a0_0 a0_1 a0_2 a0_3 a0_4 a0_5 l0_6 l0_7) else (laws_FnBindFloat64.j0 k true a0_0 a0_1 a0_2 a0_3 a0_4 a0_5 l0_6 l0_7))) else (some true)) = some r := H
  have A2 := Aside0.mk A20
  clear A20
  by_cases c3 : t410 = true
  · subst c3
    have H1 : ((laws_bindRight.f k a0_0 a0_1 a0_2 a0_3 a0_4 a0_5 l0_6 l0_7).bind fun t411 => (if t411 = true then (laws_FnBindFloat64.j0 k (a0_0 == 19) a0_0 a0_1 a0_2 a0_3 a0_4 a0_5 l0_6 l0_7) else (laws_FnBindFloat64.j0 k true a0_0 a0_1 a0_2 a0_3 a0_4 a0_5 l0_6 l0_7))) = some r := by rw [if_pos rfl] at H; exact H
    clear H
    have H := H1
    clear H1
    have HC4 := Aside0.mk H
    clear H
    go_enter Try.func8, Try.ntmps8
    go_upto_region 3 with (first | ((with_reducible refine gate_dst (N := 1) rfl ?_); refine box_event ?hg (N := 1) ?hd (cs := #[.int .i64 a0_0, .string a0_1, .string a0_2, .int .i64 a0_3, .int .u64 a0_4, .int .u64 a0_5, .slice A0_6 l0_6.length c0_6, .slice A0_7 l0_7.length c0_7]) (t := 37) ?hr ?_; (case hd => rfl); (case hg => rfl); (case hr => first | (go_simp; done) | (go_simp; rfl)); intro gb409 hg w5 hbox hb; have n0_ := Aside0.mk (below_step (by repeat (first | (with_reducible first | exact HB.out | apply below_alloc | apply pw_below_drewN | apply below_drew1) | exact HB.out)) hb); have n1_ := Aside0.mk (hbox); have n2_ := Aside0.mk ((by rw [hg]; exact (below_size (by repeat (first | (with_reducible first | exact HB.out | apply below_alloc | apply pw_below_drewN | apply below_drew1) | exact HB.out))) : w.heap.size ≤ gb409)); have n3_ := Aside0.mk ((by rw [hg]; exact (below_size (by repeat (first | (with_reducible first | exact HB.out | apply below_alloc | apply pw_below_drewN | apply below_drew1) | exact HB.out))) : w.heap.size ≤ gb409)); clear HB; have HB := n0_; have BK409 := n1_; have GW409 := n2_; have GE409 := n3_; clear n0_ n1_ n2_ n3_; clear hb hbox hg; have hcz6_0 : w5.cell? ⟨gb409, 0, none⟩ = some (.int .i64 a0_0) := (blk_cell BK409.out 0).trans rfl; have hcz6_1 : w5.cell? ⟨gb409, 1, none⟩ = some (.string a0_1) := (blk_cell BK409.out 1).trans rfl; have hcz6_2 : w5.cell? ⟨gb409, 2, none⟩ = some (.string a0_2) := (blk_cell BK409.out 2).trans rfl; have hcz6_3 : w5.cell? ⟨gb409, 3, none⟩ = some (.int .i64 a0_3) := (blk_cell BK409.out 3).trans rfl; have hcz6_4 : w5.cell? ⟨gb409, 4, none⟩ = some (.int .u64 a0_4) := (blk_cell BK409.out 4).trans rfl; have hcz6_5 : w5.cell? ⟨gb409, 5, none⟩ = some (.int .u64 a0_5) := (blk_cell BK409.out 5).trans rfl; have hcz6_6 : w5.cell? ⟨gb409, 6, none⟩ = some (.slice A0_6 l0_6.length c0_6) := (blk_cell BK409.out 6).trans rfl; have hcz6_7 : w5.cell? ⟨gb409, 7, none⟩ = some (.slice A0_7 l0_7.length c0_7) := (blk_cell BK409.out 7).trans rfl; have hfz6_0 := blk_frozen BK409.out 0; have hfz6_1 := blk_frozen BK409.out 1; have hfz6_2 := blk_frozen BK409.out 2; have hfz6_3 := blk_frozen BK409.out 3; have hfz6_4 := blk_frozen BK409.out 4; have hfz6_5 := blk_frozen BK409.out 5; have hfz6_6 := blk_frozen BK409.out 6; have hfz6_7 := blk_frozen BK409.out 7) | ((with_reducible refine gate_callee (f := 31) rfl ?_); refine goesL_ (some 6) rfl rfl Try.func31 (by kernel_rfl) rfl #[.agg #[.int .i64 a0_0, .string a0_1, .string a0_2, .int .i64 a0_3, .int .u64 a0_4, .int .u64 a0_5, .slice A0_6 l0_6.length c0_6, .slice A0_7 l0_7.length c0_7]] rfl (by (try simp only [List.map_toArray, List.map_cons, List.map_nil]); first | done | rfl | (simp only [List.length_drop, List.length_take]; rfl)) ?_; (with_reducible refine (laws_zzFits1.calls a0_0 a0_1 a0_2 a0_3 a0_4 a0_5 _ _ l0_6 _ _ l0_7 true _ ?side1 ?side2 ?side3 ?side4 A2.out).mono ?_); (case side1 => repeat (first | exact (Kd.C_below HR0_6.out HB.out) | (with_reducible refine Kd.C_alloc ?_ _) | (with_reducible refine Kd.C_drewN ?_ _) | (with_reducible refine Kd.C_drew ?_))); (case side2 => exact HC0_6.out); (case side3 => repeat (first | exact (Kd.C_below HR0_7.out HB.out) | (with_reducible refine Kd.C_alloc ?_ _) | (with_reducible refine Kd.C_drewN ?_ _) | (with_reducible refine Kd.C_drew ?_))); (case side4 => exact HC0_7.out); rintro e w7 ⟨rfl, hb⟩; refine ⟨_, rfl, ?_⟩; have n0_ := Aside0.mk (blk_below (g := gb409) (o := .cells #[.int .i64 a0_0, .string a0_1, .string a0_2, .int .i64 a0_3, .int .u64 a0_4, .int .u64 a0_5, .slice A0_6 l0_6.length c0_6, .slice A0_7 l0_7.length c0_7] 37 (0, 0)) (by (with_reducible repeat (first | refine blk_drewN ?_ _ | refine blk_drew ?_ | refine blk_alloc ?_ _)); exact BK409.out) hb); have n1_ := Aside0.mk (below_step (by repeat (first | (with_reducible first | exact HB.out | apply below_alloc | apply pw_below_drewN | apply below_drew1 | refine below_set ?_ GE409.out) | exact HB.out)) hb); clear BK409; clear HB; have BK409 := n0_; have HB := n1_; clear n0_ n1_; (try clear hb); (try clear hb2); (try clear hk); (try clear hi)))
    (try simp only [Act.put, List.setIfInBounds_toArray, List.set_cons_zero, List.set_cons_succ])
    go_cut [15] (fun v15 wc => ∃ (kq : Nat) (x15_3 : Bool), v15 = .bool x15_3 ∧ Aside0 (laws_FnBindFloat64.j0 kq x15_3 a0_0 a0_1 a0_2 a0_3 a0_4 a0_5 l0_6 l0_7 = some r) ∧ Aside0 (kq ≤ k) ∧ Aside0 (wc.heap[gb409]? = some (.cells #[.int .i64 a0_0, .string a0_1, .string a0_2, .int .i64 a0_3, .int .u64 a0_4, .int .u64 a0_5, (.slice A0_6 l0_6.length c0_6), (.slice A0_7 l0_7.length c0_7)] 37 (0, 0))) ∧ Aside0 (Below w.heap.size w wc))
    case first =>
      have H := HC4.out
      clear HC4
      replace H := Option.bind_eq_some_iff.mp H
      obtain ⟨t411, A80, H⟩ := H
      replace H : (if t411 = true then (laws_FnBindFloat64.j0 k (a0_0 == 19) a0_0 a0_1 a0_2 a0_3 a0_4 a0_5 l0_6 l0_7) else (laws_FnBindFloat64.j0 k true a0_0 a0_1 a0_2 a0_3 a0_4 a0_5 l0_6 l0_7)) = some r := H
      have A8 := Aside0.mk A80
      clear A80
      by_cases c9 : t411 = true
      · subst c9
        have H1 : (laws_FnBindFloat64.j0 k (a0_0 == 19) a0_0 a0_1 a0_2 a0_3 a0_4 a0_5 l0_6 l0_7) = some r := by rw [if_pos rfl] at H; exact H
        clear H
        have H := H1
        clear H1
        as_aux_lemma =>
          have H' := Aside0.mk H
          clear H
          have hcz10_0 : w7.cell? ⟨gb409, 0, none⟩ = some (.int .i64 a0_0) := (blk_cell BK409.out 0).trans rfl
          have hcz10_1 : w7.cell? ⟨gb409, 1, none⟩ = some (.string a0_1) := (blk_cell BK409.out 1).trans rfl
          have hcz10_2 : w7.cell? ⟨gb409, 2, none⟩ = some (.string a0_2) := (blk_cell BK409.out 2).trans rfl
          have hcz10_3 : w7.cell? ⟨gb409, 3, none⟩ = some (.int .i64 a0_3) := (blk_cell BK409.out 3).trans rfl
          have hcz10_4 : w7.cell? ⟨gb409, 4, none⟩ = some (.int .u64 a0_4) := (blk_cell BK409.out 4).trans rfl
          have hcz10_5 : w7.cell? ⟨gb409, 5, none⟩ = some (.int .u64 a0_5) := (blk_cell BK409.out 5).trans rfl
          have hcz10_6 : w7.cell? ⟨gb409, 6, none⟩ = some (.slice A0_6 l0_6.length c0_6) := (blk_cell BK409.out 6).trans rfl
          have hcz10_7 : w7.cell? ⟨gb409, 7, none⟩ = some (.slice A0_7 l0_7.length c0_7) := (blk_cell BK409.out 7).trans rfl
          have hfz10_0 := blk_frozen BK409.out 0
          have hfz10_1 := blk_frozen BK409.out 1
          have hfz10_2 := blk_frozen BK409.out 2
          have hfz10_3 := blk_frozen BK409.out 3
          have hfz10_4 := blk_frozen BK409.out 4
          have hfz10_5 := blk_frozen BK409.out 5
          have hfz10_6 := blk_frozen BK409.out 6
          have hfz10_7 := blk_frozen BK409.out 7
          go_wp2_with (first | ((with_reducible refine gate_callee (f := 32) rfl ?_); refine goesL_ (some 9) rfl rfl Try.func32 (by kernel_rfl) rfl #[.agg #[.int .i64 a0_0, .string a0_1, .string a0_2, .int .i64 a0_3, .int .u64 a0_4, .int .u64 a0_5, .slice A0_6 l0_6.length c0_6, .slice A0_7 l0_7.length c0_7]] rfl (by (try simp only [List.map_toArray, List.map_cons, List.map_nil]); first | done | rfl | (simp only [List.length_drop, List.length_take]; rfl)) ?_; (with_reducible refine (laws_bindRight.calls k a0_0 a0_1 a0_2 a0_3 a0_4 a0_5 _ _ l0_6 _ _ l0_7 true _ ?side1 ?side2 ?side3 ?side4 A8.out).mono ?_); (case side1 => repeat (first | exact (Kd.C_below HR0_6.out HB.out) | (with_reducible refine Kd.C_alloc ?_ _) | (with_reducible refine Kd.C_drewN ?_ _) | (with_reducible refine Kd.C_drew ?_))); (case side2 => exact HC0_6.out); (case side3 => repeat (first | exact (Kd.C_below HR0_7.out HB.out) | (with_reducible refine Kd.C_alloc ?_ _) | (with_reducible refine Kd.C_drewN ?_ _) | (with_reducible refine Kd.C_drew ?_))); (case side4 => exact HC0_7.out); rintro e w11 ⟨rfl, hb⟩; refine ⟨_, rfl, ?_⟩; have n0_ := Aside0.mk (blk_below (g := gb409) (o := .cells #[.int .i64 a0_0, .string a0_1, .string a0_2, .int .i64 a0_3, .int .u64 a0_4, .int .u64 a0_5, .slice A0_6 l0_6.length c0_6, .slice A0_7 l0_7.length c0_7] 37 (0, 0)) (by (with_reducible repeat (first | refine blk_drewN ?_ _ | refine blk_drew ?_ | refine blk_alloc ?_ _)); exact BK409.out) hb); have n1_ := Aside0.mk (below_step (by repeat (first | (with_reducible first | exact HB.out | apply below_alloc | apply pw_below_drewN | apply below_drew1 | refine below_set ?_ GE409.out) | exact HB.out)) hb); clear BK409; clear HB; have BK409 := n0_; have HB := n1_; clear n0_ n1_; (try clear hb); (try clear hb2); (try clear hk); (try clear hi); have hcz12_0 : w11.cell? ⟨gb409, 0, none⟩ = some (.int .i64 a0_0) := (blk_cell BK409.out 0).trans rfl; have hcz12_1 : w11.cell? ⟨gb409, 1, none⟩ = some (.string a0_1) := (blk_cell BK409.out 1).trans rfl; have hcz12_2 : w11.cell? ⟨gb409, 2, none⟩ = some (.string a0_2) := (blk_cell BK409.out 2).trans rfl; have hcz12_3 : w11.cell? ⟨gb409, 3, none⟩ = some (.int .i64 a0_3) := (blk_cell BK409.out 3).trans rfl; have hcz12_4 : w11.cell? ⟨gb409, 4, none⟩ = some (.int .u64 a0_4) := (blk_cell BK409.out 4).trans rfl; have hcz12_5 : w11.cell? ⟨gb409, 5, none⟩ = some (.int .u64 a0_5) := (blk_cell BK409.out 5).trans rfl; have hcz12_6 : w11.cell? ⟨gb409, 6, none⟩ = some (.slice A0_6 l0_6.length c0_6) := (blk_cell BK409.out 6).trans rfl; have hcz12_7 : w11.cell? ⟨gb409, 7, none⟩ = some (.slice A0_7 l0_7.length c0_7) := (blk_cell BK409.out 7).trans rfl; have hfz12_0 := blk_frozen BK409.out 0; have hfz12_1 := blk_frozen BK409.out 1; have hfz12_2 := blk_frozen BK409.out 2; have hfz12_3 := blk_frozen BK409.out 3; have hfz12_4 := blk_frozen BK409.out 4; have hfz12_5 := blk_frozen BK409.out 5; have hfz12_6 := blk_frozen BK409.out 6; have hfz12_7 := blk_frozen BK409.out 7))
          go_meet
          case rel => exact ⟨_, ((a0_0 == 19)), (by first | rfl | (simp; done) | (simp [*]; done)), H', ⟨by first | omega | exact Nat.le_refl _⟩, ⟨by (with_reducible repeat (first | refine blk_drewN ?_ _ | refine blk_drew ?_ | refine blk_alloc ?_ _)); exact BK409.out⟩, ⟨by repeat (first | (with_reducible first | exact HB.out | apply below_alloc | apply pw_below_drewN | apply below_drew1 | refine below_set ?_ GE409.out) | exact HB.out)⟩⟩
      · replace c9 := Bool.eq_false_iff.mpr c9
        subst c9
        have H1 : (laws_FnBindFloat64.j0 k true a0_0 a0_1 a0_2 a0_3 a0_4 a0_5 l0_6 l0_7) = some r := by rw [if_neg (show ¬ (false = true) by decide)] at H; exact H
        clear H
        have H := H1
        clear H1
        as_aux_lemma =>
          have H' := Aside0.mk H
          clear H
          have hcz13_0 : w7.cell? ⟨gb409, 0, none⟩ = some (.int .i64 a0_0) := (blk_cell BK409.out 0).trans rfl
          have hcz13_1 : w7.cell? ⟨gb409, 1, none⟩ = some (.string a0_1) := (blk_cell BK409.out 1).trans rfl
          have hcz13_2 : w7.cell? ⟨gb409, 2, none⟩ = some (.string a0_2) := (blk_cell BK409.out 2).trans rfl
          have hcz13_3 : w7.cell? ⟨gb409, 3, none⟩ = some (.int .i64 a0_3) := (blk_cell BK409.out 3).trans rfl
          have hcz13_4 : w7.cell? ⟨gb409, 4, none⟩ = some (.int .u64 a0_4) := (blk_cell BK409.out 4).trans rfl
          have hcz13_5 : w7.cell? ⟨gb409, 5, none⟩ = some (.int .u64 a0_5) := (blk_cell BK409.out 5).trans rfl
          have hcz13_6 : w7.cell? ⟨gb409, 6, none⟩ = some (.slice A0_6 l0_6.length c0_6) := (blk_cell BK409.out 6).trans rfl
          have hcz13_7 : w7.cell? ⟨gb409, 7, none⟩ = some (.slice A0_7 l0_7.length c0_7) := (blk_cell BK409.out 7).trans rfl
          have hfz13_0 := blk_frozen BK409.out 0
          have hfz13_1 := blk_frozen BK409.out 1
          have hfz13_2 := blk_frozen BK409.out 2
          have hfz13_3 := blk_frozen BK409.out 3
          have hfz13_4 := blk_frozen BK409.out 4
          have hfz13_5 := blk_frozen BK409.out 5
          have hfz13_6 := blk_frozen BK409.out 6
          have hfz13_7 := blk_frozen BK409.out 7
          go_wp2_with (first | ((with_reducible refine gate_callee (f := 32) rfl ?_); refine goesL_ (some 9) rfl rfl Try.func32 (by kernel_rfl) rfl #[.agg #[.int .i64 a0_0, .string a0_1, .string a0_2, .int .i64 a0_3, .int .u64 a0_4, .int .u64 a0_5, .slice A0_6 l0_6.length c0_6, .slice A0_7 l0_7.length c0_7]] rfl (by (try simp only [List.map_toArray, List.map_cons, List.map_nil]); first | done | rfl | (simp only [List.length_drop, List.length_take]; rfl)) ?_; (with_reducible refine (laws_bindRight.calls k a0_0 a0_1 a0_2 a0_3 a0_4 a0_5 _ _ l0_6 _ _ l0_7 false _ ?side1 ?side2 ?side3 ?side4 A8.out).mono ?_); (case side1 => repeat (first | exact (Kd.C_below HR0_6.out HB.out) | (with_reducible refine Kd.C_alloc ?_ _) | (with_reducible refine Kd.C_drewN ?_ _) | (with_reducible refine Kd.C_drew ?_))); (case side2 => exact HC0_6.out); (case side3 => repeat (first | exact (Kd.C_below HR0_7.out HB.out) | (with_reducible refine Kd.C_alloc ?_ _) | (with_reducible refine Kd.C_drewN ?_ _) | (with_reducible refine Kd.C_drew ?_))); (case side4 => exact HC0_7.out); rintro e w14 ⟨rfl, hb⟩; refine ⟨_, rfl, ?_⟩; have n0_ := Aside0.mk (blk_below (g := gb409) (o := .cells #[.int .i64 a0_0, .string a0_1, .string a0_2, .int .i64 a0_3, .int .u64 a0_4, .int .u64 a0_5, .slice A0_6 l0_6.length c0_6, .slice A0_7 l0_7.length c0_7] 37 (0, 0)) (by (with_reducible repeat (first | refine blk_drewN ?_ _ | refine blk_drew ?_ | refine blk_alloc ?_ _)); exact BK409.out) hb); have n1_ := Aside0.mk (below_step (by repeat (first | (with_reducible first | exact HB.out | apply below_alloc | apply pw_below_drewN | apply below_drew1 | refine below_set ?_ GE409.out) | exact HB.out)) hb); clear BK409; clear HB; have BK409 := n0_; have HB := n1_; clear n0_ n1_; (try clear hb); (try clear hb2); (try clear hk); (try clear hi)))
          go_meet
          case rel => exact ⟨_, (true), (by first | rfl | (simp; done) | (simp [*]; done)), H', ⟨by first | omega | exact Nat.le_refl _⟩, ⟨by (with_reducible repeat (first | refine blk_drewN ?_ _ | refine blk_drew ?_ | refine blk_alloc ?_ _)); exact BK409.out⟩, ⟨by repeat (first | (with_reducible first | exact HB.out | apply below_alloc | apply pw_below_drewN | apply below_drew1 | refine below_set ?_ GE409.out) | exact HB.out)⟩⟩
    case rest =>
      clear HC4
      try clear p2
      try clear c3
      try clear c8
      try clear c9
      try clear hcz10_0
      try clear hcz10_1
      try clear hcz10_2
      try clear hcz10_3
      try clear hcz10_4
      try clear hcz10_5
      try clear hcz10_6
      try clear hcz10_7
      try clear hcz12_0
      try clear hcz12_1
      try clear hcz12_2
      try clear hcz12_3
      try clear hcz12_4
      try clear hcz12_5
      try clear hcz12_6
      try clear hcz12_7
      try clear hcz13_0
      try clear hcz13_1
      try clear hcz13_2
      try clear hcz13_3
      try clear hcz13_4
      try clear hcz13_5
      try clear hcz13_6
      try clear hcz13_7
      try clear hcz6_0
      try clear hcz6_1
      try clear hcz6_2
      try clear hcz6_3
      try clear hcz6_4
      try clear hcz6_5
      try clear hcz6_6
      try clear hcz6_7
      try clear hfz10_0
      try clear hfz10_1
      try clear hfz10_2
      try clear hfz10_3
      try clear hfz10_4
      try clear hfz10_5
      try clear hfz10_6
      try clear hfz10_7
      try clear hfz12_0
      try clear hfz12_1
      try clear hfz12_2
      try clear hfz12_3
      try clear hfz12_4
      try clear hfz12_5
      try clear hfz12_6
      try clear hfz12_7
      try clear hfz13_0
      try clear hfz13_1
      try clear hfz13_2
      try clear hfz13_3
      try clear hfz13_4
      try clear hfz13_5
      try clear hfz13_6
      try clear hfz13_7
      try clear hfz6_0
      try clear hfz6_1
      try clear hfz6_2
      try clear hfz6_3
      try clear hfz6_4
      try clear hfz6_5
      try clear hfz6_6
      try clear hfz6_7
      obtain ⟨kq, x15_3, rfl, HA, HJ3, BK409, HB⟩ := hcut
      cases kq with
      | zero => exact absurd HA.out (by simp [laws_FnBindFloat64.j0])
      | succ kj3 =>
        have H := HA.out
        clear HA
        simp only [laws_FnBindFloat64.j0] at H
        by_cases c15 : x15_3 = true
        · subst c15
          have H1 : (some true) = some r := by rw [if_pos rfl] at H; exact H
          clear H
          have H := H1
          clear H1
          as_aux_lemma =>
            obtain rfl := Option.some.inj H
            go_wp2
            go_ret
            exact ⟨by first | rfl | (simp [errW_none, errW_some] <;> rfl) | (simp [*, errW_none, errW_some] <;> rfl), by repeat (first | (with_reducible first | exact HB.out | apply below_alloc | apply pw_below_drewN | apply below_drew1 | refine below_set ?_ GE409.out) | exact HB.out)⟩
        · replace c15 := Bool.eq_false_iff.mpr c15
          subst c15
          have H1 : ((spec_BindRaw.f kj3 a0_0 a0_1 a0_2 a0_3 a0_4 a0_5 l0_6 l0_7).bind fun bt412 => ((impl_RawAsFloat64.f bt412.1 bt412.2).bind fun bt416 => (if a0_0 = 1 then (if bt416.2 = true then (some (bt416.1 == a0_4)) else (some false)) else (if a0_0 = 16 then (laws_FnBindFloat64.j1 kj3 bt416.1 bt416.2 (a0_0 == 16) a0_0 a0_1 a0_2 a0_3 a0_4 a0_5 l0_6 l0_7) else (laws_FnBindFloat64.j1 kj3 bt416.1 bt416.2 (a0_0 == 18) a0_0 a0_1 a0_2 a0_3 a0_4 a0_5 l0_6 l0_7))))) = some r := by rw [if_neg (show ¬ (false = true) by decide)] at H; exact H
          clear H
          have H := H1
          clear H1
          replace H := Option.bind_eq_some_iff.mp H
          obtain ⟨⟨t412, t413⟩, A160, H⟩ := H
          replace H : ((impl_RawAsFloat64.f t412 t413).bind fun bt416 => (if a0_0 = 1 then (if bt416.2 = true then (some (bt416.1 == a0_4)) else (some false)) else (if a0_0 = 16 then (laws_FnBindFloat64.j1 kj3 bt416.1 bt416.2 (a0_0 == 16) a0_0 a0_1 a0_2 a0_3 a0_4 a0_5 l0_6 l0_7) else (laws_FnBindFloat64.j1 kj3 bt416.1 bt416.2 (a0_0 == 18) a0_0 a0_1 a0_2 a0_3 a0_4 a0_5 l0_6 l0_7)))) = some r := H
          have A16 := Aside0.mk A160
          clear A160
          replace H := Option.bind_eq_some_iff.mp H
          obtain ⟨⟨t416, t417⟩, A170, H⟩ := H
          replace H : (if a0_0 = 1 then (if t417 = true then (some (t416 == a0_4)) else (some false)) else (if a0_0 = 16 then (laws_FnBindFloat64.j1 kj3 t416 t417 (a0_0 == 16) a0_0 a0_1 a0_2 a0_3 a0_4 a0_5 l0_6 l0_7) else (laws_FnBindFloat64.j1 kj3 t416 t417 (a0_0 == 18) a0_0 a0_1 a0_2 a0_3 a0_4 a0_5 l0_6 l0_7))) = some r := H
          have A17 := Aside0.mk A170
          clear A170
          by_cases c18 : a0_0 = 1
          · rw [if_pos c18] at H
            have c18b0 : (a0_0 == 1) = true := beq_iff_eq.mpr c18
            have c18b1 : (a0_0 != 1) = false := bne_eq_false_iff_eq.mpr c18
            clear c18
            by_cases c19 : t417 = true
            · subst c19
              have H1 : (some (t416 == a0_4)) = some r := by rw [if_pos rfl] at H; exact H
              clear H
              have H := H1
              clear H1
              as_aux_lemma =>
                obtain rfl := Option.some.inj H
                have hcz20_0 : wc.cell? ⟨gb409, 0, none⟩ = some (.int .i64 a0_0) := (blk_cell BK409.out 0).trans rfl
                have hcz20_1 : wc.cell? ⟨gb409, 1, none⟩ = some (.string a0_1) := (blk_cell BK409.out 1).trans rfl
                have hcz20_2 : wc.cell? ⟨gb409, 2, none⟩ = some (.string a0_2) := (blk_cell BK409.out 2).trans rfl
                have hcz20_3 : wc.cell? ⟨gb409, 3, none⟩ = some (.int .i64 a0_3) := (blk_cell BK409.out 3).trans rfl
                have hcz20_4 : wc.cell? ⟨gb409, 4, none⟩ = some (.int .u64 a0_4) := (blk_cell BK409.out 4).trans rfl
                have hcz20_5 : wc.cell? ⟨gb409, 5, none⟩ = some (.int .u64 a0_5) := (blk_cell BK409.out 5).trans rfl
                have hcz20_6 : wc.cell? ⟨gb409, 6, none⟩ = some (.slice A0_6 l0_6.length c0_6) := (blk_cell BK409.out 6).trans rfl
                have hcz20_7 : wc.cell? ⟨gb409, 7, none⟩ = some (.slice A0_7 l0_7.length c0_7) := (blk_cell BK409.out 7).trans rfl
                have hfz20_0 := blk_frozen BK409.out 0
                have hfz20_1 := blk_frozen BK409.out 1
                have hfz20_2 := blk_frozen BK409.out 2
                have hfz20_3 := blk_frozen BK409.out 3
                have hfz20_4 := blk_frozen BK409.out 4
                have hfz20_5 := blk_frozen BK409.out 5
                have hfz20_6 := blk_frozen BK409.out 6
                have hfz20_7 := blk_frozen BK409.out 7
                go_wp2_with (first | ((with_reducible refine gate_callee (f := 34) rfl ?_); refine goesL_ (some 18) rfl rfl Try.func34 (by kernel_rfl) rfl #[.agg #[.int .i64 a0_0, .string a0_1, .string a0_2, .int .i64 a0_3, .int .u64 a0_4, .int .u64 a0_5, .slice A0_6 l0_6.length c0_6, .slice A0_7 l0_7.length c0_7]] rfl (by (try simp only [List.map_toArray, List.map_cons, List.map_nil]); first | done | rfl | (simp only [List.length_drop, List.length_take]; rfl)) ?_; (with_reducible refine (spec_BindRaw.calls kj3 a0_0 a0_1 a0_2 a0_3 a0_4 a0_5 _ _ l0_6 _ _ l0_7 t412 t413 _ ?side1 ?side2 ?side3 ?side4 A16.out).mono ?_); (case side1 => repeat (first | exact (Kd.C_below HR0_6.out HB.out) | (with_reducible refine Kd.C_alloc ?_ _) | (with_reducible refine Kd.C_drewN ?_ _) | (with_reducible refine Kd.C_drew ?_))); (case side2 => exact HC0_6.out); (case side3 => repeat (first | exact (Kd.C_below HR0_7.out HB.out) | (with_reducible refine Kd.C_alloc ?_ _) | (with_reducible refine Kd.C_drewN ?_ _) | (with_reducible refine Kd.C_drew ?_))); (case side4 => exact HC0_7.out); rintro e w21 ⟨v414, rfl, ho0, hb⟩; refine ⟨_, rfl, ?_⟩; have n0_ := Aside0.mk (Kd.R_lower ho0 (below_size (by repeat (first | (with_reducible first | exact HB.out | apply below_alloc | apply pw_below_drewN | apply below_drew1 | refine below_set ?_ GE409.out) | exact HB.out)))); have n1_ := Aside0.mk (blk_below (g := gb409) (o := .cells #[.int .i64 a0_0, .string a0_1, .string a0_2, .int .i64 a0_3, .int .u64 a0_4, .int .u64 a0_5, .slice A0_6 l0_6.length c0_6, .slice A0_7 l0_7.length c0_7] 37 (0, 0)) (by (with_reducible repeat (first | refine blk_drewN ?_ _ | refine blk_drew ?_ | refine blk_alloc ?_ _)); exact BK409.out) hb); have n2_ := Aside0.mk (below_step (by repeat (first | (with_reducible first | exact HB.out | apply below_alloc | apply pw_below_drewN | apply below_drew1 | refine below_set ?_ GE409.out) | exact HB.out)) hb); clear BK409; clear HB; have HO415 := n0_; have BK409 := n1_; have HB := n2_; clear n0_ n1_ n2_; (try clear hb); (try clear hb2); (try clear hk); (try clear hi); (try clear ho0); obtain ⟨Ao22, co22, eo22⟩ := Kd.R_slice HO415.out; subst eo22) | ((with_reducible refine gate_callee (f := 33) rfl ?_); refine goesL_ (some 19) rfl rfl Try.func33 (by kernel_rfl) rfl #[.agg #[.int .i64 t412, .slice Ao22 t413.length co22]] rfl (by (try simp only [List.map_toArray, List.map_cons, List.map_nil]); first | done | rfl | (simp only [List.length_drop, List.length_take]; rfl)) ?_; (with_reducible refine (impl_RawAsFloat64.calls t412 _ _ t413 t416 true _ ?side1 ?side2 A17.out).mono ?_); (case side1 => repeat (first | exact (Kd.R_reads' HO415.out).2.2 | (with_reducible refine Kd.C_alloc ?_ _) | (with_reducible refine Kd.C_drewN ?_ _) | (with_reducible refine Kd.C_drew ?_))); (case side2 => exact (Kd.R_reads' HO415.out).2.1); rintro e w23 ⟨rfl, hb⟩; refine ⟨_, rfl, ?_⟩; have n0_ := Aside0.mk (Kd.R_below (by (with_reducible repeat (first | apply Kd.R_alloc | apply Kd.R_drewN | apply Kd.R_drew)); exact HO415.out) hb); have n1_ := Aside0.mk (blk_below (g := gb409) (o := .cells #[.int .i64 a0_0, .string a0_1, .string a0_2, .int .i64 a0_3, .int .u64 a0_4, .int .u64 a0_5, .slice A0_6 l0_6.length c0_6, .slice A0_7 l0_7.length c0_7] 37 (0, 0)) (by (with_reducible repeat (first | refine blk_drewN ?_ _ | refine blk_drew ?_ | refine blk_alloc ?_ _)); exact BK409.out) hb); have n2_ := Aside0.mk (below_step (by repeat (first | (with_reducible first | exact HB.out | apply below_alloc | apply pw_below_drewN | apply below_drew1 | refine below_set ?_ GE409.out) | exact HB.out)) hb); clear HO415; clear BK409; clear HB; have HO415 := n0_; have BK409 := n1_; have HB := n2_; clear n0_ n1_ n2_; (try clear hb); (try clear hb2); (try clear hk); (try clear hi); have hcz24_0 : w23.cell? ⟨gb409, 0, none⟩ = some (.int .i64 a0_0) := (blk_cell BK409.out 0).trans rfl; have hcz24_1 : w23.cell? ⟨gb409, 1, none⟩ = some (.string a0_1) := (blk_cell BK409.out 1).trans rfl; have hcz24_2 : w23.cell? ⟨gb409, 2, none⟩ = some (.string a0_2) := (blk_cell BK409.out 2).trans rfl; have hcz24_3 : w23.cell? ⟨gb409, 3, none⟩ = some (.int .i64 a0_3) := (blk_cell BK409.out 3).trans rfl; have hcz24_4 : w23.cell? ⟨gb409, 4, none⟩ = some (.int .u64 a0_4) := (blk_cell BK409.out 4).trans rfl; have hcz24_5 : w23.cell? ⟨gb409, 5, none⟩ = some (.int .u64 a0_5) := (blk_cell BK409.out 5).trans rfl; have hcz24_6 : w23.cell? ⟨gb409, 6, none⟩ = some (.slice A0_6 l0_6.length c0_6) := (blk_cell BK409.out 6).trans rfl; have hcz24_7 : w23.cell? ⟨gb409, 7, none⟩ = some (.slice A0_7 l0_7.length c0_7) := (blk_cell BK409.out 7).trans rfl; have hfz24_0 := blk_frozen BK409.out 0; have hfz24_1 := blk_frozen BK409.out 1; have hfz24_2 := blk_frozen BK409.out 2; have hfz24_3 := blk_frozen BK409.out 3; have hfz24_4 := blk_frozen BK409.out 4; have hfz24_5 := blk_frozen BK409.out 5; have hfz24_6 := blk_frozen BK409.out 6; have hfz24_7 := blk_frozen BK409.out 7))
                go_ret
                exact ⟨by first | rfl | (simp [errW_none, errW_some] <;> rfl) | (simp [*, errW_none, errW_some] <;> rfl), by repeat (first | (with_reducible first | exact HB.out | apply below_alloc | apply pw_below_drewN | apply below_drew1 | refine below_set ?_ GE409.out) | exact HB.out)⟩
            · replace c19 := Bool.eq_false_iff.mpr c19
              subst c19
              have H1 : (some false) = some r := by rw [if_neg (show ¬ (false = true) by decide)] at H; exact H
              clear H
              have H := H1
              clear H1
              as_aux_lemma =>
                obtain rfl := Option.some.inj H
                have hcz25_0 : wc.cell? ⟨gb409, 0, none⟩ = some (.int .i64 a0_0) := (blk_cell BK409.out 0).trans rfl
                have hcz25_1 : wc.cell? ⟨gb409, 1, none⟩ = some (.string a0_1) := (blk_cell BK409.out 1).trans rfl
                have hcz25_2 : wc.cell? ⟨gb409, 2, none⟩ = some (.string a0_2) := (blk_cell BK409.out 2).trans rfl
                have hcz25_3 : wc.cell? ⟨gb409, 3, none⟩ = some (.int .i64 a0_3) := (blk_cell BK409.out 3).trans rfl
                have hcz25_4 : wc.cell? ⟨gb409, 4, none⟩ = some (.int .u64 a0_4) := (blk_cell BK409.out 4).trans rfl
                have hcz25_5 : wc.cell? ⟨gb409, 5, none⟩ = some (.int .u64 a0_5) := (blk_cell BK409.out 5).trans rfl
                have hcz25_6 : wc.cell? ⟨gb409, 6, none⟩ = some (.slice A0_6 l0_6.length c0_6) := (blk_cell BK409.out 6).trans rfl
                have hcz25_7 : wc.cell? ⟨gb409, 7, none⟩ = some (.slice A0_7 l0_7.length c0_7) := (blk_cell BK409.out 7).trans rfl
                have hfz25_0 := blk_frozen BK409.out 0
                have hfz25_1 := blk_frozen BK409.out 1
                have hfz25_2 := blk_frozen BK409.out 2
                have hfz25_3 := blk_frozen BK409.out 3
                have hfz25_4 := blk_frozen BK409.out 4
                have hfz25_5 := blk_frozen BK409.out 5
                have hfz25_6 := blk_frozen BK409.out 6
                have hfz25_7 := blk_frozen BK409.out 7
                go_wp2_with (first | ((with_reducible refine gate_callee (f := 34) rfl ?_); refine goesL_ (some 18) rfl rfl Try.func34 (by kernel_rfl) rfl #[.agg #[.int .i64 a0_0, .string a0_1, .string a0_2, .int .i64 a0_3, .int .u64 a0_4, .int .u64 a0_5, .slice A0_6 l0_6.length c0_6, .slice A0_7 l0_7.length c0_7]] rfl (by (try simp only [List.map_toArray, List.map_cons, List.map_nil]); first | done | rfl | (simp only [List.length_drop, List.length_take]; rfl)) ?_; (with_reducible refine (spec_BindRaw.calls kj3 a0_0 a0_1 a0_2 a0_3 a0_4 a0_5 _ _ l0_6 _ _ l0_7 t412 t413 _ ?side1 ?side2 ?side3 ?side4 A16.out).mono ?_); (case side1 => repeat (first | exact (Kd.C_below HR0_6.out HB.out) | (with_reducible refine Kd.C_alloc ?_ _) | (with_reducible refine Kd.C_drewN ?_ _) | (with_reducible refine Kd.C_drew ?_))); (case side2 => exact HC0_6.out); (case side3 => repeat (first | exact (Kd.C_below HR0_7.out HB.out) | (with_reducible refine Kd.C_alloc ?_ _) | (with_reducible refine Kd.C_drewN ?_ _) | (with_reducible refine Kd.C_drew ?_))); (case side4 => exact HC0_7.out); rintro e w26 ⟨v414, rfl, ho0, hb⟩; refine ⟨_, rfl, ?_⟩; have n0_ := Aside0.mk (Kd.R_lower ho0 (below_size (by repeat (first | (with_reducible first | exact HB.out | apply below_alloc | apply pw_below_drewN | apply below_drew1 | refine below_set ?_ GE409.out) | exact HB.out)))); have n1_ := Aside0.mk (blk_below (g := gb409) (o := .cells #[.int .i64 a0_0, .string a0_1, .string a0_2, .int .i64 a0_3, .int .u64 a0_4, .int .u64 a0_5, .slice A0_6 l0_6.length c0_6, .slice A0_7 l0_7.length c0_7] 37 (0, 0)) (by (with_reducible repeat (first | refine blk_drewN ?_ _ | refine blk_drew ?_ | refine blk_alloc ?_ _)); exact BK409.out) hb); have n2_ := Aside0.mk (below_step (by repeat (first | (with_reducible first | exact HB.out | apply below_alloc | apply pw_below_drewN | apply below_drew1 | refine below_set ?_ GE409.out) | exact HB.out)) hb); clear BK409; clear HB; have HO415 := n0_; have BK409 := n1_; have HB := n2_; clear n0_ n1_ n2_; (try clear hb); (try clear hb2); (try clear hk); (try clear hi); (try clear ho0); obtain ⟨Ao27, co27, eo27⟩ := Kd.R_slice HO415.out; subst eo27) | ((with_reducible refine gate_callee (f := 33) rfl ?_); refine goesL_ (some 19) rfl rfl Try.func33 (by kernel_rfl) rfl #[.agg #[.int .i64 t412, .slice Ao27 t413.length co27]] rfl (by (try simp only [List.map_toArray, List.map_cons, List.map_nil]); first | done | rfl | (simp only [List.length_drop, List.length_take]; rfl)) ?_; (with_reducible refine (impl_RawAsFloat64.calls t412 _ _ t413 t416 false _ ?side1 ?side2 A17.out).mono ?_); (case side1 => repeat (first | exact (Kd.R_reads' HO415.out).2.2 | (with_reducible refine Kd.C_alloc ?_ _) | (with_reducible refine Kd.C_drewN ?_ _) | (with_reducible refine Kd.C_drew ?_))); (case side2 => exact (Kd.R_reads' HO415.out).2.1); rintro e w28 ⟨rfl, hb⟩; refine ⟨_, rfl, ?_⟩; have n0_ := Aside0.mk (Kd.R_below (by (with_reducible repeat (first | apply Kd.R_alloc | apply Kd.R_drewN | apply Kd.R_drew)); exact HO415.out) hb); have n1_ := Aside0.mk (blk_below (g := gb409) (o := .cells #[.int .i64 a0_0, .string a0_1, .string a0_2, .int .i64 a0_3, .int .u64 a0_4, .int .u64 a0_5, .slice A0_6 l0_6.length c0_6, .slice A0_7 l0_7.length c0_7] 37 (0, 0)) (by (with_reducible repeat (first | refine blk_drewN ?_ _ | refine blk_drew ?_ | refine blk_alloc ?_ _)); exact BK409.out) hb); have n2_ := Aside0.mk (below_step (by repeat (first | (with_reducible first | exact HB.out | apply below_alloc | apply pw_below_drewN | apply below_drew1 | refine below_set ?_ GE409.out) | exact HB.out)) hb); clear HO415; clear BK409; clear HB; have HO415 := n0_; have BK409 := n1_; have HB := n2_; clear n0_ n1_ n2_; (try clear hb); (try clear hb2); (try clear hk); (try clear hi); have hcz29_0 : w28.cell? ⟨gb409, 0, none⟩ = some (.int .i64 a0_0) := (blk_cell BK409.out 0).trans rfl; have hcz29_1 : w28.cell? ⟨gb409, 1, none⟩ = some (.string a0_1) := (blk_cell BK409.out 1).trans rfl; have hcz29_2 : w28.cell? ⟨gb409, 2, none⟩ = some (.string a0_2) := (blk_cell BK409.out 2).trans rfl; have hcz29_3 : w28.cell? ⟨gb409, 3, none⟩ = some (.int .i64 a0_3) := (blk_cell BK409.out 3).trans rfl; have hcz29_4 : w28.cell? ⟨gb409, 4, none⟩ = some (.int .u64 a0_4) := (blk_cell BK409.out 4).trans rfl; have hcz29_5 : w28.cell? ⟨gb409, 5, none⟩ = some (.int .u64 a0_5) := (blk_cell BK409.out 5).trans rfl; have hcz29_6 : w28.cell? ⟨gb409, 6, none⟩ = some (.slice A0_6 l0_6.length c0_6) := (blk_cell BK409.out 6).trans rfl; have hcz29_7 : w28.cell? ⟨gb409, 7, none⟩ = some (.slice A0_7 l0_7.length c0_7) := (blk_cell BK409.out 7).trans rfl; have hfz29_0 := blk_frozen BK409.out 0; have hfz29_1 := blk_frozen BK409.out 1; have hfz29_2 := blk_frozen BK409.out 2; have hfz29_3 := blk_frozen BK409.out 3; have hfz29_4 := blk_frozen BK409.out 4; have hfz29_5 := blk_frozen BK409.out 5; have hfz29_6 := blk_frozen BK409.out 6; have hfz29_7 := blk_frozen BK409.out 7))
                go_ret
                exact ⟨by first | rfl | (simp [errW_none, errW_some] <;> rfl) | (simp [*, errW_none, errW_some] <;> rfl), by repeat (first | (with_reducible first | exact HB.out | apply below_alloc | apply pw_below_drewN | apply below_drew1 | refine below_set ?_ GE409.out) | exact HB.out)⟩
          · rw [if_neg c18] at H
            have c18b0 : (a0_0 == 1) = false := beq_eq_false_iff_ne.mpr c18
            have c18b1 : (a0_0 != 1) = true := bne_iff_ne.mpr c18
            have HC30 := Aside0.mk H
            clear H
            have hcz31_0 : wc.cell? ⟨gb409, 0, none⟩ = some (.int .i64 a0_0) := (blk_cell BK409.out 0).trans rfl
            have hcz31_1 : wc.cell? ⟨gb409, 1, none⟩ = some (.string a0_1) := (blk_cell BK409.out 1).trans rfl
            have hcz31_2 : wc.cell? ⟨gb409, 2, none⟩ = some (.string a0_2) := (blk_cell BK409.out 2).trans rfl
            have hcz31_3 : wc.cell? ⟨gb409, 3, none⟩ = some (.int .i64 a0_3) := (blk_cell BK409.out 3).trans rfl
            have hcz31_4 : wc.cell? ⟨gb409, 4, none⟩ = some (.int .u64 a0_4) := (blk_cell BK409.out 4).trans rfl
            have hcz31_5 : wc.cell? ⟨gb409, 5, none⟩ = some (.int .u64 a0_5) := (blk_cell BK409.out 5).trans rfl
            have hcz31_6 : wc.cell? ⟨gb409, 6, none⟩ = some (.slice A0_6 l0_6.length c0_6) := (blk_cell BK409.out 6).trans rfl
            have hcz31_7 : wc.cell? ⟨gb409, 7, none⟩ = some (.slice A0_7 l0_7.length c0_7) := (blk_cell BK409.out 7).trans rfl
            have hfz31_0 := blk_frozen BK409.out 0
            have hfz31_1 := blk_frozen BK409.out 1
            have hfz31_2 := blk_frozen BK409.out 2
            have hfz31_3 := blk_frozen BK409.out 3
            have hfz31_4 := blk_frozen BK409.out 4
            have hfz31_5 := blk_frozen BK409.out 5
            have hfz31_6 := blk_frozen BK409.out 6
            have hfz31_7 := blk_frozen BK409.out 7
            go_upto_if 33 with (first | ((with_reducible refine gate_callee (f := 34) rfl ?_); refine goesL_ (some 18) rfl rfl Try.func34 (by kernel_rfl) rfl #[.agg #[.int .i64 a0_0, .string a0_1, .string a0_2, .int .i64 a0_3, .int .u64 a0_4, .int .u64 a0_5, .slice A0_6 l0_6.length c0_6, .slice A0_7 l0_7.length c0_7]] rfl (by (try simp only [List.map_toArray, List.map_cons, List.map_nil]); first | done | rfl | (simp only [List.length_drop, List.length_take]; rfl)) ?_; (with_reducible refine (spec_BindRaw.calls kj3 a0_0 a0_1 a0_2 a0_3 a0_4 a0_5 _ _ l0_6 _ _ l0_7 t412 t413 _ ?side1 ?side2 ?side3 ?side4 A16.out).mono ?_); (case side1 => repeat (first | exact (Kd.C_below HR0_6.out HB.out) | (with_reducible refine Kd.C_alloc ?_ _) | (with_reducible refine Kd.C_drewN ?_ _) | (with_reducible refine Kd.C_drew ?_))); (case side2 => exact HC0_6.out); (case side3 => repeat (first | exact (Kd.C_below HR0_7.out HB.out) | (with_reducible refine Kd.C_alloc ?_ _) | (with_reducible refine Kd.C_drewN ?_ _) | (with_reducible refine Kd.C_drew ?_))); (case side4 => exact HC0_7.out); rintro e w32 ⟨v414, rfl, ho0, hb⟩; refine ⟨_, rfl, ?_⟩; have n0_ := Aside0.mk (Kd.R_lower ho0 (below_size (by repeat (first | (with_reducible first | exact HB.out | apply below_alloc | apply pw_below_drewN | apply below_drew1 | refine below_set ?_ GE409.out) | exact HB.out)))); have n1_ := Aside0.mk (blk_below (g := gb409) (o := .cells #[.int .i64 a0_0, .string a0_1, .string a0_2, .int .i64 a0_3, .int .u64 a0_4, .int .u64 a0_5, .slice A0_6 l0_6.length c0_6, .slice A0_7 l0_7.length c0_7] 37 (0, 0)) (by (with_reducible repeat (first | refine blk_drewN ?_ _ | refine blk_drew ?_ | refine blk_alloc ?_ _)); exact BK409.out) hb); have n2_ := Aside0.mk (below_step (by repeat (first | (with_reducible first | exact HB.out | apply below_alloc | apply pw_below_drewN | apply below_drew1 | refine below_set ?_ GE409.out) | exact HB.out)) hb); clear BK409; clear HB; have HO415 := n0_; have BK409 := n1_; have HB := n2_; clear n0_ n1_ n2_; (try clear hb); (try clear hb2); (try clear hk); (try clear hi); (try clear ho0); obtain ⟨Ao33, co33, eo33⟩ := Kd.R_slice HO415.out; subst eo33) | ((with_reducible refine gate_callee (f := 33) rfl ?_); refine goesL_ (some 19) rfl rfl Try.func33 (by kernel_rfl) rfl #[.agg #[.int .i64 t412, .slice Ao33 t413.length co33]] rfl (by (try simp only [List.map_toArray, List.map_cons, List.map_nil]); first | done | rfl | (simp only [List.length_drop, List.length_take]; rfl)) ?_; (with_reducible refine (impl_RawAsFloat64.calls t412 _ _ t413 t416 t417 _ ?side1 ?side2 A17.out).mono ?_); (case side1 => repeat (first | exact (Kd.R_reads' HO415.out).2.2 | (with_reducible refine Kd.C_alloc ?_ _) | (with_reducible refine Kd.C_drewN ?_ _) | (with_reducible refine Kd.C_drew ?_))); (case side2 => exact (Kd.R_reads' HO415.out).2.1); rintro e w34 ⟨rfl, hb⟩; refine ⟨_, rfl, ?_⟩; have n0_ := Aside0.mk (Kd.R_below (by (with_reducible repeat (first | apply Kd.R_alloc | apply Kd.R_drewN | apply Kd.R_drew)); exact HO415.out) hb); have n1_ := Aside0.mk (blk_below (g := gb409) (o := .cells #[.int .i64 a0_0, .string a0_1, .string a0_2, .int .i64 a0_3, .int .u64 a0_4, .int .u64 a0_5, .slice A0_6 l0_6.length c0_6, .slice A0_7 l0_7.length c0_7] 37 (0, 0)) (by (with_reducible repeat (first | refine blk_drewN ?_ _ | refine blk_drew ?_ | refine blk_alloc ?_ _)); exact BK409.out) hb); have n2_ := Aside0.mk (below_step (by repeat (first | (with_reducible first | exact HB.out | apply below_alloc | apply pw_below_drewN | apply below_drew1 | refine below_set ?_ GE409.out) | exact HB.out)) hb); clear HO415; clear BK409; clear HB; have HO415 := n0_; have BK409 := n1_; have HB := n2_; clear n0_ n1_ n2_; (try clear hb); (try clear hb2); (try clear hk); (try clear hi); have hcz35_0 : w34.cell? ⟨gb409, 0, none⟩ = some (.int .i64 a0_0) := (blk_cell BK409.out 0).trans rfl; have hcz35_1 : w34.cell? ⟨gb409, 1, none⟩ = some (.string a0_1) := (blk_cell BK409.out 1).trans rfl; have hcz35_2 : w34.cell? ⟨gb409, 2, none⟩ = some (.string a0_2) := (blk_cell BK409.out 2).trans rfl; have hcz35_3 : w34.cell? ⟨gb409, 3, none⟩ = some (.int .i64 a0_3) := (blk_cell BK409.out 3).trans rfl; have hcz35_4 : w34.cell? ⟨gb409, 4, none⟩ = some (.int .u64 a0_4) := (blk_cell BK409.out 4).trans rfl; have hcz35_5 : w34.cell? ⟨gb409, 5, none⟩ = some (.int .u64 a0_5) := (blk_cell BK409.out 5).trans rfl; have hcz35_6 : w34.cell? ⟨gb409, 6, none⟩ = some (.slice A0_6 l0_6.length c0_6) := (blk_cell BK409.out 6).trans rfl; have hcz35_7 : w34.cell? ⟨gb409, 7, none⟩ = some (.slice A0_7 l0_7.length c0_7) := (blk_cell BK409.out 7).trans rfl; have hfz35_0 := blk_frozen BK409.out 0; have hfz35_1 := blk_frozen BK409.out 1; have hfz35_2 := blk_frozen BK409.out 2; have hfz35_3 := blk_frozen BK409.out 3; have hfz35_4 := blk_frozen BK409.out 4; have hfz35_5 := blk_frozen BK409.out 5; have hfz35_6 := blk_frozen BK409.out 6; have hfz35_7 := blk_frozen BK409.out 7))
            (try simp only [Act.put, List.setIfInBounds_toArray, List.set_cons_zero, List.set_cons_succ])
            go_cut [33] (fun v33 wc => ∃ (kq : Nat) (x33_29 : Bool), v33 = .bool x33_29 ∧ Aside0 (laws_FnBindFloat64.j1 kq t416 t417 x33_29 a0_0 a0_1 a0_2 a0_3 a0_4 a0_5 l0_6 l0_7 = some r) ∧ Aside0 (kq ≤ kj3) ∧ Aside0 (wc.heap[gb409]? = some (.cells #[.int .i64 a0_0, .string a0_1, .string a0_2, .int .i64 a0_3, .int .u64 a0_4, .int .u64 a0_5, (.slice A0_6 l0_6.length c0_6), (.slice A0_7 l0_7.length c0_7)] 37 (0, 0))) ∧ Aside0 (Below w.heap.size w wc))
            case first =>
              have H := HC30.out
              clear HC30
              by_cases c36 : a0_0 = 16
              · rw [if_pos c36] at H
                have c36b0 : (a0_0 == 16) = true := beq_iff_eq.mpr c36
                have c36b1 : (a0_0 != 16) = false := bne_eq_false_iff_eq.mpr c36
                clear c36
                (first | rw [c36b0] | (simp only [i64_w, i32_w]; rw [c36b0]) | skip)
                as_aux_lemma =>
                  have H' := Aside0.mk H
                  clear H
                  go_wp2
                  go_meet
                  case rel => exact ⟨_, ((a0_0 == 16)), (by first | rfl | (simp; done) | (simp [*]; done)), H', ⟨by have := HJ3.out; first | omega | exact Nat.le_refl _⟩, ⟨by (with_reducible repeat (first | refine blk_drewN ?_ _ | refine blk_drew ?_ | refine blk_alloc ?_ _)); exact BK409.out⟩, ⟨by repeat (first | (with_reducible first | exact HB.out | apply below_alloc | apply pw_below_drewN | apply below_drew1 | refine below_set ?_ GE409.out) | exact HB.out)⟩⟩
              · rw [if_neg c36] at H
                have c36b0 : (a0_0 == 16) = false := beq_eq_false_iff_ne.mpr c36
                have c36b1 : (a0_0 != 16) = true := bne_iff_ne.mpr c36
                (first | rw [c36b0] | (simp only [i64_w, i32_w]; rw [c36b0]) | skip)
                as_aux_lemma =>
                  have H' := Aside0.mk H
                  clear H
                  go_wp2
                  go_meet
                  case rel => exact ⟨_, ((a0_0 == 18)), (by first | rfl | (simp; done) | (simp [*]; done)), H', ⟨by have := HJ3.out; first | omega | exact Nat.le_refl _⟩, ⟨by (with_reducible repeat (first | refine blk_drewN ?_ _ | refine blk_drew ?_ | refine blk_alloc ?_ _)); exact BK409.out⟩, ⟨by repeat (first | (with_reducible first | exact HB.out | apply below_alloc | apply pw_below_drewN | apply below_drew1 | refine below_set ?_ GE409.out) | exact HB.out)⟩⟩
            case rest =>
              clear HC30
              try clear c1
              try clear p2
              try clear c3
              try clear c8
              try clear c9
              try clear c15
              try clear c18
              try clear c18b0
              try clear c18b1
              try clear c19
              try clear c31
              try clear c32
              try clear c33
              try clear c34
              try clear c36
              try clear c36b0
              try clear c36b1
              try clear hcz10_0
              try clear hcz10_1
              try clear hcz10_2
              try clear hcz10_3
              try clear hcz10_4
              try clear hcz10_5
              try clear hcz10_6
              try clear hcz10_7
              try clear hcz12_0
              try clear hcz12_1
              try clear hcz12_2
              try clear hcz12_3
              try clear hcz12_4
              try clear hcz12_5
              try clear hcz12_6
              try clear hcz12_7
              try clear hcz13_0
              try clear hcz13_1
              try clear hcz13_2
              try clear hcz13_3
              try clear hcz13_4
              try clear hcz13_5
              try clear hcz13_6
              try clear hcz13_7
              try clear hcz20_0
              try clear hcz20_1
              try clear hcz20_2
              try clear hcz20_3
              try clear hcz20_4
              try clear hcz20_5
              try clear hcz20_6
              try clear hcz20_7
              try clear hcz24_0
              try clear hcz24_1
              try clear hcz24_2
              try clear hcz24_3
              try clear hcz24_4
              try clear hcz24_5
              try clear hcz24_6
              try clear hcz24_7
              try clear hcz25_0
              try clear hcz25_1
              try clear hcz25_2
              try clear hcz25_3
              try clear hcz25_4
              try clear hcz25_5
              try clear hcz25_6
              try clear hcz25_7
              try clear hcz29_0
              try clear hcz29_1
              try clear hcz29_2
              try clear hcz29_3
              try clear hcz29_4
              try clear hcz29_5
              try clear hcz29_6
              try clear hcz29_7
              try clear hcz31_0
              try clear hcz31_1
              try clear hcz31_2
              try clear hcz31_3
              try clear hcz31_4
              try clear hcz31_5
              try clear hcz31_6
              try clear hcz31_7
              try clear hcz35_0
              try clear hcz35_1
              try clear hcz35_2
              try clear hcz35_3
              try clear hcz35_4
              try clear hcz35_5
              try clear hcz35_6
              try clear hcz35_7
              try clear hcz6_0
              try clear hcz6_1
              try clear hcz6_2
              try clear hcz6_3
              try clear hcz6_4
              try clear hcz6_5
              try clear hcz6_6
              try clear hcz6_7
              try clear hfz10_0
              try clear hfz10_1
              try clear hfz10_2
              try clear hfz10_3
              try clear hfz10_4
              try clear hfz10_5
              try clear hfz10_6
              try clear hfz10_7
              try clear hfz12_0
              try clear hfz12_1
              try clear hfz12_2
              try clear hfz12_3
              try clear hfz12_4
              try clear hfz12_5
              try clear hfz12_6
              try clear hfz12_7
              try clear hfz13_0
              try clear hfz13_1
              try clear hfz13_2
              try clear hfz13_3
              try clear hfz13_4
              try clear hfz13_5
              try clear hfz13_6
              try clear hfz13_7
              try clear hfz20_0
              try clear hfz20_1
              try clear hfz20_2
              try clear hfz20_3
              try clear hfz20_4
              try clear hfz20_5
              try clear hfz20_6
              try clear hfz20_7
              try clear hfz24_0
              try clear hfz24_1
              try clear hfz24_2
              try clear hfz24_3
              try clear hfz24_4
              try clear hfz24_5
              try clear hfz24_6
              try clear hfz24_7
              try clear hfz25_0
              try clear hfz25_1
              try clear hfz25_2
              try clear hfz25_3
              try clear hfz25_4
              try clear hfz25_5
              try clear hfz25_6
              try clear hfz25_7
              try clear hfz29_0
              try clear hfz29_1
              try clear hfz29_2
              try clear hfz29_3
              try clear hfz29_4
              try clear hfz29_5
              try clear hfz29_6
              try clear hfz29_7
              try clear hfz31_0
              try clear hfz31_1
              try clear hfz31_2
              try clear hfz31_3
              try clear hfz31_4
              try clear hfz31_5
              try clear hfz31_6
              try clear hfz31_7
              try clear hfz35_0
              try clear hfz35_1
              try clear hfz35_2
              try clear hfz35_3
              try clear hfz35_4
              try clear hfz35_5
              try clear hfz35_6
              try clear hfz35_7
              try clear hfz6_0
              try clear hfz6_1
              try clear hfz6_2
              try clear hfz6_3
              try clear hfz6_4
              try clear hfz6_5
              try clear hfz6_6
              try clear hfz6_7
              try clear p2
              obtain ⟨kq, x33_29, rfl, HA, HJ29, BK409, HB⟩ := hcut
              cases kq with
              | zero => exact absurd HA.out (by simp [laws_FnBindFloat64.j1])
              | succ kj29 =>
                have H := HA.out
                clear HA
                simp only [laws_FnBindFloat64.j1] at H
                by_cases c37 : x33_29 = true
                · subst c37
                  have H1 : (if a0_3 < (-9007199254740992) then (laws_FnBindFloat64.j2 kj29 t416 t417 true a0_0 a0_1 a0_2 a0_3 a0_4 a0_5 l0_6 l0_7) else (laws_FnBindFloat64.j2 kj29 t416 t417 (decide (a0_3 > 9007199254740992)) a0_0 a0_1 a0_2 a0_3 a0_4 a0_5 l0_6 l0_7)) = some r := by rw [if_pos rfl] at H; exact H
                  clear H
                  have H := H1
                  clear H1
                  have HC38 := Aside0.mk H
                  clear H
                  go_upto_region 11 with (fail)
                  go_cut [43] (fun v43 wc => ∃ (kq : Nat) (x43_37 : Bool), v43 = .bool x43_37 ∧ Aside0 (laws_FnBindFloat64.j2 kq t416 t417 x43_37 a0_0 a0_1 a0_2 a0_3 a0_4 a0_5 l0_6 l0_7 = some r) ∧ Aside0 (kq ≤ kj29) ∧ Aside0 (wc.heap[gb409]? = some (.cells #[.int .i64 a0_0, .string a0_1, .string a0_2, .int .i64 a0_3, .int .u64 a0_4, .int .u64 a0_5, (.slice A0_6 l0_6.length c0_6), (.slice A0_7 l0_7.length c0_7)] 37 (0, 0))) ∧ Aside0 (Below w.heap.size w wc))
                  case first =>
                    have H := HC38.out
                    clear HC38
                    by_cases c39 : a0_3 < (-9007199254740992)
                    · rw [if_pos c39] at H
                      have c39b0 : decide (a0_3 < (-9007199254740992)) = true := decide_eq_true c39
                      clear c39
                      (first | rw [c39b0] | (simp only [i64_w, i32_w]; rw [c39b0]) | skip)
                      as_aux_lemma =>
                        have H' := Aside0.mk H
                        clear H
                        have hcz40_0 : wc.cell? ⟨gb409, 0, none⟩ = some (.int .i64 a0_0) := (blk_cell BK409.out 0).trans rfl
                        have hcz40_1 : wc.cell? ⟨gb409, 1, none⟩ = some (.string a0_1) := (blk_cell BK409.out 1).trans rfl
                        have hcz40_2 : wc.cell? ⟨gb409, 2, none⟩ = some (.string a0_2) := (blk_cell BK409.out 2).trans rfl
                        have hcz40_3 : wc.cell? ⟨gb409, 3, none⟩ = some (.int .i64 a0_3) := (blk_cell BK409.out 3).trans rfl
                        have hcz40_4 : wc.cell? ⟨gb409, 4, none⟩ = some (.int .u64 a0_4) := (blk_cell BK409.out 4).trans rfl
                        have hcz40_5 : wc.cell? ⟨gb409, 5, none⟩ = some (.int .u64 a0_5) := (blk_cell BK409.out 5).trans rfl
                        have hcz40_6 : wc.cell? ⟨gb409, 6, none⟩ = some (.slice A0_6 l0_6.length c0_6) := (blk_cell BK409.out 6).trans rfl
                        have hcz40_7 : wc.cell? ⟨gb409, 7, none⟩ = some (.slice A0_7 l0_7.length c0_7) := (blk_cell BK409.out 7).trans rfl
                        have hfz40_0 := blk_frozen BK409.out 0
                        have hfz40_1 := blk_frozen BK409.out 1
                        have hfz40_2 := blk_frozen BK409.out 2
                        have hfz40_3 := blk_frozen BK409.out 3
                        have hfz40_4 := blk_frozen BK409.out 4
                        have hfz40_5 := blk_frozen BK409.out 5
                        have hfz40_6 := blk_frozen BK409.out 6
                        have hfz40_7 := blk_frozen BK409.out 7
                        go_wp2
                        go_meet
                        case rel => exact ⟨_, (true), (by first | rfl | (simp; done) | (simp [*]; done)), H', ⟨by have := HJ3.out; have := HJ29.out; first | omega | exact Nat.le_refl _⟩, ⟨by (with_reducible repeat (first | refine blk_drewN ?_ _ | refine blk_drew ?_ | refine blk_alloc ?_ _)); exact BK409.out⟩, ⟨by repeat (first | (with_reducible first | exact HB.out | apply below_alloc | apply pw_below_drewN | apply below_drew1 | refine below_set ?_ GE409.out) | exact HB.out)⟩⟩
                    · rw [if_neg c39] at H
                      have c39b0 : decide (a0_3 < (-9007199254740992)) = false := decide_eq_false c39
                      clear c39
                      (first | rw [c39b0] | (simp only [i64_w, i32_w]; rw [c39b0]) | skip)
                      as_aux_lemma =>
                        have H' := Aside0.mk H
                        clear H
                        have hcz41_0 : wc.cell? ⟨gb409, 0, none⟩ = some (.int .i64 a0_0) := (blk_cell BK409.out 0).trans rfl
                        have hcz41_1 : wc.cell? ⟨gb409, 1, none⟩ = some (.string a0_1) := (blk_cell BK409.out 1).trans rfl
                        have hcz41_2 : wc.cell? ⟨gb409, 2, none⟩ = some (.string a0_2) := (blk_cell BK409.out 2).trans rfl
                        have hcz41_3 : wc.cell? ⟨gb409, 3, none⟩ = some (.int .i64 a0_3) := (blk_cell BK409.out 3).trans rfl
                        have hcz41_4 : wc.cell? ⟨gb409, 4, none⟩ = some (.int .u64 a0_4) := (blk_cell BK409.out 4).trans rfl
                        have hcz41_5 : wc.cell? ⟨gb409, 5, none⟩ = some (.int .u64 a0_5) := (blk_cell BK409.out 5).trans rfl
                        have hcz41_6 : wc.cell? ⟨gb409, 6, none⟩ = some (.slice A0_6 l0_6.length c0_6) := (blk_cell BK409.out 6).trans rfl
                        have hcz41_7 : wc.cell? ⟨gb409, 7, none⟩ = some (.slice A0_7 l0_7.length c0_7) := (blk_cell BK409.out 7).trans rfl
                        have hfz41_0 := blk_frozen BK409.out 0
                        have hfz41_1 := blk_frozen BK409.out 1
                        have hfz41_2 := blk_frozen BK409.out 2
                        have hfz41_3 := blk_frozen BK409.out 3
                        have hfz41_4 := blk_frozen BK409.out 4
                        have hfz41_5 := blk_frozen BK409.out 5
                        have hfz41_6 := blk_frozen BK409.out 6
                        have hfz41_7 := blk_frozen BK409.out 7
                        go_wp2
                        go_meet
                        case rel => exact ⟨_, (decide (a0_3 > 9007199254740992)), (by first | rfl | (simp; done) | (simp [*]; done)), H', ⟨by have := HJ3.out; have := HJ29.out; first | omega | exact Nat.le_refl _⟩, ⟨by (with_reducible repeat (first | refine blk_drewN ?_ _ | refine blk_drew ?_ | refine blk_alloc ?_ _)); exact BK409.out⟩, ⟨by repeat (first | (with_reducible first | exact HB.out | apply below_alloc | apply pw_below_drewN | apply below_drew1 | refine below_set ?_ GE409.out) | exact HB.out)⟩⟩
                  case rest =>
                    clear HC38
                    try clear c1
                    try clear p2
                    try clear c3
                    try clear c8
                    try clear c9
                    try clear c15
                    try clear c18
                    try clear c18b0
                    try clear c18b1
                    try clear c19
                    try clear c31
                    try clear c32
                    try clear c33
                    try clear c34
                    try clear c36
                    try clear c36b0
                    try clear c36b1
                    try clear c37
                    try clear c39
                    try clear c39b0
                    try clear hcz10_0
                    try clear hcz10_1
                    try clear hcz10_2
                    try clear hcz10_3
                    try clear hcz10_4
                    try clear hcz10_5
                    try clear hcz10_6
                    try clear hcz10_7
                    try clear hcz12_0
                    try clear hcz12_1
                    try clear hcz12_2
                    try clear hcz12_3
                    try clear hcz12_4
                    try clear hcz12_5
                    try clear hcz12_6
                    try clear hcz12_7
                    try clear hcz13_0
                    try clear hcz13_1
                    try clear hcz13_2
                    try clear hcz13_3
                    try clear hcz13_4
                    try clear hcz13_5
                    try clear hcz13_6
                    try clear hcz13_7
                    try clear hcz20_0
                    try clear hcz20_1
                    try clear hcz20_2
                    try clear hcz20_3
                    try clear hcz20_4
                    try clear hcz20_5
                    try clear hcz20_6
                    try clear hcz20_7
                    try clear hcz24_0
                    try clear hcz24_1
                    try clear hcz24_2
                    try clear hcz24_3
                    try clear hcz24_4
                    try clear hcz24_5
                    try clear hcz24_6
                    try clear hcz24_7
                    try clear hcz25_0
                    try clear hcz25_1
                    try clear hcz25_2
                    try clear hcz25_3
                    try clear hcz25_4
                    try clear hcz25_5
                    try clear hcz25_6
                    try clear hcz25_7
                    try clear hcz29_0
                    try clear hcz29_1
                    try clear hcz29_2
                    try clear hcz29_3
                    try clear hcz29_4
                    try clear hcz29_5
                    try clear hcz29_6
                    try clear hcz29_7
                    try clear hcz31_0
                    try clear hcz31_1
                    try clear hcz31_2
                    try clear hcz31_3
                    try clear hcz31_4
                    try clear hcz31_5
                    try clear hcz31_6
                    try clear hcz31_7
                    try clear hcz35_0
                    try clear hcz35_1
                    try clear hcz35_2
                    try clear hcz35_3
                    try clear hcz35_4
                    try clear hcz35_5
                    try clear hcz35_6
                    try clear hcz35_7
                    try clear hcz40_0
                    try clear hcz40_1
                    try clear hcz40_2
                    try clear hcz40_3
                    try clear hcz40_4
                    try clear hcz40_5
                    try clear hcz40_6
                    try clear hcz40_7
                    try clear hcz41_0
                    try clear hcz41_1
                    try clear hcz41_2
                    try clear hcz41_3
                    try clear hcz41_4
                    try clear hcz41_5
                    try clear hcz41_6
                    try clear hcz41_7
                    try clear hcz6_0
                    try clear hcz6_1
                    try clear hcz6_2
                    try clear hcz6_3
                    try clear hcz6_4
                    try clear hcz6_5
                    try clear hcz6_6
                    try clear hcz6_7
                    try clear hfz10_0
                    try clear hfz10_1
                    try clear hfz10_2
                    try clear hfz10_3
                    try clear hfz10_4
                    try clear hfz10_5
                    try clear hfz10_6
                    try clear hfz10_7
                    try clear hfz12_0
                    try clear hfz12_1
                    try clear hfz12_2
                    try clear hfz12_3
                    try clear hfz12_4
                    try clear hfz12_5
                    try clear hfz12_6
                    try clear hfz12_7
                    try clear hfz13_0
                    try clear hfz13_1
                    try clear hfz13_2
                    try clear hfz13_3
                    try clear hfz13_4
                    try clear hfz13_5
                    try clear hfz13_6
                    try clear hfz13_7
                    try clear hfz20_0
                    try clear hfz20_1
                    try clear hfz20_2
                    try clear hfz20_3
                    try clear hfz20_4
                    try clear hfz20_5
                    try clear hfz20_6
                    try clear hfz20_7
                    try clear hfz24_0
                    try clear hfz24_1
                    try clear hfz24_2
                    try clear hfz24_3
                    try clear hfz24_4
                    try clear hfz24_5
                    try clear hfz24_6
                    try clear hfz24_7
                    try clear hfz25_0
                    try clear hfz25_1
                    try clear hfz25_2
                    try clear hfz25_3
                    try clear hfz25_4
                    try clear hfz25_5
                    try clear hfz25_6
                    try clear hfz25_7
                    try clear hfz29_0
                    try clear hfz29_1
                    try clear hfz29_2
                    try clear hfz29_3
                    try clear hfz29_4
                    try clear hfz29_5
                    try clear hfz29_6
                    try clear hfz29_7
                    try clear hfz31_0
                    try clear hfz31_1
                    try clear hfz31_2
                    try clear hfz31_3
                    try clear hfz31_4
                    try clear hfz31_5
                    try clear hfz31_6
                    try clear hfz31_7
                    try clear hfz35_0
                    try clear hfz35_1
                    try clear hfz35_2
                    try clear hfz35_3
                    try clear hfz35_4
                    try clear hfz35_5
                    try clear hfz35_6
                    try clear hfz35_7
                    try clear hfz40_0
                    try clear hfz40_1
                    try clear hfz40_2
                    try clear hfz40_3
                    try clear hfz40_4
                    try clear hfz40_5
                    try clear hfz40_6
                    try clear hfz40_7
                    try clear hfz41_0
                    try clear hfz41_1
                    try clear hfz41_2
                    try clear hfz41_3
                    try clear hfz41_4
                    try clear hfz41_5
                    try clear hfz41_6
                    try clear hfz41_7
                    try clear hfz6_0
                    try clear hfz6_1
                    try clear hfz6_2
                    try clear hfz6_3
                    try clear hfz6_4
                    try clear hfz6_5
                    try clear hfz6_6
                    try clear hfz6_7
                    try clear p2
                    obtain ⟨kq, x43_37, rfl, HA, HJ37, BK409, HB⟩ := hcut
                    cases kq with
                    | zero => exact absurd HA.out (by simp [laws_FnBindFloat64.j2])
                    | succ kj37 =>
                      have H := HA.out
                      clear HA
                      simp only [laws_FnBindFloat64.j2] at H
                      by_cases c42 : x43_37 = true
                      · subst c42
                        have H1 : (some t417) = some r := by rw [if_pos rfl] at H; exact H
                        clear H
                        have H := H1
                        clear H1
                        as_aux_lemma =>
                          obtain rfl := Option.some.inj H
                          go_wp2
                          go_ret
                          exact ⟨by first | rfl | (simp [errW_none, errW_some] <;> rfl) | (simp [*, errW_none, errW_some] <;> rfl), by repeat (first | (with_reducible first | exact HB.out | apply below_alloc | apply pw_below_drewN | apply below_drew1 | refine below_set ?_ GE409.out) | exact HB.out)⟩
                      · replace c42 := Bool.eq_false_iff.mpr c42
                        subst c42
                        have H1 : (if t417 = true then ((spec_BindDouble.f kj37 a0_3).bind fun t418 => (some (t416 == t418))) else (some false)) = some r := by rw [if_neg (show ¬ (false = true) by decide)] at H; exact H
                        clear H
                        have H := H1
                        clear H1
                        by_cases c43 : t417 = true
                        · subst c43
                          have H1 : ((spec_BindDouble.f kj37 a0_3).bind fun t418 => (some (t416 == t418))) = some r := by rw [if_pos rfl] at H; exact H
                          clear H
                          have H := H1
                          clear H1
                          replace H := Option.bind_eq_some_iff.mp H
                          obtain ⟨t418, A440, H⟩ := H
                          replace H : (some (t416 == t418)) = some r := H
                          have A44 := Aside0.mk A440
                          clear A440
                          as_aux_lemma =>
                            obtain rfl := Option.some.inj H
                            have hcz45_0 : wc.cell? ⟨gb409, 0, none⟩ = some (.int .i64 a0_0) := (blk_cell BK409.out 0).trans rfl
                            have hcz45_1 : wc.cell? ⟨gb409, 1, none⟩ = some (.string a0_1) := (blk_cell BK409.out 1).trans rfl
                            have hcz45_2 : wc.cell? ⟨gb409, 2, none⟩ = some (.string a0_2) := (blk_cell BK409.out 2).trans rfl
                            have hcz45_3 : wc.cell? ⟨gb409, 3, none⟩ = some (.int .i64 a0_3) := (blk_cell BK409.out 3).trans rfl
                            have hcz45_4 : wc.cell? ⟨gb409, 4, none⟩ = some (.int .u64 a0_4) := (blk_cell BK409.out 4).trans rfl
                            have hcz45_5 : wc.cell? ⟨gb409, 5, none⟩ = some (.int .u64 a0_5) := (blk_cell BK409.out 5).trans rfl
                            have hcz45_6 : wc.cell? ⟨gb409, 6, none⟩ = some (.slice A0_6 l0_6.length c0_6) := (blk_cell BK409.out 6).trans rfl
                            have hcz45_7 : wc.cell? ⟨gb409, 7, none⟩ = some (.slice A0_7 l0_7.length c0_7) := (blk_cell BK409.out 7).trans rfl
                            have hfz45_0 := blk_frozen BK409.out 0
                            have hfz45_1 := blk_frozen BK409.out 1
                            have hfz45_2 := blk_frozen BK409.out 2
                            have hfz45_3 := blk_frozen BK409.out 3
                            have hfz45_4 := blk_frozen BK409.out 4
                            have hfz45_5 := blk_frozen BK409.out 5
                            have hfz45_6 := blk_frozen BK409.out 6
                            have hfz45_7 := blk_frozen BK409.out 7
                            go_wp2_with (first | (go_at_call 35; (with_reducible refine (spec_BindDouble.calls kj37 a0_3 t418 _ A44.out).mono ?_); rintro e w' ⟨rfl, ⟨nd, rfl⟩⟩))
                            go_ret
                            exact ⟨by first | rfl | (simp [errW_none, errW_some] <;> rfl) | (simp [*, errW_none, errW_some] <;> rfl), by repeat (first | (with_reducible first | exact HB.out | apply below_alloc | apply pw_below_drewN | apply below_drew1 | refine below_set ?_ GE409.out) | exact HB.out)⟩
                        · replace c43 := Bool.eq_false_iff.mpr c43
                          subst c43
                          have H1 : (some false) = some r := by rw [if_neg (show ¬ (false = true) by decide)] at H; exact H
                          clear H
                          have H := H1
                          clear H1
                          as_aux_lemma =>
                            obtain rfl := Option.some.inj H
                            go_wp2
                            go_ret
                            exact ⟨by first | rfl | (simp [errW_none, errW_some] <;> rfl) | (simp [*, errW_none, errW_some] <;> rfl), by repeat (first | (with_reducible first | exact HB.out | apply below_alloc | apply pw_below_drewN | apply below_drew1 | refine below_set ?_ GE409.out) | exact HB.out)⟩
                · replace c37 := Bool.eq_false_iff.mpr c37
                  subst c37
                  have H1 : (some (!t417)) = some r := by rw [if_neg (show ¬ (false = true) by decide)] at H; exact H
                  clear H
                  have H := H1
                  clear H1
                  as_aux_lemma =>
                    obtain rfl := Option.some.inj H
                    go_wp2
                    go_ret
                    exact ⟨by first | rfl | (simp [errW_none, errW_some] <;> rfl) | (simp [*, errW_none, errW_some] <;> rfl), by repeat (first | (with_reducible first | exact HB.out | apply below_alloc | apply pw_below_drewN | apply below_drew1 | refine below_set ?_ GE409.out) | exact HB.out)⟩
  · replace c3 := Bool.eq_false_iff.mpr c3
    subst c3
    have H1 : (some true) = some r := by rw [if_neg (show ¬ (false = true) by decide)] at H; exact H
    clear H
    have H := H1
    clear H1
    as_aux_lemma =>
      obtain rfl := Option.some.inj H
      go_enter Try.func8, Try.ntmps8
      go_wp2_with (first | ((with_reducible refine gate_dst (N := 1) rfl ?_); refine box_event ?hg (N := 1) ?hd (cs := #[.int .i64 a0_0, .string a0_1, .string a0_2, .int .i64 a0_3, .int .u64 a0_4, .int .u64 a0_5, .slice A0_6 l0_6.length c0_6, .slice A0_7 l0_7.length c0_7]) (t := 37) ?hr ?_; (case hd => rfl); (case hg => rfl); (case hr => first | (go_simp; done) | (go_simp; rfl)); intro gb409 hg w46 hbox hb; have n0_ := Aside0.mk (below_step (by repeat (first | (with_reducible first | exact HB.out | apply below_alloc | apply pw_below_drewN | apply below_drew1) | exact HB.out)) hb); have n1_ := Aside0.mk (hbox); have n2_ := Aside0.mk ((by rw [hg]; exact (below_size (by repeat (first | (with_reducible first | exact HB.out | apply below_alloc | apply pw_below_drewN | apply below_drew1) | exact HB.out))) : w.heap.size ≤ gb409)); have n3_ := Aside0.mk ((by rw [hg]; exact (below_size (by repeat (first | (with_reducible first | exact HB.out | apply below_alloc | apply pw_below_drewN | apply below_drew1) | exact HB.out))) : w.heap.size ≤ gb409)); clear HB; have HB := n0_; have BK409 := n1_; have GW409 := n2_; have GE409 := n3_; clear n0_ n1_ n2_ n3_; clear hb hbox hg; have hcz47_0 : w46.cell? ⟨gb409, 0, none⟩ = some (.int .i64 a0_0) := (blk_cell BK409.out 0).trans rfl; have hcz47_1 : w46.cell? ⟨gb409, 1, none⟩ = some (.string a0_1) := (blk_cell BK409.out 1).trans rfl; have hcz47_2 : w46.cell? ⟨gb409, 2, none⟩ = some (.string a0_2) := (blk_cell BK409.out 2).trans rfl; have hcz47_3 : w46.cell? ⟨gb409, 3, none⟩ = some (.int .i64 a0_3) := (blk_cell BK409.out 3).trans rfl; have hcz47_4 : w46.cell? ⟨gb409, 4, none⟩ = some (.int .u64 a0_4) := (blk_cell BK409.out 4).trans rfl; have hcz47_5 : w46.cell? ⟨gb409, 5, none⟩ = some (.int .u64 a0_5) := (blk_cell BK409.out 5).trans rfl; have hcz47_6 : w46.cell? ⟨gb409, 6, none⟩ = some (.slice A0_6 l0_6.length c0_6) := (blk_cell BK409.out 6).trans rfl; have hcz47_7 : w46.cell? ⟨gb409, 7, none⟩ = some (.slice A0_7 l0_7.length c0_7) := (blk_cell BK409.out 7).trans rfl; have hfz47_0 := blk_frozen BK409.out 0; have hfz47_1 := blk_frozen BK409.out 1; have hfz47_2 := blk_frozen BK409.out 2; have hfz47_3 := blk_frozen BK409.out 3; have hfz47_4 := blk_frozen BK409.out 4; have hfz47_5 := blk_frozen BK409.out 5; have hfz47_6 := blk_frozen BK409.out 6; have hfz47_7 := blk_frozen BK409.out 7) | ((with_reducible refine gate_callee (f := 31) rfl ?_); refine goesL_ (some 6) rfl rfl Try.func31 (by kernel_rfl) rfl #[.agg #[.int .i64 a0_0, .string a0_1, .string a0_2, .int .i64 a0_3, .int .u64 a0_4, .int .u64 a0_5, .slice A0_6 l0_6.length c0_6, .slice A0_7 l0_7.length c0_7]] rfl (by (try simp only [List.map_toArray, List.map_cons, List.map_nil]); first | done | rfl | (simp only [List.length_drop, List.length_take]; rfl)) ?_; (with_reducible refine (laws_zzFits1.calls a0_0 a0_1 a0_2 a0_3 a0_4 a0_5 _ _ l0_6 _ _ l0_7 false _ ?side1 ?side2 ?side3 ?side4 A2.out).mono ?_); (case side1 => repeat (first | exact (Kd.C_below HR0_6.out HB.out) | (with_reducible refine Kd.C_alloc ?_ _) | (with_reducible refine Kd.C_drewN ?_ _) | (with_reducible refine Kd.C_drew ?_))); (case side2 => exact HC0_6.out); (case side3 => repeat (first | exact (Kd.C_below HR0_7.out HB.out) | (with_reducible refine Kd.C_alloc ?_ _) | (with_reducible refine Kd.C_drewN ?_ _) | (with_reducible refine Kd.C_drew ?_))); (case side4 => exact HC0_7.out); rintro e w48 ⟨rfl, hb⟩; refine ⟨_, rfl, ?_⟩; have n0_ := Aside0.mk (blk_below (g := gb409) (o := .cells #[.int .i64 a0_0, .string a0_1, .string a0_2, .int .i64 a0_3, .int .u64 a0_4, .int .u64 a0_5, .slice A0_6 l0_6.length c0_6, .slice A0_7 l0_7.length c0_7] 37 (0, 0)) (by (with_reducible repeat (first | refine blk_drewN ?_ _ | refine blk_drew ?_ | refine blk_alloc ?_ _)); exact BK409.out) hb); have n1_ := Aside0.mk (below_step (by repeat (first | (with_reducible first | exact HB.out | apply below_alloc | apply pw_below_drewN | apply below_drew1 | refine below_set ?_ GE409.out) | exact HB.out)) hb); clear BK409; clear HB; have BK409 := n0_; have HB := n1_; clear n0_ n1_; (try clear hb); (try clear hb2); (try clear hk); (try clear hi)))
      go_ret
      exact ⟨by first | rfl | (simp [errW_none, errW_some] <;> rfl) | (simp [*, errW_none, errW_some] <;> rfl), by repeat (first | (with_reducible first | exact HB.out | apply below_alloc | apply pw_below_drewN | apply below_drew1 | refine below_set ?_ GE409.out) | exact HB.out)⟩

end Go.Proofs.Ythlpmeiihchdjaa.PFlu
