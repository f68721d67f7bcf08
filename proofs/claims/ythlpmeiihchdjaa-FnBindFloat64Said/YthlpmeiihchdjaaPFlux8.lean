/- Printed by a program of this session (a turned copy of the printer of the kit): contracts of functions of the translation, each with the Lean function that it computes. Conditions: as each theorem states them. -/
import Derived.Test.YthlpmeiihchdjaaPFlux0
import Derived.Test.YthlpmeiihchdjaaPFlux6
import Derived.Test.YthlpmeiihchdjaaPFlux7
namespace Go.Proofs.Ythlpmeiihchdjaa.PFlu
open Go.RowKit Go.Proofs.YthlpmeiihchdjaaW.PrintWords Go.Proofs.YthlpmeiihchdjaaW.PrintLast Go.Proofs.YthlpmeiihchdjaaW.PrintMore
attribute [local go_sem] max2_int min2_int max_two min_two max_three min_three max_four min_four   -- for this text's walks alone
set_option linter.unusedVariables false
set_option linter.unusedSimpArgs false

theorem Grp_spec_DocElem.all (k : Nat) : Grp_spec_DocElem.Spec k := by
  induction k using Nat.strongRecOn with
  | _ k ih => exact ⟨spec_DocElem.step k ih, spec_DocBytes.step k ih, spec_DocValue.step k ih⟩
theorem spec_DocElem.calls (k : Nat) : ∀ (a0_0 : ByteArray) (a0_1 : Int) (a0_2 : ByteArray) (a0_3 : ByteArray) (a0_4 : Int) (a0_5 : Int) (a0_6 : Int) (A0_7 : Option Addr) (c0_7 : Nat) (l0_7 : List Int) (A0_8 : Option Addr) (c0_8 : Nat) (l0_8 : List (S98)) (r : List Int) (w : World) (hr0_7 : Kd.C (Kd.int .u8) w A0_7 l0_7.length l0_7) (hc0_7 : l0_7.length ≤ c0_7) (hr0_8 : Kd.C k98 w A0_8 l0_8.length l0_8) (hc0_8 : l0_8.length ≤ c0_8) (h : spec_DocElem.f k a0_0 a0_1 a0_2 a0_3 a0_4 a0_5 a0_6 l0_7 l0_8 = some r),
    Calls Try.prog 81 #[.agg #[.string a0_0, .int .i64 a0_1, .string a0_2, .string a0_3, .int .i64 a0_4, .int .u64 a0_5, .int .u64 a0_6, .slice A0_7 l0_7.length c0_7, .slice A0_8 l0_8.length c0_8]] w fun e w' => ∃ v0_ : Value, e = .returned (v0_) ∧ Kd.R (Kd.int .u8) 5 w' w.heap.size (fun _ => True) v0_ r ∧ Below w.heap.size w w' := Grp_spec_DocElem.get0 (Grp_spec_DocElem.all k)
theorem spec_DocBytes.calls (k : Nat) : ∀ (A0 : Option Addr) (c0 : Nat) (l0 : List (S98)) (r : List Int) (w : World) (hr0 : Kd.C k98 w A0 l0.length l0) (hc0 : l0.length ≤ c0) (h : spec_DocBytes.f k l0 = some r),
    Calls Try.prog 70 #[.slice A0 l0.length c0] w fun e w' => ∃ v0_ : Value, e = .returned (v0_) ∧ Kd.R (Kd.int .u8) 5 w' w.heap.size (fun _ => True) v0_ r ∧ Below w.heap.size w w' := Grp_spec_DocElem.get1 (Grp_spec_DocElem.all k)
theorem spec_DocValue.calls (k : Nat) : ∀ (a0_0 : Int) (a0_1 : ByteArray) (a0_2 : ByteArray) (a0_3 : Int) (a0_4 : Int) (a0_5 : Int) (A0_6 : Option Addr) (c0_6 : Nat) (l0_6 : List Int) (A0_7 : Option Addr) (c0_7 : Nat) (l0_7 : List (S98)) (r : List Int) (w : World) (hr0_6 : Kd.C (Kd.int .u8) w A0_6 l0_6.length l0_6) (hc0_6 : l0_6.length ≤ c0_6) (hr0_7 : Kd.C k98 w A0_7 l0_7.length l0_7) (hc0_7 : l0_7.length ≤ c0_7) (h : spec_DocValue.f k a0_0 a0_1 a0_2 a0_3 a0_4 a0_5 l0_6 l0_7 = some r),
    Calls Try.prog 57 #[.agg #[.int .i64 a0_0, .string a0_1, .string a0_2, .int .i64 a0_3, .int .u64 a0_4, .int .u64 a0_5, .slice A0_6 l0_6.length c0_6, .slice A0_7 l0_7.length c0_7]] w fun e w' => ∃ v0_ : Value, e = .returned (v0_) ∧ Kd.R (Kd.int .u8) 5 w' w.heap.size (fun _ => True) v0_ r ∧ Below w.heap.size w w' := Grp_spec_DocElem.get2 (Grp_spec_DocElem.all k)

/-! ### spec_BindRaw: function 34 -/
def spec_BindRaw.f (k : Nat) (a0_0 : Int) (a0_1 : ByteArray) (a0_2 : ByteArray) (a0_3 : Int) (a0_4 : Int) (a0_5 : Int) (l0_6 : List Int) (l0_7 : List (S98)) : Option (Int × List Int) := (spec_DocValue.f k a0_0 a0_1 a0_2 a0_3 a0_4 a0_5 l0_6 l0_7).bind fun t406 => (some (a0_0, t406))
theorem spec_BindRaw.mono : ∀ a0 a1 a2 a3 a4 a5 a6 a7 k, LeO (spec_BindRaw.f k a0 a1 a2 a3 a4 a5 a6 a7) (spec_BindRaw.f (k + 1) a0 a1 a2 a3 a4 a5 a6 a7) := by
  intro a0 a1 a2 a3 a4 a5 a6 a7 k
  unfold spec_BindRaw.f
  repeat' first
      | (with_reducible exact spec_DocValue.mono _ _ _ _ _ _ _ _ _)
      | (with_reducible exact LeO.refl _)
      | (with_reducible exact LeO.none _)
      | (with_reducible refine LeO.ite ?_ ?_)
      | (with_reducible refine LeO.bind ?_ (fun _ => ?_))
      | exact spec_DocValue.mono _ _ _ _ _ _ _ _ _
      | exact LeO.none _
      | refine LeO.ite ?_ ?_
      | refine LeO.bind ?_ (fun _ => ?_)
set_option maxHeartbeats 8000000 in
set_option maxRecDepth 100000 in
theorem spec_BindRaw.calls (k : Nat) (a0_0 : Int) (a0_1 : ByteArray) (a0_2 : ByteArray) (a0_3 : Int) (a0_4 : Int) (a0_5 : Int) (A0_6 : Option Addr) (c0_6 : Nat) (l0_6 : List Int) (A0_7 : Option Addr) (c0_7 : Nat) (l0_7 : List (S98)) (r1 : Int) (r2 : List Int) (w : World) (hr0_6 : Kd.C (Kd.int .u8) w A0_6 l0_6.length l0_6) (hc0_6 : l0_6.length ≤ c0_6) (hr0_7 : Kd.C k98 w A0_7 l0_7.length l0_7) (hc0_7 : l0_7.length ≤ c0_7) (h : spec_BindRaw.f k a0_0 a0_1 a0_2 a0_3 a0_4 a0_5 l0_6 l0_7 = some (r1, r2)) :
    Calls Try.prog 34 #[.agg #[.int .i64 a0_0, .string a0_1, .string a0_2, .int .i64 a0_3, .int .u64 a0_4, .int .u64 a0_5, .slice A0_6 l0_6.length c0_6, .slice A0_7 l0_7.length c0_7]] w fun e w' => ∃ v1_ : Value, e = .returned (.agg #[.int .i64 r1, v1_]) ∧ Kd.R (Kd.int .u8) 5 w' w.heap.size (fun _ => True) v1_ r2 ∧ Below w.heap.size w w' := by
  have hu37 := Try.underlying37
  have hu59 := Try.underlying59
  have HR0_6 := Aside0.mk hr0_6
  have HC0_6 := Aside0.mk hc0_6
  clear hr0_6 hc0_6
  have HR0_7 := Aside0.mk hr0_7
  have HC0_7 := Aside0.mk hc0_7
  clear hr0_7 hc0_7
  have HB := Aside0.mk (Below.refl w.heap.size w)
  have H : ((spec_DocValue.f k a0_0 a0_1 a0_2 a0_3 a0_4 a0_5 l0_6 l0_7).bind fun t406 => (some (a0_0, t406))) = some (r1, r2) := h
  clear h
  replace H := Option.bind_eq_some_iff.mp H
  obtain ⟨t406, A20, H⟩ := H
  replace H : (some (a0_0, t406)) = some (r1, r2) := H
  have A2 := Aside0.mk A20
  clear A20
  as_aux_lemma =>
    simp only [Option.some.injEq, Prod.mk.injEq] at H
    obtain ⟨rfl, rfl⟩ := H
    go_enter Try.func34, Try.ntmps34
    try go_wp2_with (first | ((with_reducible refine gate_dst (N := 1) rfl ?_); refine box_event ?hg (N := 1) ?hd (cs := #[.int .i64 a0_0, .string a0_1, .string a0_2, .int .i64 a0_3, .int .u64 a0_4, .int .u64 a0_5, .slice A0_6 l0_6.length c0_6, .slice A0_7 l0_7.length c0_7]) (t := 37) ?hr ?_; (case hd => rfl); (case hg => rfl); (case hr => first | (go_simp; done) | (go_simp; rfl)); intro gb404 hg w3 hbox hb; have n0_ := Aside0.mk (below_step (by repeat (first | (with_reducible first | exact HB.out | apply below_alloc | apply pw_below_drewN | apply below_drew1) | exact HB.out)) hb); have n1_ := Aside0.mk (hbox); have n2_ := Aside0.mk ((by rw [hg]; exact (below_size (by repeat (first | (with_reducible first | exact HB.out | apply below_alloc | apply pw_below_drewN | apply below_drew1) | exact HB.out))) : w.heap.size ≤ gb404)); have n3_ := Aside0.mk ((by rw [hg]; exact (below_size (by repeat (first | (with_reducible first | exact HB.out | apply below_alloc | apply pw_below_drewN | apply below_drew1) | exact HB.out))) : w.heap.size ≤ gb404)); clear HB; have HB := n0_; have BK404 := n1_; have GW404 := n2_; have GE404 := n3_; clear n0_ n1_ n2_ n3_; clear hb hbox hg) | ((with_reducible refine gate_dst (N := 2) rfl ?_); refine box_event ?hg (N := 2) ?hd (cs := #[.int .i64 0, .slice none 0 0]) (t := 59) ?hr ?_; (case hd => rfl); (case hg => rfl); (case hr => first | (go_simp; done) | (go_simp; rfl)); intro gb405 hg w4 hbox hb; have n0_ := Aside0.mk (blk_below (g := gb404) (o := .cells #[.int .i64 a0_0, .string a0_1, .string a0_2, .int .i64 a0_3, .int .u64 a0_4, .int .u64 a0_5, .slice A0_6 l0_6.length c0_6, .slice A0_7 l0_7.length c0_7] 37 (0, 0)) (by (with_reducible repeat (first | refine blk_drewN ?_ _ | refine blk_drew ?_ | refine blk_alloc ?_ _)); exact BK404.out) hb); have n1_ := Aside0.mk (below_step (by repeat (first | (with_reducible first | exact HB.out | apply below_alloc | apply pw_below_drewN | apply below_drew1 | refine below_set ?_ GE404.out) | exact HB.out)) hb); have n2_ := Aside0.mk (hbox); have n3_ := Aside0.mk ((by rw [hg]; exact (below_size (by repeat (first | (with_reducible first | exact HB.out | apply below_alloc | apply pw_below_drewN | apply below_drew1 | refine below_set ?_ GE404.out) | exact HB.out))) : w.heap.size ≤ gb405)); have n4_ := Aside0.mk ((by rw [hg]; exact (below_size (by repeat (first | (with_reducible first | exact HB.out | apply below_alloc | apply pw_below_drewN | apply below_drew1 | refine below_set ?_ GE404.out) | exact HB.out))) : w.heap.size ≤ gb405)); have n5_ := Aside0.mk ((by rw [hg]; exact Nat.ne_of_lt (blk_lt (g := gb404) (o := .cells #[.int .i64 a0_0, .string a0_1, .string a0_2, .int .i64 a0_3, .int .u64 a0_4, .int .u64 a0_5, .slice A0_6 l0_6.length c0_6, .slice A0_7 l0_7.length c0_7] 37 (0, 0)) (by (with_reducible repeat (first | refine blk_drewN ?_ _ | refine blk_drew ?_ | refine blk_alloc ?_ _)); exact BK404.out)) : gb404 ≠ gb405)); have n6_ := Aside0.mk ((by rw [hg]; exact Nat.ne_of_gt (blk_lt (g := gb404) (o := .cells #[.int .i64 a0_0, .string a0_1, .string a0_2, .int .i64 a0_3, .int .u64 a0_4, .int .u64 a0_5, .slice A0_6 l0_6.length c0_6, .slice A0_7 l0_7.length c0_7] 37 (0, 0)) (by (with_reducible repeat (first | refine blk_drewN ?_ _ | refine blk_drew ?_ | refine blk_alloc ?_ _)); exact BK404.out)) : gb405 ≠ gb404)); clear BK404; clear HB; have BK404 := n0_; have HB := n1_; have BK405 := n2_; have GW405 := n3_; have GE405 := n4_; have NB404_405 := n5_; have NB405_404 := n6_; clear n0_ n1_ n2_ n3_ n4_ n5_ n6_; clear hb hbox hg))
    have n0_ := Aside0.mk (blk_drew BK404.out)
    have n1_ := Aside0.mk (blk_drew BK405.out)
    have n2_ := Aside0.mk (below_drew1 HB.out)
    clear BK404
    clear BK405
    clear HB
    have BK404 := n0_
    have BK405 := n1_
    have HB := n2_
    clear n0_ n1_ n2_
    refine start_ (n := 6) (S := fun w' => w'.cell? ⟨gb404, 0, none⟩ = some (.int .i64 a0_0) ∧ w'.cell? ⟨gb404, 1, none⟩ = some (.string a0_1) ∧ w'.cell? ⟨gb404, 2, none⟩ = some (.string a0_2) ∧ w'.cell? ⟨gb404, 3, none⟩ = some (.int .i64 a0_3) ∧ w'.cell? ⟨gb404, 4, none⟩ = some (.int .u64 a0_4) ∧ w'.cell? ⟨gb404, 5, none⟩ = some (.int .u64 a0_5) ∧ w'.cell? ⟨gb404, 6, none⟩ = some (.slice A0_6 l0_6.length c0_6) ∧ w'.cell? ⟨gb404, 7, none⟩ = some (.slice A0_7 l0_7.length c0_7)) (ds := []) #[false, false, false, false, false, false] (by kernel_rfl) rfl rfl ⟨(blk_cell BK404.out 0).trans rfl, (blk_cell BK404.out 1).trans rfl, (blk_cell BK404.out 2).trans rfl, (blk_cell BK404.out 3).trans rfl, (blk_cell BK404.out 4).trans rfl, (blk_cell BK404.out 5).trans rfl, (blk_cell BK404.out 6).trans rfl, (blk_cell BK404.out 7).trans rfl⟩ (fun hHeld => ?_)
    generalize w4.drew = w5 at BK404 BK405 HB hHeld ⊢
    refine pure_ (i := 0) (N := some 3) (v := ?_) (a' := ?_) #[true, false, false, false, false, false] rfl rfl (by kernel_rfl) (fun _ _ _ h => h) (Or.inl ⟨by rfl, ?_⟩) ?_ ?_
    rotate_left
    · intro w'
      go_simp
      with_reducible rfl
    rotate_left
    · simp only [Act.put, List.setIfInBounds_toArray, List.set_cons_zero, List.set_cons_succ, i64_w, i32_w]
      rfl
    refine take_ (i := 1) (N := some 4) (v := ?_) (a' := ?_) #[true, true, false, false, false, false] rfl rfl (by kernel_rfl) (fun _ _ _ h => h) (Or.inl ⟨by rfl, ?_⟩) hHeld ?_ ?_
    rotate_left
    · rintro w' ⟨s0, s1, s2, s3, s4, s5, s6, s7⟩
      go_simp
      with_reducible rfl
    rotate_left
    · simp only [Act.put, List.setIfInBounds_toArray, List.set_cons_zero, List.set_cons_succ, i64_w, i32_w]
      rfl
    refine take_ (i := 2) (N := some 5) (v := ?_) (a' := ?_) #[true, true, true, false, false, false] rfl rfl (by kernel_rfl) (fun _ _ _ h => h) (Or.inl ⟨by rfl, ?_⟩) hHeld ?_ ?_
    rotate_left
    · rintro w' ⟨s0, s1, s2, s3, s4, s5, s6, s7⟩
      go_simp
      with_reducible rfl
    rotate_left
    · simp only [Act.put, List.setIfInBounds_toArray, List.set_cons_zero, List.set_cons_succ, i64_w, i32_w]
      rfl
    refine one_ (i := 3) (N := some 6) #[true, true, true, true, false, false] rfl rfl (by kernel_rfl) (by decide) (fun K hK => ?_)
    refine goes_ Try.func57 (by kernel_rfl) rfl #[.agg #[.int .i64 a0_0, .string a0_1, .string a0_2, .int .i64 a0_3, .int .u64 a0_4, .int .u64 a0_5, .slice A0_6 l0_6.length c0_6, .slice A0_7 l0_7.length c0_7]] (by rfl) rfl rfl (by (try simp only [List.map_toArray, List.map_cons, List.map_nil]); first | done | rfl | (simp only [List.length_drop, List.length_take]; rfl)) ?_
    with_reducible refine (spec_DocValue.calls k a0_0 a0_1 a0_2 a0_3 a0_4 a0_5 _ _ l0_6 _ _ l0_7 t406 _ ?side1 ?side2 ?side3 ?side4 A2.out).mono ?_
    (case side1 => repeat (first | exact (Kd.C_below HR0_6.out HB.out) | (with_reducible refine Kd.C_alloc ?_ _) | (with_reducible refine Kd.C_drewN ?_ _) | (with_reducible refine Kd.C_drew ?_)))
    (case side2 => exact HC0_6.out)
    (case side3 => repeat (first | exact (Kd.C_below HR0_7.out HB.out) | (with_reducible refine Kd.C_alloc ?_ _) | (with_reducible refine Kd.C_drewN ?_ _) | (with_reducible refine Kd.C_drew ?_)))
    (case side4 => exact HC0_7.out)
    rintro e w6 ⟨v407, rfl, ho0, hb⟩
    refine ⟨_, rfl, ?_⟩
    have n0_ := Aside0.mk (Kd.R_lower ho0 (below_size (by repeat (first | (with_reducible first | exact HB.out | apply below_alloc | apply pw_below_drewN | apply below_drew1 | refine below_set ?_ GE404.out | refine below_set ?_ GE405.out) | exact HB.out))))
    have n1_ := Aside0.mk (blk_below (g := gb404) (o := .cells #[.int .i64 a0_0, .string a0_1, .string a0_2, .int .i64 a0_3, .int .u64 a0_4, .int .u64 a0_5, .slice A0_6 l0_6.length c0_6, .slice A0_7 l0_7.length c0_7] 37 (0, 0)) (by (with_reducible repeat (first | refine blk_drewN ?_ _ | refine blk_drew ?_ | refine blk_alloc ?_ _)); exact BK404.out) hb)
    have n2_ := Aside0.mk (blk_below (g := gb405) (o := .cells #[.int .i64 0, .slice none 0 0] 59 (0, 0)) (by (with_reducible repeat (first | refine blk_drewN ?_ _ | refine blk_drew ?_ | refine blk_alloc ?_ _)); exact BK405.out) hb)
    have n3_ := Aside0.mk (below_step (by repeat (first | (with_reducible first | exact HB.out | apply below_alloc | apply pw_below_drewN | apply below_drew1 | refine below_set ?_ GE404.out | refine below_set ?_ GE405.out) | exact HB.out)) hb)
    clear BK404
    clear BK405
    clear HB
    have HO408 := n0_
    have BK404 := n1_
    have BK405 := n2_
    have HB := n3_
    clear n0_ n1_ n2_ n3_
    (try clear hb)
    (try clear hb2)
    (try clear hk)
    (try clear hi)
    (try clear ho0)
    obtain ⟨Ao7, co7, eo7⟩ := Kd.R_slice HO408.out
    (first | subst eo7 | (injection eo7 with f1_ f2_ f3_; have f4_ := f1_.symm; have f5_ := f3_.symm; clear f1_ f2_ f3_; subst f4_; subst f5_))
    refine hK.out _ _ ⟨(blk_cell BK404.out 0).trans rfl, (blk_cell BK404.out 1).trans rfl, (blk_cell BK404.out 2).trans rfl, (blk_cell BK404.out 3).trans rfl, (blk_cell BK404.out 4).trans rfl, (blk_cell BK404.out 5).trans rfl, (blk_cell BK404.out 6).trans rfl, (blk_cell BK404.out 7).trans rfl⟩ (fun hHeld => ?_)
    clear hK K
    refine norm_ (a' := ?_) ?_ ?_
    rotate_left
    · show Act.put _ (some 6) _ = _
      simp only [Act.put, List.setIfInBounds_toArray, List.set_cons_zero, List.set_cons_succ, i64_w, i32_w]
      rfl
    refine pure_ (i := 4) (N := some 7) (v := ?_) (a' := ?_) #[true, true, true, true, true, false] rfl rfl (by kernel_rfl) (fun _ _ _ h => h) (Or.inl ⟨by rfl, ?_⟩) ?_ ?_
    rotate_left
    · intro w'
      go_simp
      with_reducible rfl
    rotate_left
    · simp only [Act.put, List.setIfInBounds_toArray, List.set_cons_zero, List.set_cons_succ, i64_w, i32_w]
      rfl
    refine one_ (i := 5) (N := none) #[true, true, true, true, true, true] rfl rfl (by kernel_rfl) (by decide) (fun K hK => ?_)
    have hs8 : w6.cell? ⟨gb405, 0, none⟩ = some (.int .i64 0) := (blk_cell BK405.out 0).trans rfl
    have hfs8 := blk_frozen BK405.out 0
    have hns8_0 := NB404_405.out
    have hms8_0 := NB405_404.out
    have hs9 : w6.cell? ⟨gb405, 1, none⟩ = some (.slice none 0 0) := (blk_cell BK405.out 1).trans rfl
    have hfs9 := blk_frozen BK405.out 1
    have hns9_0 := NB404_405.out
    have hms9_0 := NB405_404.out
    refine skip_ (w1 := ?_) (by rfl) rfl ?_ ?_
    rotate_left
    · go_simp
      rfl
    refine hK.out _ _ ⟨((cell_far (p := ⟨gb405, _, none⟩) NB404_405.out _).trans (((cell_far (p := ⟨gb405, _, none⟩) NB404_405.out _).trans (hHeld.1)))), ((cell_far (p := ⟨gb405, _, none⟩) NB404_405.out _).trans (((cell_far (p := ⟨gb405, _, none⟩) NB404_405.out _).trans (hHeld.2.1)))), ((cell_far (p := ⟨gb405, _, none⟩) NB404_405.out _).trans (((cell_far (p := ⟨gb405, _, none⟩) NB404_405.out _).trans (hHeld.2.2.1)))), ((cell_far (p := ⟨gb405, _, none⟩) NB404_405.out _).trans (((cell_far (p := ⟨gb405, _, none⟩) NB404_405.out _).trans (hHeld.2.2.2.1)))), ((cell_far (p := ⟨gb405, _, none⟩) NB404_405.out _).trans (((cell_far (p := ⟨gb405, _, none⟩) NB404_405.out _).trans (hHeld.2.2.2.2.1)))), ((cell_far (p := ⟨gb405, _, none⟩) NB404_405.out _).trans (((cell_far (p := ⟨gb405, _, none⟩) NB404_405.out _).trans (hHeld.2.2.2.2.2.1)))), ((cell_far (p := ⟨gb405, _, none⟩) NB404_405.out _).trans (((cell_far (p := ⟨gb405, _, none⟩) NB404_405.out _).trans (hHeld.2.2.2.2.2.2.1)))), ((cell_far (p := ⟨gb405, _, none⟩) NB404_405.out _).trans (((cell_far (p := ⟨gb405, _, none⟩) NB404_405.out _).trans (hHeld.2.2.2.2.2.2.2))))⟩ (fun hHeld => ?_)
    clear hK K
    refine done_ (by kernel_rfl) ?_
    try go_wp2
    refine bodyPost_ret (results_cell_row rfl _ _ gb405 59 #[.int .i64 a0_0, .slice Ao7 t406.length co7] (0, 0) _ rfl (by (with_reducible repeat (first | refine blk_drewN ?_ _ | refine blk_drew ?_ | refine blk_alloc ?_ _)); refine blk_put (cs := #[.int .i64 a0_0, .slice none 0 0]) ?_ 1 _ rfl; (with_reducible repeat (first | refine blk_drewN ?_ _ | refine blk_drew ?_ | refine blk_alloc ?_ _)); refine blk_put (cs := #[.int .i64 0, .slice none 0 0]) ?_ 0 _ rfl; (with_reducible repeat (first | refine blk_drewN ?_ _ | refine blk_drew ?_ | refine blk_alloc ?_ _)); exact BK405.out) Try.underlying59 rfl (by kernel_rfl)) rfl ?_
    exact ⟨_, by first | rfl | (simp [errW_none, errW_some] <;> rfl) | (simp [*, errW_none, errW_some] <;> rfl), by (with_reducible repeat (first | apply Kd.R_alloc | apply Kd.R_drewN | apply Kd.R_drew)); exact Kd.R_mono (Kd.R_far (p := ⟨gb405, 1, none⟩) (Kd.R_far (p := ⟨gb405, 0, none⟩) (Kd.R_types HO408.out BK405.out (by decide)) (fun _ hk => hk.2) (.int .i64 a0_0)) (fun _ hk => hk.2) (.slice Ao7 t406.length co7)) (fun _ hk => trivial), by repeat (first | (with_reducible first | exact HB.out | apply below_alloc | apply pw_below_drewN | apply below_drew1 | refine below_set ?_ GE404.out | refine below_set ?_ GE405.out) | exact HB.out)⟩

/-! ### spec_BindDouble: function 35 -/
mutual
def spec_BindDouble.j0 : Nat → Int → Int → Option (Int)
  | 0, _, _ => none
  | k + 1, x3, x4 => spec_BindDouble.l0 k x3 x4 0
def spec_BindDouble.l0 : Nat → Int → Int → Int → Option (Int)
  | 0, _, _, _ => none
  | k + 1, x3, x4, x5 => if 0 ≤ (wrap64 (x5 + 1)) then (if (shr .u64 x4 (wrap64 (x5 + 1))) = 0 then (if 0 ≤ x5 then (if x5 ≤ 52 then (if 0 ≤ (wrap64 (52 - x5)) then (some (Go.bits .or .u64 (Go.bits .or .u64 x3 (IntKind.u64.wrap ((IntKind.u64.wrap (wrap64 (1023 + x5))) * 4503599627370496))) (shl .u64 (IntKind.u64.wrap (x4 - (shl .u64 1 x5))) (wrap64 (52 - x5))))) else (none)) else (if 0 ≤ (wrap64 (x5 - 52)) then (some (Go.bits .or .u64 (Go.bits .or .u64 x3 (IntKind.u64.wrap ((IntKind.u64.wrap (wrap64 (1023 + x5))) * 4503599627370496))) (shr .u64 (IntKind.u64.wrap (x4 - (shl .u64 1 x5))) (wrap64 (x5 - 52))))) else (none))) else (none)) else (spec_BindDouble.l0 k x3 x4 (wrap64 (x5 + 1)))) else (none)
end
def spec_BindDouble.f (k : Nat) (a0 : Int) : Option (Int) := if a0 = 0 then (some 0) else (if a0 < 0 then (spec_BindDouble.j0 k 9223372036854775808 (IntKind.u64.wrap (wrap64 (-a0)))) else (spec_BindDouble.j0 k 0 (IntKind.u64.wrap (a0))))
theorem spec_BindDouble.mono_l : ∀ k, (∀ y0 y1, LeO (spec_BindDouble.j0 k y0 y1) (spec_BindDouble.j0 (k + 1) y0 y1)) ∧ (∀ y0 y1 y2, LeO (spec_BindDouble.l0 k y0 y1 y2) (spec_BindDouble.l0 (k + 1) y0 y1 y2))
  | 0 => ⟨fun _ _ r h => by simp [spec_BindDouble.j0] at h, fun _ _ _ r h => by simp [spec_BindDouble.l0] at h⟩
  | k + 1 => by
    obtain ⟨ih0, ih1⟩ := spec_BindDouble.mono_l k
    refine ⟨?_, ?_⟩
    · intro y0 y1
      unfold spec_BindDouble.j0
      repeat' first
      | (with_reducible exact ih0 _ _)
      | (with_reducible exact ih1 _ _ _)
      | (with_reducible exact LeO.refl _)
      | (with_reducible exact LeO.none _)
      | (with_reducible refine LeO.ite ?_ ?_)
      | (with_reducible refine LeO.bind ?_ (fun _ => ?_))
      | exact ih0 _ _
      | exact ih1 _ _ _
      | exact LeO.none _
      | refine LeO.ite ?_ ?_
      | refine LeO.bind ?_ (fun _ => ?_)
    · intro y0 y1 y2
      unfold spec_BindDouble.l0
      repeat' first
      | (with_reducible exact ih0 _ _)
      | (with_reducible exact ih1 _ _ _)
      | (with_reducible exact LeO.refl _)
      | (with_reducible exact LeO.none _)
      | (with_reducible refine LeO.ite ?_ ?_)
      | (with_reducible refine LeO.bind ?_ (fun _ => ?_))
      | exact ih0 _ _
      | exact ih1 _ _ _
      | exact LeO.none _
      | refine LeO.ite ?_ ?_
      | refine LeO.bind ?_ (fun _ => ?_)
theorem spec_BindDouble.mono : ∀ a0 k, LeO (spec_BindDouble.f k a0) (spec_BindDouble.f (k + 1) a0) := by
  intro a0 k
  obtain ⟨ih0, ih1⟩ := spec_BindDouble.mono_l k
  unfold spec_BindDouble.f
  repeat' first
      | (with_reducible exact ih0 _ _)
      | (with_reducible exact ih1 _ _ _)
      | (with_reducible exact LeO.refl _)
      | (with_reducible exact LeO.none _)
      | (with_reducible refine LeO.ite ?_ ?_)
      | (with_reducible refine LeO.bind ?_ (fun _ => ?_))
      | exact ih0 _ _
      | exact ih1 _ _ _
      | exact LeO.none _
      | refine LeO.ite ?_ ?_
      | refine LeO.bind ?_ (fun _ => ?_)
set_option maxHeartbeats 8000000 in
set_option maxRecDepth 100000 in
theorem spec_BindDouble.calls (k : Nat) (a0 : Int) (r : Int) (w : World) (h : spec_BindDouble.f k a0 = some r) :
    Calls Try.prog 35 #[.int .i64 a0] w fun e w' => e = .returned (.int .u64 r) ∧ Drawn0 w w' := by
  have H : (if a0 = 0 then (some 0) else (if a0 < 0 then (spec_BindDouble.j0 k 9223372036854775808 (IntKind.u64.wrap (wrap64 (-a0)))) else (spec_BindDouble.j0 k 0 (IntKind.u64.wrap (a0))))) = some r := h
  clear h
  by_cases c2 : a0 = 0
  · rw [if_pos c2] at H
    have c2b0 : (a0 == 0) = true := beq_iff_eq.mpr c2
    have c2b1 : (a0 != 0) = false := bne_eq_false_iff_eq.mpr c2
    clear c2
    as_aux_lemma =>
      obtain rfl := Option.some.inj H
      go_enter Try.func35, Try.ntmps35
      go_wp2
      go_ret
      exact ⟨by first | rfl | (simp; done) | (simp [*]; done), by repeat (first | exact Drawn0.refl _ | apply Drawn0.step)⟩
  · rw [if_neg c2] at H
    have c2b0 : (a0 == 0) = false := beq_eq_false_iff_ne.mpr c2
    have c2b1 : (a0 != 0) = true := bne_iff_ne.mpr c2
    have HC3 := Aside0.mk H
    clear H
    go_enter Try.func35, Try.ntmps35
    go_upto_if 11 with (fail)
    go_cut [3, 4] (fun v3 v4 wc => ∃ (kq : Nat) (x3_2 : Int) (x4_2 : Int), v3 = .int .u64 x3_2 ∧ v4 = .int .u64 x4_2 ∧ Aside0 (spec_BindDouble.j0 kq x3_2 x4_2 = some r) ∧ Aside0 (kq ≤ k) ∧ Drawn0 w wc)
    case first =>
      have H := HC3.out
      clear HC3
      by_cases c4 : a0 < 0
      · rw [if_pos c4] at H
        have c4b0 : decide (a0 < 0) = true := decide_eq_true c4
        clear c4
        (first | rw [c4b0] | (simp only [i64_w, i32_w]; rw [c4b0]) | skip)
        as_aux_lemma =>
          have H' := Aside0.mk H
          clear H
          go_wp2
          go_meet
          case rel => exact ⟨_, (9223372036854775808), (IntKind.u64.wrap (wrap64 (-a0))), (by first | rfl | (simp; done) | (simp [*]; done)), (by first | rfl | (simp; done) | (simp [*]; done)), H', ⟨by first | omega | exact Nat.le_refl _⟩, by repeat (first | exact Drawn0.refl _ | apply Drawn0.step)⟩
      · rw [if_neg c4] at H
        have c4b0 : decide (a0 < 0) = false := decide_eq_false c4
        clear c4
        (first | rw [c4b0] | (simp only [i64_w, i32_w]; rw [c4b0]) | skip)
        as_aux_lemma =>
          have H' := Aside0.mk H
          clear H
          go_wp2
          go_meet
          case rel => exact ⟨_, (0), (IntKind.u64.wrap (a0)), (by first | rfl | (simp; done) | (simp [*]; done)), (by first | rfl | (simp; done) | (simp [*]; done)), H', ⟨by first | omega | exact Nat.le_refl _⟩, by repeat (first | exact Drawn0.refl _ | apply Drawn0.step)⟩
    case rest =>
      clear HC3
      try clear c2
      try clear c2b0
      try clear c2b1
      try clear p2
      try clear c3
      try clear c4
      try clear c4b0
      obtain ⟨kq, x3_2, x4_2, rfl, rfl, HA, HJ2, ⟨mc2, rfl⟩⟩ := hcut
      cases kq with
      | zero => exact absurd HA.out (by simp [spec_BindDouble.j0])
      | succ kj2 =>
        have H := HA.out
        clear HA
        simp only [spec_BindDouble.j0] at H
        have H' := Aside0.mk H
        clear H
        go_wp2
        go_loopg [5] kj2 (fun kq v5 w' => ∃ (x5_2 : Int), v5 = .int .i64 x5_2 ∧ Aside0 (spec_BindDouble.l0 kq x3_2 x4_2 x5_2 = some r) ∧ Aside0 (kq ≤ kj2) ∧ Drawn0 w w')
        case atStart => exact ⟨(0), (by first | rfl | (simp; done) | (simp [*]; done)), H', ⟨Nat.le_refl _⟩, by repeat (first | exact Drawn0.refl _ | apply Drawn0.step)⟩
        case round =>
          clear H'
          try clear c2
          try clear c2b0
          try clear c2b1
          try clear p2
          try clear c3
          try clear c4
          try clear c4b0
          try clear p2
          obtain ⟨x5_2, rfl, HA, HK2, ⟨m2, rfl⟩⟩ := hrel
          cases gk with
          | zero => exact absurd HA.out (by simp [spec_BindDouble.l0])
          | succ k2 =>
            have H := HA.out
            clear HA
            simp only [spec_BindDouble.l0] at H
            obtain ⟨ji5, hji5⟩ : ∃ j_ : Int, (wrap64 (x5_2 + 1)) = j_ := ⟨_, rfl⟩
            replace H : (if 0 ≤ (ji5) then (if (shr .u64 x4_2 (ji5)) = 0 then (if 0 ≤ x5_2 then (if x5_2 ≤ 52 then (if 0 ≤ (wrap64 (52 - x5_2)) then (some (Go.bits .or .u64 (Go.bits .or .u64 x3_2 (IntKind.u64.wrap ((IntKind.u64.wrap (wrap64 (1023 + x5_2))) * 4503599627370496))) (shl .u64 (IntKind.u64.wrap (x4_2 - (shl .u64 1 x5_2))) (wrap64 (52 - x5_2))))) else (none)) else (if 0 ≤ (wrap64 (x5_2 - 52)) then (some (Go.bits .or .u64 (Go.bits .or .u64 x3_2 (IntKind.u64.wrap ((IntKind.u64.wrap (wrap64 (1023 + x5_2))) * 4503599627370496))) (shr .u64 (IntKind.u64.wrap (x4_2 - (shl .u64 1 x5_2))) (wrap64 (x5_2 - 52))))) else (none))) else (none)) else (spec_BindDouble.l0 k2 x3_2 x4_2 ji5)) else (none)) = some r := by first | (rw [hji5] at H; exact H) | (simp only [hji5] at H ⊢; exact H)
            have hji5w : (IntKind.i64.wrap (x5_2 + 1)) = ji5 := (i64_w _).trans hji5
            by_cases c6 : 0 ≤ (ji5)
            · rw [if_pos c6] at H
              have c6b0 := eq_true c6
              have c6b1 : decide (0 ≤ (ji5)) = true := decide_eq_true c6
              clear c6
              obtain ⟨ji7, hji7⟩ : ∃ j_ : Int, (shr .u64 x4_2 (ji5)) = j_ := ⟨_, rfl⟩
              replace H : (if (ji7) = 0 then (if 0 ≤ x5_2 then (if x5_2 ≤ 52 then (if 0 ≤ (wrap64 (52 - x5_2)) then (some (Go.bits .or .u64 (Go.bits .or .u64 x3_2 (IntKind.u64.wrap ((IntKind.u64.wrap (wrap64 (1023 + x5_2))) * 4503599627370496))) (shl .u64 (IntKind.u64.wrap (x4_2 - (shl .u64 1 x5_2))) (wrap64 (52 - x5_2))))) else (none)) else (if 0 ≤ (wrap64 (x5_2 - 52)) then (some (Go.bits .or .u64 (Go.bits .or .u64 x3_2 (IntKind.u64.wrap ((IntKind.u64.wrap (wrap64 (1023 + x5_2))) * 4503599627370496))) (shr .u64 (IntKind.u64.wrap (x4_2 - (shl .u64 1 x5_2))) (wrap64 (x5_2 - 52))))) else (none))) else (none)) else (spec_BindDouble.l0 k2 x3_2 x4_2 ji5)) = some r := by first | (rw [hji7] at H; exact H) | (simp only [hji7] at H ⊢; exact H)
              have hji7_ : (x4_2 / 2 ^ min (ji5).toNat 64) = ji7 := hji7
              have hji7z : (ji5) ≤ 64 → (x4_2 / 2 ^ (ji5).toNat) = ji7 := shr_small hji7
              by_cases c8 : (ji7) = 0
              · rw [if_pos c8] at H
                have c8b0 : ((ji7) == 0) = true := beq_iff_eq.mpr c8
                have c8b1 : ((ji7) != 0) = false := bne_eq_false_iff_eq.mpr c8
                clear c8
                by_cases c9 : 0 ≤ x5_2
                · rw [if_pos c9] at H
                  have c9b0 := eq_true c9
                  have c9b1 : decide (0 ≤ x5_2) = true := decide_eq_true c9
                  clear c9
                  obtain ⟨ji10, hji10⟩ : ∃ j_ : Int, (shl .u64 1 x5_2) = j_ := ⟨_, rfl⟩
                  replace H : (if x5_2 ≤ 52 then (if 0 ≤ (wrap64 (52 - x5_2)) then (some (Go.bits .or .u64 (Go.bits .or .u64 x3_2 (IntKind.u64.wrap ((IntKind.u64.wrap (wrap64 (1023 + x5_2))) * 4503599627370496))) (shl .u64 (IntKind.u64.wrap (x4_2 - (ji10))) (wrap64 (52 - x5_2))))) else (none)) else (if 0 ≤ (wrap64 (x5_2 - 52)) then (some (Go.bits .or .u64 (Go.bits .or .u64 x3_2 (IntKind.u64.wrap ((IntKind.u64.wrap (wrap64 (1023 + x5_2))) * 4503599627370496))) (shr .u64 (IntKind.u64.wrap (x4_2 - (ji10))) (wrap64 (x5_2 - 52))))) else (none))) = some r := by first | (rw [hji10] at H; exact H) | (simp only [hji10] at H ⊢; exact H)
                  have hji10_ : (IntKind.u64.wrap (1 * 2 ^ min x5_2.toNat 64)) = ji10 := hji10
                  have hji10z : x5_2 ≤ 64 → (IntKind.u64.wrap (1 * 2 ^ x5_2.toNat)) = ji10 := shl_small hji10
                  have hji10u : (IntKind.u64.wrap (2 ^ min x5_2.toNat 64)) = ji10 := by have h_ := hji10_; rw [Int.one_mul] at h_; exact h_
                  have hji10v : x5_2 ≤ 64 → (IntKind.u64.wrap (2 ^ x5_2.toNat)) = ji10 := fun hle_ => by have h_ := hji10z hle_; rw [Int.one_mul] at h_; exact h_
                  by_cases c11 : x5_2 ≤ 52
                  · rw [if_pos c11] at H
                    have c11b0 : decide (x5_2 ≤ 52) = true := decide_eq_true c11
                    clear c11
                    obtain ⟨ji12, hji12⟩ : ∃ j_ : Int, (wrap64 (52 - x5_2)) = j_ := ⟨_, rfl⟩
                    replace H : (if 0 ≤ (ji12) then (some (Go.bits .or .u64 (Go.bits .or .u64 x3_2 (IntKind.u64.wrap ((IntKind.u64.wrap (wrap64 (1023 + x5_2))) * 4503599627370496))) (shl .u64 (IntKind.u64.wrap (x4_2 - (ji10))) (ji12)))) else (none)) = some r := by first | (rw [hji12] at H; exact H) | (simp only [hji12] at H ⊢; exact H)
                    have hji12w : (IntKind.i64.wrap (52 - x5_2)) = ji12 := (i64_w _).trans hji12
                    by_cases c13 : 0 ≤ (ji12)
                    · rw [if_pos c13] at H
                      have c13b0 := eq_true c13
                      have c13b1 : decide (0 ≤ (ji12)) = true := decide_eq_true c13
                      clear c13
                      obtain ⟨ji14, hji14⟩ : ∃ j_ : Int, (shl .u64 (IntKind.u64.wrap (x4_2 - (ji10))) (ji12)) = j_ := ⟨_, rfl⟩
                      replace H : (some (Go.bits .or .u64 (Go.bits .or .u64 x3_2 (IntKind.u64.wrap ((IntKind.u64.wrap (wrap64 (1023 + x5_2))) * 4503599627370496))) (ji14))) = some r := by first | (rw [hji14] at H; exact H) | (simp only [hji14] at H ⊢; exact H)
                      have hji14_ : (IntKind.u64.wrap ((IntKind.u64.wrap (x4_2 - (ji10))) * 2 ^ min (ji12).toNat 64)) = ji14 := hji14
                      have hji14z : (ji12) ≤ 64 → (IntKind.u64.wrap ((IntKind.u64.wrap (x4_2 - (ji10))) * 2 ^ (ji12).toNat)) = ji14 := shl_small hji14
                      as_aux_lemma =>
                        obtain rfl := Option.some.inj H
                        go_wp2
                        go_ret
                        exact ⟨by first | rfl | (simp; done) | (simp only [← hji5, ← hji7, ← hji10, ← hji12, ← hji14] <;> (first | rfl | simp)) | (simp [*]; done), by repeat (first | exact Drawn0.refl _ | apply Drawn0.step)⟩
                    · rw [if_neg c13] at H
                      exact absurd H (by simp)
                  · rw [if_neg c11] at H
                    have c11b0 : decide (x5_2 ≤ 52) = false := decide_eq_false c11
                    clear c11
                    obtain ⟨ji15, hji15⟩ : ∃ j_ : Int, (wrap64 (x5_2 - 52)) = j_ := ⟨_, rfl⟩
                    replace H : (if 0 ≤ (ji15) then (some (Go.bits .or .u64 (Go.bits .or .u64 x3_2 (IntKind.u64.wrap ((IntKind.u64.wrap (wrap64 (1023 + x5_2))) * 4503599627370496))) (shr .u64 (IntKind.u64.wrap (x4_2 - (ji10))) (ji15)))) else (none)) = some r := by first | (rw [hji15] at H; exact H) | (simp only [hji15] at H ⊢; exact H)
                    have hji15w : (IntKind.i64.wrap (x5_2 - 52)) = ji15 := (i64_w _).trans hji15
                    by_cases c16 : 0 ≤ (ji15)
                    · rw [if_pos c16] at H
                      have c16b0 := eq_true c16
                      have c16b1 : decide (0 ≤ (ji15)) = true := decide_eq_true c16
                      clear c16
                      obtain ⟨ji17, hji17⟩ : ∃ j_ : Int, (shr .u64 (IntKind.u64.wrap (x4_2 - (ji10))) (ji15)) = j_ := ⟨_, rfl⟩
                      replace H : (some (Go.bits .or .u64 (Go.bits .or .u64 x3_2 (IntKind.u64.wrap ((IntKind.u64.wrap (wrap64 (1023 + x5_2))) * 4503599627370496))) (ji17))) = some r := by first | (rw [hji17] at H; exact H) | (simp only [hji17] at H ⊢; exact H)
                      have hji17_ : ((IntKind.u64.wrap (x4_2 - (ji10))) / 2 ^ min (ji15).toNat 64) = ji17 := hji17
                      have hji17z : (ji15) ≤ 64 → ((IntKind.u64.wrap (x4_2 - (ji10))) / 2 ^ (ji15).toNat) = ji17 := shr_small hji17
                      as_aux_lemma =>
                        obtain rfl := Option.some.inj H
                        go_wp2
                        go_ret
                        exact ⟨by first | rfl | (simp; done) | (simp only [← hji5, ← hji7, ← hji10, ← hji15, ← hji17] <;> (first | rfl | simp)) | (simp [*]; done), by repeat (first | exact Drawn0.refl _ | apply Drawn0.step)⟩
                    · rw [if_neg c16] at H
                      exact absurd H (by simp)
                · rw [if_neg c9] at H
                  exact absurd H (by simp)
              · rw [if_neg c8] at H
                have c8b0 : ((ji7) == 0) = false := beq_eq_false_iff_ne.mpr c8
                have c8b1 : ((ji7) != 0) = true := bne_iff_ne.mpr c8
                as_aux_lemma =>
                  have H' := Aside0.mk H
                  clear H
                  go_wp2
                  go_roundg k2
                  case measure => have := HJ2.out; have := HK2.out; omega
                  case rel => exact ⟨(ji5), (by first | rfl | (simp; done) | (simp only [← hji5] <;> (first | rfl | simp)) | (simp [*]; done)), H', ⟨by have := HJ2.out; have := HK2.out; omega⟩, by repeat (first | exact Drawn0.refl _ | apply Drawn0.step)⟩
            · rw [if_neg c6] at H
              exact absurd H (by simp)

end Go.Proofs.Ythlpmeiihchdjaa.PFlu
