/- Printed by a program of this session (a turned copy of the printer of the kit): contracts of functions of the translation, each with the Lean function that it computes. Conditions: as each theorem states them. -/
import Derived.Test.YtndpbbgniflckaaDoorPElx0
import Derived.Test.YtndpbbgniflckaaDoorPElx4
import Derived.Test.YtndpbbgniflckaaDoorPElx5
import Derived.Test.YtndpbbgniflckaaDoorPElx6
namespace Go.Proofs.YtndpbbgniflckaaDoor.PEl
open Go.RowKit Go.Proofs.YtndpbbgniflckaaDoorW.PrintWords Go.Proofs.YtndpbbgniflckaaDoorW.PrintLast Go.Proofs.YtndpbbgniflckaaDoorW.PrintMore
attribute [local go_sem] max2_int min2_int max_two min_two max_three min_three max_four min_four   -- for this text's walks alone
set_option linter.unusedVariables false
set_option linter.unusedSimpArgs false

/-! ### spec_DocElem: function 8 -/
def spec_DocElem.T1 : Bool × List (List Nat × List Nat) := (true, [([], []), ([0], [0]), ([1], [1]), ([], []), ([3], [3]), ([2, 4], [2, 4]), ([], []), ([6], [6]), ([7, 5], [7]), ([5, 8, 8], [5, 8]), ([9, 9, 0, 1, 2, 3, 4, 5, 6, 7, 8, 9], [9])])
def spec_DocElem.B1 : List Nat := [0, 1, 3, 0, 8, 31, 0, 64, 255, 511, 1023]
theorem spec_DocElem.tab1 : rtab .any (opsOf Tryd.f8 1) = spec_DocElem.T1 := by kernel_rfl
theorem spec_DocElem.bits1 : waitsOk spec_DocElem.T1.2 spec_DocElem.B1 = true := by kernel_rfl
set_option maxHeartbeats 8000000 in
set_option maxRecDepth 100000 in
theorem spec_DocElem.step (k : Nat) (ih : ∀ j, j < k → Grp_spec_DocBytes.Spec j) : ∀ (a0_0 : ByteArray) (a0_1 : Int) (a0_2 : ByteArray) (a0_3 : ByteArray) (a0_4 : Int) (a0_5 : Int) (a0_6 : Int) (A0_7 : Option Addr) (c0_7 : Nat) (l0_7 : List Int) (A0_8 : Option Addr) (c0_8 : Nat) (l0_8 : List (S31)) (r : List Int) (w : World) (hr0_7 : Kd.C (Kd.int .u8) w A0_7 l0_7.length l0_7) (hc0_7 : l0_7.length ≤ c0_7) (hr0_8 : Kd.C k31 w A0_8 l0_8.length l0_8) (hc0_8 : l0_8.length ≤ c0_8) (h : spec_DocElem.f k a0_0 a0_1 a0_2 a0_3 a0_4 a0_5 a0_6 l0_7 l0_8 = some r),
    Calls Tryd.prog 8 #[.agg #[.string a0_0, .int .i64 a0_1, .string a0_2, .string a0_3, .int .i64 a0_4, .int .u64 a0_5, .int .u64 a0_6, .slice A0_7 l0_7.length c0_7, .slice A0_8 l0_8.length c0_8]] w fun e w' => ∃ v0_ : Value, e = .returned (v0_) ∧ Kd.R (Kd.int .u8) 5 w' w.heap.size (fun _ => True) v0_ r ∧ Below w.heap.size w w' := by
  intro a0_0 a0_1 a0_2 a0_3 a0_4 a0_5 a0_6 A0_7 c0_7 l0_7 A0_8 c0_8 l0_8 r w hr0_7 hc0_7 hr0_8 hc0_8 h
  cases k with
  | zero => exact absurd h (by simp [spec_DocElem.f])
  | succ k =>
  simp only [spec_DocElem.f] at h
  have hu31 := Tryd.underlying31
  have hu26 := Tryd.underlying26
  have HR0_7 := Aside0.mk hr0_7
  have HC0_7 := Aside0.mk hc0_7
  clear hr0_7 hc0_7
  have HR0_8 := Aside0.mk hr0_8
  have HC0_8 := Aside0.mk hc0_8
  clear hr0_8 hc0_8
  have HB := Aside0.mk (Below.refl w.heap.size w)
  have H : ((spec_DocHead.f a0_1 a0_0).bind fun t356 => ((spec_DocValue.f k a0_1 a0_2 a0_3 a0_4 a0_5 a0_6 l0_7 l0_8).bind fun t359 => (if t356.length + t359.length < 140737488355328 then (some (t356 ++ t359)) else (none)))) = some r := h
  clear h
  replace H := Option.bind_eq_some_iff.mp H
  obtain ⟨t356, A20, H⟩ := H
  replace H : ((spec_DocValue.f k a0_1 a0_2 a0_3 a0_4 a0_5 a0_6 l0_7 l0_8).bind fun t359 => (if t356.length + t359.length < 140737488355328 then (some (t356 ++ t359)) else (none))) = some r := H
  have A2 := Aside0.mk A20
  clear A20
  replace H := Option.bind_eq_some_iff.mp H
  obtain ⟨t359, A30, H⟩ := H
  replace H : (if t356.length + t359.length < 140737488355328 then (some (t356 ++ t359)) else (none)) = some r := H
  have A3 := Aside0.mk A30
  clear A30
  by_cases c4 : t356.length + t359.length < 140737488355328
  · rw [if_pos c4] at H
    have LMc4 := Aside0.mk c4
    clear c4
    obtain ⟨y362, hy362⟩ : ∃ y_ : List Int, y_ = (t356 ++ t359) := ⟨_, rfl⟩
    replace H : (some y362) = some r := by first | (rw [hy362]; with_reducible exact H) | (have H2_ := (Option.bind_some _ _).symm.trans H; rw [hy362]; with_reducible exact H2_) | (have H2_ := (Option.bind_some _ _).symm.trans H; with_reducible exact H2_) | with_reducible exact H | (rw [hy362]; exact H) | exact H
    have Ny362 := Aside0.mk hy362
    clear hy362
    as_aux_lemma =>
      obtain rfl := Option.some.inj H
      go_enter Tryd.func8, Tryd.ntmps8
      try go_wp2_with (first | ((with_reducible refine gate_dst (N := 1) rfl ?_); refine box_event ?hg (N := 1) ?hd (cs := #[.string a0_0, .int .i64 a0_1, .string a0_2, .string a0_3, .int .i64 a0_4, .int .u64 a0_5, .int .u64 a0_6, .slice A0_7 l0_7.length c0_7, .slice A0_8 l0_8.length c0_8]) (t := 31) ?hr ?_; (case hd => rfl); (case hg => rfl); (case hr => first | (go_simp; done) | (go_simp; rfl)); intro gb355 hg w5 hbox hb; have n0_ := Aside0.mk (below_step (by repeat (first | (with_reducible first | exact HB.out | apply below_alloc | apply pw_below_drewN | apply below_drew1) | exact HB.out)) hb); have n1_ := Aside0.mk (hbox); have n2_ := Aside0.mk ((by rw [hg]; exact (below_size (by repeat (first | (with_reducible first | exact HB.out | apply below_alloc | apply pw_below_drewN | apply below_drew1) | exact HB.out))) : w.heap.size ≤ gb355)); have n3_ := Aside0.mk ((by rw [hg]; exact (below_size (by repeat (first | (with_reducible first | exact HB.out | apply below_alloc | apply pw_below_drewN | apply below_drew1) | exact HB.out))) : w.heap.size ≤ gb355)); clear HB; have HB := n0_; have BK355 := n1_; have GW355 := n2_; have GE355 := n3_; clear n0_ n1_ n2_ n3_; clear hb hbox hg))
      have n0_ := Aside0.mk (blk_drew BK355.out)
      have n1_ := Aside0.mk (below_drew1 HB.out)
      clear BK355
      clear HB
      have BK355 := n0_
      have HB := n1_
      clear n0_ n1_
      refine start_ (n := 11) (S := fun w' => w'.cell? ⟨gb355, 0, none⟩ = some (.string a0_0) ∧ w'.cell? ⟨gb355, 1, none⟩ = some (.int .i64 a0_1) ∧ w'.cell? ⟨gb355, 2, none⟩ = some (.string a0_2) ∧ w'.cell? ⟨gb355, 3, none⟩ = some (.string a0_3) ∧ w'.cell? ⟨gb355, 4, none⟩ = some (.int .i64 a0_4) ∧ w'.cell? ⟨gb355, 5, none⟩ = some (.int .u64 a0_5) ∧ w'.cell? ⟨gb355, 6, none⟩ = some (.int .u64 a0_6) ∧ w'.cell? ⟨gb355, 7, none⟩ = some (.slice A0_7 l0_7.length c0_7) ∧ w'.cell? ⟨gb355, 8, none⟩ = some (.slice A0_8 l0_8.length c0_8)) (ds := []) #[false, false, false, false, false, false, false, false, false, false, false] (by kernel_rfl) rfl rfl ⟨(blk_cell BK355.out 0).trans rfl, (blk_cell BK355.out 1).trans rfl, (blk_cell BK355.out 2).trans rfl, (blk_cell BK355.out 3).trans rfl, (blk_cell BK355.out 4).trans rfl, (blk_cell BK355.out 5).trans rfl, (blk_cell BK355.out 6).trans rfl, (blk_cell BK355.out 7).trans rfl, (blk_cell BK355.out 8).trans rfl⟩ (fun hHeld => ?_); refine with_tabW spec_DocElem.tab1 spec_DocElem.bits1 (fun HT_ HW_ => ?_)
      generalize w5.drew = w6 at BK355 HB hHeld ⊢
      refine pure_ (i := 0) (N := some 3) (v := ?_) (a' := ?_) #[true, false, false, false, false, false, false, false, false, false, false] rfl rfl (any_of HT_.out (by kernel_rfl)) (fun _ _ _ h => h) (Or.inl ⟨by rfl, ?_⟩) ?_ ?_
      rotate_left
      · intro w'
        go_simp
        with_reducible rfl
      rotate_left
      · simp only [Act.put, List.setIfInBounds_toArray, List.set_cons_zero, List.set_cons_succ, i64_w, i32_w]
        rfl
      refine pure_ (i := 1) (N := some 4) (v := ?_) (a' := ?_) #[true, true, false, false, false, false, false, false, false, false, false] rfl rfl (any_of HT_.out (by kernel_rfl)) (fun _ _ _ h => h) (Or.inl ⟨by rfl, ?_⟩) ?_ ?_
      rotate_left
      · intro w'
        go_simp
        with_reducible rfl
      rotate_left
      · simp only [Act.put, List.setIfInBounds_toArray, List.set_cons_zero, List.set_cons_succ, i64_w, i32_w]
        rfl
      refine pure_ (i := 3) (N := some 6) (v := ?_) (a' := ?_) #[true, true, false, true, false, false, false, false, false, false, false] rfl rfl (any_of HT_.out (by kernel_rfl)) (fun _ _ _ h => h) (Or.inl ⟨by rfl, ?_⟩) ?_ ?_
      rotate_left
      · intro w'
        go_simp
        with_reducible rfl
      rotate_left
      · simp only [Act.put, List.setIfInBounds_toArray, List.set_cons_zero, List.set_cons_succ, i64_w, i32_w]
        rfl
      refine pure_ (i := 6) (N := some 9) (v := ?_) (a' := ?_) #[true, true, false, true, false, false, true, false, false, false, false] rfl rfl (any_of HT_.out (by kernel_rfl)) (fun _ _ _ h => h) (Or.inl ⟨by rfl, ?_⟩) ?_ ?_
      rotate_left
      · intro w'
        go_simp
        with_reducible rfl
      rotate_left
      · simp only [Act.put, List.setIfInBounds_toArray, List.set_cons_zero, List.set_cons_succ, i64_w, i32_w]
        rfl
      refine take_ (i := 2) (N := some 5) (v := ?_) (a' := ?_) #[true, true, true, true, false, false, true, false, false, false, false] rfl rfl (take_ofW HT_.out HW_.out (by kernel_rfl)) (fun _ _ _ h => h) (Or.inl ⟨by rfl, ?_⟩) hHeld ?_ ?_
      rotate_left
      · rintro w' ⟨s0, s1, s2, s3, s4, s5, s6, s7, s8⟩
        go_simp
        with_reducible rfl
      rotate_left
      · simp only [Act.put, List.setIfInBounds_toArray, List.set_cons_zero, List.set_cons_succ, i64_w, i32_w]
        rfl
      refine take_ (i := 4) (N := some 7) (v := ?_) (a' := ?_) #[true, true, true, true, true, false, true, false, false, false, false] rfl rfl (take_ofW HT_.out HW_.out (by kernel_rfl)) (fun _ _ _ h => h) (Or.inl ⟨by rfl, ?_⟩) hHeld ?_ ?_
      rotate_left
      · rintro w' ⟨s0, s1, s2, s3, s4, s5, s6, s7, s8⟩
        go_simp
        with_reducible rfl
      rotate_left
      · simp only [Act.put, List.setIfInBounds_toArray, List.set_cons_zero, List.set_cons_succ, i64_w, i32_w]
        rfl
      refine take_ (i := 7) (N := some 10) (v := ?_) (a' := ?_) #[true, true, true, true, true, false, true, true, false, false, false] rfl rfl (take_ofW HT_.out HW_.out (by kernel_rfl)) (fun _ _ _ h => h) (Or.inl ⟨by rfl, ?_⟩) hHeld ?_ ?_
      rotate_left
      · rintro w' ⟨s0, s1, s2, s3, s4, s5, s6, s7, s8⟩
        go_simp
        with_reducible rfl
      rotate_left
      · simp only [Act.put, List.setIfInBounds_toArray, List.set_cons_zero, List.set_cons_succ, i64_w, i32_w]
        rfl
      refine one_ (i := 5) (N := some 8) #[true, true, true, true, true, true, true, true, false, false, false] rfl rfl (one_of HT_.out (by kernel_rfl)) (by decide) (fun K hK => ?_)
      refine goes_ Tryd.func22 (by kernel_rfl) rfl #[.int .i64 a0_1, .string a0_0] (by rfl) rfl rfl (by (try simp only [List.map_toArray, List.map_cons, List.map_nil]); first | done | rfl | (simp only [List.length_drop, List.length_take]; rfl)) ?_
      with_reducible refine (spec_DocHead.calls a0_1 a0_0 t356 _ A2.out).mono ?_
      rintro e w7 ⟨v357, rfl, ho0, hb⟩
      refine ⟨_, rfl, ?_⟩
      have n0_ := Aside0.mk (Kd.R_lower ho0 (below_size (by repeat (first | (with_reducible first | exact HB.out | apply below_alloc | apply pw_below_drewN | apply below_drew1 | refine below_set ?_ GE355.out) | exact HB.out))))
      have n1_ := Aside0.mk (blk_below (g := gb355) (o := .cells #[.string a0_0, .int .i64 a0_1, .string a0_2, .string a0_3, .int .i64 a0_4, .int .u64 a0_5, .int .u64 a0_6, .slice A0_7 l0_7.length c0_7, .slice A0_8 l0_8.length c0_8] 31 (0, 0)) (by (with_reducible repeat (first | refine blk_drewN ?_ _ | refine blk_drew ?_ | refine blk_alloc ?_ _)); exact BK355.out) hb)
      have n2_ := Aside0.mk (below_step (by repeat (first | (with_reducible first | exact HB.out | apply below_alloc | apply pw_below_drewN | apply below_drew1 | refine below_set ?_ GE355.out) | exact HB.out)) hb)
      clear BK355
      clear HB
      have HO358 := n0_
      have BK355 := n1_
      have HB := n2_
      clear n0_ n1_ n2_
      (try clear hb)
      (try clear hb2)
      (try clear hk)
      (try clear hi)
      (try clear ho0)
      refine hK.out _ _ ⟨(blk_cell BK355.out 0).trans rfl, (blk_cell BK355.out 1).trans rfl, (blk_cell BK355.out 2).trans rfl, (blk_cell BK355.out 3).trans rfl, (blk_cell BK355.out 4).trans rfl, (blk_cell BK355.out 5).trans rfl, (blk_cell BK355.out 6).trans rfl, (blk_cell BK355.out 7).trans rfl, (blk_cell BK355.out 8).trans rfl⟩ (fun hHeld => ?_)
      clear hK K
      refine norm_ (a' := ?_) ?_ ?_
      rotate_left
      · show Act.put _ (some 8) _ = _
        simp only [Act.put, List.setIfInBounds_toArray, List.set_cons_zero, List.set_cons_succ, i64_w, i32_w]
        rfl
      refine one_ (i := 8) (N := some 11) #[true, true, true, true, true, true, true, true, true, false, false] rfl rfl (one_of HT_.out (by kernel_rfl)) (by decide) (fun K hK => ?_)
      refine goes_ Tryd.func13 (by kernel_rfl) rfl #[.agg #[.int .i64 a0_1, .string a0_2, .string a0_3, .int .i64 a0_4, .int .u64 a0_5, .int .u64 a0_6, .slice A0_7 l0_7.length c0_7, .slice A0_8 l0_8.length c0_8]] (by rfl) rfl rfl (by (try simp only [List.map_toArray, List.map_cons, List.map_nil]); first | done | rfl | (simp only [List.length_drop, List.length_take]; rfl)) ?_
      with_reducible refine (Grp_spec_DocBytes.get1 (ih k (by omega)) a0_1 a0_2 a0_3 a0_4 a0_5 a0_6 _ _ l0_7 _ _ l0_8 t359 _ ?side1 ?side2 ?side3 ?side4 A3.out).mono ?_
      (case side1 => repeat (first | exact (Kd.C_below HR0_7.out HB.out) | (with_reducible refine Kd.C_alloc ?_ _) | (with_reducible refine Kd.C_drewN ?_ _) | (with_reducible refine Kd.C_drew ?_)))
      (case side2 => exact HC0_7.out)
      (case side3 => repeat (first | exact (Kd.C_below HR0_8.out HB.out) | (with_reducible refine Kd.C_alloc ?_ _) | (with_reducible refine Kd.C_drewN ?_ _) | (with_reducible refine Kd.C_drew ?_)))
      (case side4 => exact HC0_8.out)
      rintro e w8 ⟨v360, rfl, ho0, hb⟩
      refine ⟨_, rfl, ?_⟩
      have n0_ := Aside0.mk (Kd.R_elder' (by (with_reducible repeat (first | apply Kd.R_alloc | apply Kd.R_drewN | apply Kd.R_drew)); exact HO358.out) (Kd.R_base ho0) hb)
      have n1_ := Aside0.mk (Kd.R_lower (Kd.R_new' ho0 (Kd.R_lt (by (with_reducible repeat (first | apply Kd.R_alloc | apply Kd.R_drewN | apply Kd.R_drew)); exact HO358.out))) (below_size (by repeat (first | (with_reducible first | exact HB.out | apply below_alloc | apply pw_below_drewN | apply below_drew1 | refine below_set ?_ GE355.out) | exact HB.out))))
      have n2_ := Aside0.mk (blk_below (g := gb355) (o := .cells #[.string a0_0, .int .i64 a0_1, .string a0_2, .string a0_3, .int .i64 a0_4, .int .u64 a0_5, .int .u64 a0_6, .slice A0_7 l0_7.length c0_7, .slice A0_8 l0_8.length c0_8] 31 (0, 0)) (by (with_reducible repeat (first | refine blk_drewN ?_ _ | refine blk_drew ?_ | refine blk_alloc ?_ _)); exact BK355.out) hb)
      have n3_ := Aside0.mk (below_step (by repeat (first | (with_reducible first | exact HB.out | apply below_alloc | apply pw_below_drewN | apply below_drew1 | refine below_set ?_ GE355.out) | exact HB.out)) hb)
      clear HO358
      clear BK355
      clear HB
      have HO358 := n0_
      have HO361 := n1_
      have BK355 := n2_
      have HB := n3_
      clear n0_ n1_ n2_ n3_
      (try clear hb)
      (try clear hb2)
      (try clear hk)
      (try clear hi)
      (try clear ho0)
      obtain ⟨Ao10, co10, eo10⟩ := Kd.R_slice HO361.out
      (first | subst eo10 | (injection eo10 with f1_ f2_ f3_; have f4_ := f1_.symm; have f5_ := f3_.symm; clear f1_ f2_ f3_; subst f4_; subst f5_))
      refine hK.out _ _ ⟨(blk_cell BK355.out 0).trans rfl, (blk_cell BK355.out 1).trans rfl, (blk_cell BK355.out 2).trans rfl, (blk_cell BK355.out 3).trans rfl, (blk_cell BK355.out 4).trans rfl, (blk_cell BK355.out 5).trans rfl, (blk_cell BK355.out 6).trans rfl, (blk_cell BK355.out 7).trans rfl, (blk_cell BK355.out 8).trans rfl⟩ (fun hHeld => ?_)
      clear hK K
      refine norm_ (a' := ?_) ?_ ?_
      rotate_left
      · show Act.put _ (some 11) _ = _
        simp only [Act.put, List.setIfInBounds_toArray, List.set_cons_zero, List.set_cons_succ, i64_w, i32_w]
        rfl
      refine one_ (i := 9) (N := some 12) #[true, true, true, true, true, true, true, true, true, true, false] rfl rfl (one_of HT_.out (by kernel_rfl)) (by decide) (fun K hK => ?_)
      refine Kd.R_append_rows_step (Kd.int .u8) (w0 := w) w.heap.size (by rfl) (.tmp 8) (.tmp 11) 23 5 (.int .u8 0) 1 rfl Tryd.underlying23 info5 rfl (by decide) (by omega) v357 t356 t359 _ _ _ (fun k_ => some k_ ≠ (.slice Ao10 t359.length co10 : Value).ownBlock) (fun _ => False) rfl rfl ?aO ?aR (fun _ _ h => h) (fun _ h => h.elim) ?aF ?aB ?aS ?aL ?_
      (case aR => repeat (first | exact (Kd.R_reads' HO361.out).2.2 | (with_reducible refine Kd.C_alloc ?_ _) | (with_reducible refine Kd.C_drewN ?_ _) | (with_reducible refine Kd.C_drew ?_)))
      (case aB => exact (by repeat (first | (with_reducible first | exact HB.out | apply below_alloc | apply pw_below_drewN | apply below_drew1 | refine below_set ?_ GE355.out) | exact HB.out)))
      (case aF => exact (fun k_ hk => Kd.fresh' (Kd.R_lt (by (with_reducible repeat (first | apply Kd.R_alloc | apply Kd.R_drewN | apply Kd.R_drew)); exact HO361.out)) k_ hk))
      (case aO => exact (by (with_reducible repeat (first | apply Kd.R_alloc | apply Kd.R_drewN | apply Kd.R_drew)); exact Kd.R_mono HO358.out (fun _ hk => hk.2)))
      (case aS => exact (below_size (by repeat (first | (with_reducible first | exact HB.out | apply below_alloc | apply pw_below_drewN | apply below_drew1 | refine below_set ?_ GE355.out) | exact HB.out))))
      (case aL => have := LMc4.out; omega)
      intro v363 w9 ho hb hg hat
      rw [← Ny362.out] at ho
      have n0_ := Aside0.mk (blk_grown (g := gb355) (o := .cells #[.string a0_0, .int .i64 a0_1, .string a0_2, .string a0_3, .int .i64 a0_4, .int .u64 a0_5, .int .u64 a0_6, .slice A0_7 l0_7.length c0_7, .slice A0_8 l0_8.length c0_8] 31 (0, 0)) (by (with_reducible repeat (first | refine blk_drewN ?_ _ | refine blk_drew ?_ | refine blk_alloc ?_ _)); exact BK355.out) hg (Kd.R_ne HO358.out BK355.out (by decide)))
      have n1_ := Aside0.mk (Kd.R_after (ok := (fun _ => True)) (by (with_reducible repeat (first | apply Kd.R_alloc | apply Kd.R_drewN | apply Kd.R_drew)); exact HO361.out) hg hat)
      have n2_ := Aside0.mk (hb)
      have n3_ := Aside0.mk (ho)
      clear BK355
      clear HO361
      clear HB
      clear HO358
      have BK355 := n0_
      have HO361 := n1_
      have HB := n2_
      have HO364 := n3_
      clear n0_ n1_ n2_ n3_
      clear ho hb hg hat
      refine hK.out _ _ ⟨(blk_cell BK355.out 0).trans rfl, (blk_cell BK355.out 1).trans rfl, (blk_cell BK355.out 2).trans rfl, (blk_cell BK355.out 3).trans rfl, (blk_cell BK355.out 4).trans rfl, (blk_cell BK355.out 5).trans rfl, (blk_cell BK355.out 6).trans rfl, (blk_cell BK355.out 7).trans rfl, (blk_cell BK355.out 8).trans rfl⟩ (fun hHeld => ?_)
      clear hK K
      refine norm_ (a' := ?_) ?_ ?_
      rotate_left
      · show Act.put _ (some 12) _ = _
        simp only [Act.put, List.setIfInBounds_toArray, List.set_cons_zero, List.set_cons_succ, i64_w, i32_w]
        rfl
      refine pure_ (i := 10) (N := some 2) (v := ?_) (a' := ?_) #[true, true, true, true, true, true, true, true, true, true, true] rfl rfl (any_of HT_.out (by kernel_rfl)) (fun _ _ _ h => h) (Or.inl ⟨by rfl, ?_⟩) ?_ ?_
      rotate_left
      · intro w'
        go_simp
        with_reducible rfl
      rotate_left
      · simp only [Act.put, List.setIfInBounds_toArray, List.set_cons_zero, List.set_cons_succ, i64_w, i32_w]
        rfl
      refine done_ (done_of HT_.out (by kernel_rfl)) ?_
      try go_wp2
      go_ret
      exact ⟨_, by first | rfl | (simp [errW_none, errW_some] <;> rfl) | (simp [*, errW_none, errW_some] <;> rfl), by (with_reducible repeat (first | apply Kd.R_alloc | apply Kd.R_drewN | apply Kd.R_drew)); exact Kd.R_mono HO364.out (fun _ hk => trivial), by repeat (first | (with_reducible first | exact HB.out | apply below_alloc | apply pw_below_drewN | apply below_drew1 | refine below_set ?_ GE355.out) | exact HB.out)⟩
  · rw [if_neg c4] at H
    exact absurd H (by simp)

theorem Grp_spec_DocBytes.all (k : Nat) : Grp_spec_DocBytes.Spec k := by
  induction k using Nat.strongRecOn with
  | _ k ih => exact ⟨spec_DocBytes.step k ih, spec_DocValue.step k ih, spec_DocElem.step k ih⟩
theorem spec_DocBytes.calls (k : Nat) : ∀ (A0 : Option Addr) (c0 : Nat) (l0 : List (S31)) (r : List Int) (w : World) (hr0 : Kd.C k31 w A0 l0.length l0) (hc0 : l0.length ≤ c0) (h : spec_DocBytes.f k l0 = some r),
    Calls Tryd.prog 31 #[.slice A0 l0.length c0] w fun e w' => ∃ v0_ : Value, e = .returned (v0_) ∧ Kd.R (Kd.int .u8) 5 w' w.heap.size (fun _ => True) v0_ r ∧ Below w.heap.size w w' := Grp_spec_DocBytes.get0 (Grp_spec_DocBytes.all k)
theorem spec_DocValue.calls (k : Nat) : ∀ (a0_0 : Int) (a0_1 : ByteArray) (a0_2 : ByteArray) (a0_3 : Int) (a0_4 : Int) (a0_5 : Int) (A0_6 : Option Addr) (c0_6 : Nat) (l0_6 : List Int) (A0_7 : Option Addr) (c0_7 : Nat) (l0_7 : List (S31)) (r : List Int) (w : World) (hr0_6 : Kd.C (Kd.int .u8) w A0_6 l0_6.length l0_6) (hc0_6 : l0_6.length ≤ c0_6) (hr0_7 : Kd.C k31 w A0_7 l0_7.length l0_7) (hc0_7 : l0_7.length ≤ c0_7) (h : spec_DocValue.f k a0_0 a0_1 a0_2 a0_3 a0_4 a0_5 l0_6 l0_7 = some r),
    Calls Tryd.prog 13 #[.agg #[.int .i64 a0_0, .string a0_1, .string a0_2, .int .i64 a0_3, .int .u64 a0_4, .int .u64 a0_5, .slice A0_6 l0_6.length c0_6, .slice A0_7 l0_7.length c0_7]] w fun e w' => ∃ v0_ : Value, e = .returned (v0_) ∧ Kd.R (Kd.int .u8) 5 w' w.heap.size (fun _ => True) v0_ r ∧ Below w.heap.size w w' := Grp_spec_DocBytes.get1 (Grp_spec_DocBytes.all k)
theorem spec_DocElem.calls (k : Nat) : ∀ (a0_0 : ByteArray) (a0_1 : Int) (a0_2 : ByteArray) (a0_3 : ByteArray) (a0_4 : Int) (a0_5 : Int) (a0_6 : Int) (A0_7 : Option Addr) (c0_7 : Nat) (l0_7 : List Int) (A0_8 : Option Addr) (c0_8 : Nat) (l0_8 : List (S31)) (r : List Int) (w : World) (hr0_7 : Kd.C (Kd.int .u8) w A0_7 l0_7.length l0_7) (hc0_7 : l0_7.length ≤ c0_7) (hr0_8 : Kd.C k31 w A0_8 l0_8.length l0_8) (hc0_8 : l0_8.length ≤ c0_8) (h : spec_DocElem.f k a0_0 a0_1 a0_2 a0_3 a0_4 a0_5 a0_6 l0_7 l0_8 = some r),
    Calls Tryd.prog 8 #[.agg #[.string a0_0, .int .i64 a0_1, .string a0_2, .string a0_3, .int .i64 a0_4, .int .u64 a0_5, .int .u64 a0_6, .slice A0_7 l0_7.length c0_7, .slice A0_8 l0_8.length c0_8]] w fun e w' => ∃ v0_ : Value, e = .returned (v0_) ∧ Kd.R (Kd.int .u8) 5 w' w.heap.size (fun _ => True) v0_ r ∧ Below w.heap.size w w' := Grp_spec_DocBytes.get2 (Grp_spec_DocBytes.all k)

-- NOT PRINTED: function 50 (bytealg_IndexByte)

/-! ### bytes_IndexByte: function 39 -/
def bytes_IndexByte.f (l0 : List Int) (a1 : Int) : Option (Int) := some (Lib.indexByte (Lib.bytesOf l0) a1.toNat.toUInt8)
set_option maxHeartbeats 1000000 in
set_option maxRecDepth 100000 in
theorem bytes_IndexByte.calls (A0 : Option Addr) (c0 : Nat) (l0 : List Int) (a1 : Int) (r : Int) (w : World) (hr0 : Kd.C (Kd.int .u8) w A0 l0.length l0) (_hc0 : l0.length ≤ c0) (h : bytes_IndexByte.f l0 a1 = some r) :
    Calls Tryd.prog 39 #[.slice A0 l0.length c0, .int .u8 a1] w fun e w' => e = .returned (.int .i64 r) ∧ Drawn0 w w' := by
  obtain rfl := Option.some.inj h
  clear h
  have HR := Kd.reads_of_C (enc := Value.int .u8) (d := (0 : Int)) (h1 := fun _ => rfl) hr0
  clear hr0
  cases A0 with
  | none =>
    have hl : l0 = [] := by
      rcases Nat.eq_zero_or_pos l0.length with hz | hz
      · exact List.eq_nil_of_length_eq_zero hz
      · obtain ⟨_, he, _⟩ := HR.2.2 hz
        cases he
    subst hl
    go_enter Tryd.func39, Tryd.ntmps39
    go_wp2
    rw [run_callFunc_extern Tryd.func50 (by kernel_rfl) (by kernel_rfl) (by kernel_rfl) (e := Extern.BytealgIndexByte.indexByte) (by kernel_rfl), Lib.run_indexByteNil w]
    simp only [Result.andThen]
    rw [Oper.upon_value]
    go_wp2
    go_ret
    exact ⟨rfl, ⟨0, rfl⟩⟩
  | some a =>
    have hc : ∀ i, i < l0.length → w.cell? (a.add i) = some (.int .u8 (l0.getD i 0)) := by
      intro i hi
      obtain ⟨ad, he, hc⟩ := HR.2.2 (by omega)
      cases he
      exact hc i hi
    clear HR
    go_enter Tryd.func39, Tryd.ntmps39
    go_wp2
    rw [run_callFunc_extern Tryd.func50 (by kernel_rfl) (by kernel_rfl) (by kernel_rfl) (e := Extern.BytealgIndexByte.indexByte) (by kernel_rfl), Lib.run_indexByteAt w a l0.length c0 l0 rfl hc a1]
    simp only [Result.andThen]
    rw [Oper.upon_value]
    go_wp2
    go_ret
    exact ⟨rfl, ⟨0, rfl⟩⟩

-- NOT PRINTED: function 25 (bsoncore_Element_KeyBytesErr)

-- NOT PRINTED: function 23 (bsoncore_Element_KeyErr)

-- NOT PRINTED: function 48 (reflectlite_TypeOf)

-- NOT PRINTED: function 49 (errors_is)

-- NOT PRINTED: function 38 (errors_Is)

-- NOT PRINTED: function 24 (impl_code)

/-! ### impl_ElementKey: function 9 -/
theorem code_nil (w : World) : Calls Tryd.prog 24 #[.nilIface] w fun e w' => e = .returned (.int .i64 0) ∧ Below w.heap.size w w' := by
  go_enter Tryd.func24, Tryd.ntmps24
  go_wp2
  go_ret
  exact ⟨rfl, Below.refl _ _⟩
set_option maxRecDepth 100000 in
theorem kb_calls (A : Option Addr) (c : Nat) (l : List Int) (w : World) (hC : Kd.C (Kd.int .u8) w A l.length l) (hc : l.length ≤ c) (hbig : l.length ≤ 1000000) (i : Nat) (hidx : Lib.indexByte (Lib.bytesOf (l.drop 1)) 0 = (i : Int)) (h1 : i + 1 < l.length) (nm : List Int) (hn : (l.take (i + 1)).drop 1 = nm) :
    Calls Tryd.prog 25 #[.slice A l.length c] w fun e w' => ∃ A1 c1, e = .returned (.tuple #[.slice A1 nm.length c1, .nilIface]) ∧ Kd.C (Kd.int .u8) w' A1 nm.length nm ∧ nm.length ≤ c1 ∧ Below w.heap.size w w' := by
  obtain ⟨i0, hi0, hz0⟩ := Option.map_eq_some_iff.1 info5
  simp only [Prod.mk.injEq] at hz0
  have hcut1 := cut_from (P := Tryd.prog) 57 5 .i64 Tryd.underlying57 hi0 1 hz0.2.1 A l.length c 1 (by omega) (by omega)
  have hcut2 := cut_mid (P := Tryd.prog) 57 5 .i64 .i64 Tryd.underlying57 hi0 1 hz0.2.1 A l.length c 1 ((i : Int) + 1) (by omega) (by omega) (by omega) hc
  have hC1 := Kd.C_drop (m := (1 : Int).toNat) hC (by show 1 ≤ l.length; omega) hc
  have hC2 := Kd.C_mid (lo := (1 : Int).toNat) (hi := ((i : Int) + 1).toNat) hC (by show 1 ≤ _; omega) (by omega) hc
  have e1 : ((i : Int) + 1).toNat = i + 1 := by omega
  have y1 : (l.drop (1 : Int).toNat).length = l.length - (1 : Int).toNat := List.length_drop
  have y2 : ((l.take ((i : Int) + 1).toNat).drop (1 : Int).toNat).length = ((i : Int) + 1).toNat - (1 : Int).toNat := by rw [List.length_drop, List.length_take]; omega
  rw [← y1] at hcut1
  rw [← y2] at hcut2
  obtain ⟨A1, hA1⟩ : ∃ A1, A1 = (if c = (1 : Int).toNat then A else A.map (·.add ((1 : Int).toNat * 1))) := ⟨_, rfl⟩
  obtain ⟨c1, hc1⟩ : ∃ c1, c1 = c - (1 : Int).toNat := ⟨_, rfl⟩
  have hC1' : Kd.C (Kd.int .u8) w A1 (l.drop (1 : Int).toNat).length (l.drop (1 : Int).toNat) := by rw [hA1]; exact hC1
  have hC2' : Kd.C (Kd.int .u8) w A1 ((l.take ((i : Int) + 1).toNat).drop (1 : Int).toNat).length ((l.take ((i : Int) + 1).toNat).drop (1 : Int).toNat) := by rw [hA1]; exact hC2
  have hc1' : (l.drop (1 : Int).toNat).length ≤ c1 := by rw [y1, hc1]; exact Nat.sub_le_sub_right hc _
  have hc2' : ((l.take ((i : Int) + 1).toNat).drop (1 : Int).toNat).length ≤ c1 := by rw [y2, hc1]; exact Nat.sub_le_sub_right (by omega) _
  rw [← hA1, ← hc1] at hcut1 hcut2
  have hidx' : bytes_IndexByte.f (l.drop (1 : Int).toNat) 0 = some (i : Int) := congrArg some hidx
  rw [e1] at hC2' hc2' hcut2
  change (∀ W, _ = Result.ok (Value.slice A1 (List.drop 1 l).length c1) W) at hcut1
  change (∀ W, _ = Result.ok (Value.slice A1 (List.drop 1 (List.take (i + 1) l)).length c1) W) at hcut2
  change Kd.C (Kd.int .u8) w A1 (l.drop 1).length (l.drop 1) at hC1'
  change Kd.C (Kd.int .u8) w A1 ((l.take (i + 1)).drop 1).length ((l.take (i + 1)).drop 1) at hC2'
  change (l.drop 1).length ≤ c1 at hc1'
  change ((l.take (i + 1)).drop 1).length ≤ c1 at hc2'
  change bytes_IndexByte.f (l.drop 1) 0 = some (i : Int) at hidx'
  generalize hL1 : l.drop 1 = L1 at hcut1 hC1' hc1' hidx'
  rw [hn] at hcut2 hC2' hc2'
  clear hL1 hn hA1 hc1 y1 y2 hC1 hC2 e1 hz0 hi0 hidx
  have d0 : decide ((l.length : Int) = 0) = false := decide_eq_false (by omega)
  have d0' : decide (l.length = 0) = false := decide_eq_false (by omega)
  have hne0 : l ≠ [] := by intro h; subst h; simp at h1
  have d1 : decide ((i : Int) = -1) = false := decide_eq_false (by omega)
  have hw : wrap64 ((i : Int) + 1) = (i : Int) + 1 := by unfold wrap64; omega
  have hw' : IntKind.i64.wrap ((i : Int) + 1) = (i : Int) + 1 := by rw [IntKind.wrap_i64]; omega
  go_enter Tryd.func25, Tryd.ntmps25
  go_wp2_with (go_at_call 39; refine (bytes_IndexByte.calls A1 c1 L1 0 i w hC1' hc1' hidx').mono ?_; rintro e w1 ⟨rfl, hD⟩)
  go_ret2
  exact ⟨A1, c1, rfl, Kd.C_below hC2' hD.below, hc2', hD.below⟩
set_option maxRecDepth 100000 in
theorem ke_calls (A : Option Addr) (c : Nat) (l : List Int) (w : World) (hC : Kd.C (Kd.int .u8) w A l.length l) (hc : l.length ≤ c) (hbig : l.length ≤ 1000000) (i : Nat) (hidx : Lib.indexByte (Lib.bytesOf (l.drop 1)) 0 = (i : Int)) (h1 : i + 1 < l.length) (nm : List Int) (hn : (l.take (i + 1)).drop 1 = nm) :
    Calls Tryd.prog 23 #[.slice A l.length c] w fun e w' => e = .returned (.tuple #[.string (strOfNums nm), .nilIface]) ∧ Below w.heap.size w w' := by
  go_enter Tryd.func23, Tryd.ntmps23
  go_wp2_with (go_at_call 25; refine (kb_calls A c l _ hC hc hbig i hidx h1 nm hn).mono ?_; rintro e w1 ⟨A1, c1, rfl, hC1, hc1, hb⟩; have hs := Kd.C_string (P := Tryd.prog) (dst := 9) (c := c1) Tryd.underlying23 Tryd.underlying5 Tryd.underlying9 hC1)
  go_ret2
  exact ⟨rfl, hb⟩
def elemOk (l : List Int) : Bool := decide (l.length ≤ 1000000) && decide (0 ≤ Lib.indexByte (Lib.bytesOf (l.drop 1)) 0) && decide (Lib.indexByte (Lib.bytesOf (l.drop 1)) 0 + 1 < (l.length : Int))
def elemName (l : List Int) : List Int := (l.take ((Lib.indexByte (Lib.bytesOf (l.drop 1)) 0).toNat + 1)).drop 1
theorem elem_ok {l : List Int} (h : elemOk l = true) : ∃ i : Nat, l.length ≤ 1000000 ∧ Lib.indexByte (Lib.bytesOf (l.drop 1)) 0 = (i : Int) ∧ i + 1 < l.length ∧ elemName l = (l.take (i + 1)).drop 1 := by
  simp only [elemOk, Bool.and_eq_true, decide_eq_true_eq] at h
  obtain ⟨⟨h0, h1⟩, h2⟩ := h
  obtain ⟨i, hi⟩ := Int.eq_ofNat_of_zero_le h1
  refine ⟨i, h0, hi, by omega, ?_⟩
  unfold elemName
  rw [hi]
  rfl
def impl_ElementKey.f (l0 : List Int) : Option (ByteArray × Int) := if elemOk l0 = true then some (strOfNums (elemName l0), 0) else none
set_option maxRecDepth 100000 in
theorem impl_ElementKey.calls (A0 : Option Addr) (c0 : Nat) (l0 : List Int) (r1 : ByteArray) (r2 : Int) (w : World) (hr0 : Kd.C (Kd.int .u8) w A0 l0.length l0) (hc0 : l0.length ≤ c0) (h : impl_ElementKey.f l0 = some (r1, r2)) :
    Calls Tryd.prog 9 #[.slice A0 l0.length c0] w fun e w' => e = .returned (.tuple #[.string r1, .int .i64 r2]) ∧ Below w.heap.size w w' := by
  unfold impl_ElementKey.f at h
  by_cases ho : elemOk l0 = true
  · rw [if_pos ho] at h
    simp only [Option.some.injEq, Prod.mk.injEq] at h
    obtain ⟨rfl, rfl⟩ := h
    obtain ⟨i, hbig, hidx, h1, hn⟩ := elem_ok ho
    have hn' := hn.symm
    clear hn ho
    generalize elemName l0 = nm at hn' ⊢
    go_enter Tryd.func9, Tryd.ntmps9
    go_wp2_with (first | (go_at_call 23; refine (ke_calls A0 c0 l0 _ hr0 hc0 hbig i hidx h1 nm hn').mono ?_; rintro e w1 ⟨rfl, hb⟩) | (go_at_call 24; refine (code_nil _).mono ?_; rintro e w2 ⟨rfl, hb2⟩))
    go_ret2
    exact ⟨rfl, below_step hb hb2⟩
  · rw [if_neg ho] at h; cases h

/-! ### impl_own: function 26 -/
def impl_own.f (l0 : List Int) : Option (List Int) := if ([] : List Int).length + l0.length < 140737488355328 then (some (([] : List Int) ++ l0)) else (none)
set_option maxHeartbeats 8000000 in
set_option maxRecDepth 100000 in
theorem impl_own.calls (A0 : Option Addr) (c0 : Nat) (l0 : List Int) (r : List Int) (w : World) (hr0 : Kd.C (Kd.int .u8) w A0 l0.length l0) (hc0 : l0.length ≤ c0) (h : impl_own.f l0 = some r) :
    Calls Tryd.prog 26 #[.slice A0 l0.length c0] w fun e w' => ∃ v0_ : Value, e = .returned (v0_) ∧ Kd.R (Kd.int .u8) 5 w' w.heap.size (fun _ => True) v0_ r ∧ Below w.heap.size w w' := by
  have HR0 := Aside0.mk hr0
  have HC0 := Aside0.mk hc0
  clear hr0 hc0
  have HB := Aside0.mk (Below.refl w.heap.size w)
  have H : (if ([] : List Int).length + l0.length < 140737488355328 then (some (([] : List Int) ++ l0)) else (none)) = some r := h
  clear h
  by_cases c2 : ([] : List Int).length + l0.length < 140737488355328
  · rw [if_pos c2] at H
    have LMc2 := Aside0.mk c2
    clear c2
    obtain ⟨y369, hy369⟩ : ∃ y_ : List Int, y_ = (([] : List Int) ++ l0) := ⟨_, rfl⟩
    replace H : (some y369) = some r := by first | (rw [hy369]; with_reducible exact H) | (have H2_ := (Option.bind_some _ _).symm.trans H; rw [hy369]; with_reducible exact H2_) | (have H2_ := (Option.bind_some _ _).symm.trans H; with_reducible exact H2_) | with_reducible exact H | (rw [hy369]; exact H) | exact H
    have Ny369 := Aside0.mk hy369
    clear hy369
    as_aux_lemma =>
      obtain rfl := Option.some.inj H
      go_enter Tryd.func26, Tryd.ntmps26
      go_wp2_with (first | ((with_reducible refine gate_builtin (b := .append) (xs := #[.const (.slice none 0 0), .tmp 3]) rfl ?_); at_builtin; refine Kd.R_append_rows (Kd.int .u8) (w0 := w) w.heap.size rfl (.const (.slice none 0 0)) (.tmp 3) 23 5 (.int .u8 0) 1 rfl Tryd.underlying23 info5 rfl (by decide) (by omega) (.slice none 0 0) ([] : List Int) l0 _ _ _ (fun _ => True) (fun _ => False) rfl rfl ?aO ?aR (fun _ _ h => h) (fun _ h => h.elim) ?aF ?aB ?aS ?aL ?_; (case aR => repeat (first | exact HR0.out | (with_reducible refine Kd.C_alloc ?_ _) | (with_reducible refine Kd.C_drewN ?_ _) | (with_reducible refine Kd.C_drew ?_))); (case aB => exact (by repeat (first | (with_reducible first | exact HB.out | apply below_alloc | apply pw_below_drewN | apply below_drew1) | exact HB.out))); (case aF => exact (fun _ _ => trivial)); (case aO => exact ((Kd.R_nil _ _ _ _ (fun _ => True)))); (case aS => exact (below_size (by repeat (first | (with_reducible first | exact HB.out | apply below_alloc | apply pw_below_drewN | apply below_drew1) | exact HB.out)))); (case aL => have := LMc2.out; omega); intro v370 w3 ho hb hg hat; rw [← Ny369.out] at ho; have n0_ := Aside0.mk (hb); have n1_ := Aside0.mk (ho); clear HB; have HB := n0_; have HO371 := n1_; clear n0_ n1_; clear ho hb hg hat))
      go_ret
      exact ⟨_, by first | rfl | (simp [errW_none, errW_some] <;> rfl) | (simp [*, errW_none, errW_some] <;> rfl), by (with_reducible repeat (first | apply Kd.R_alloc | apply Kd.R_drewN | apply Kd.R_drew)); exact HO371.out, by repeat (first | (with_reducible first | exact HB.out | apply below_alloc | apply pw_below_drewN | apply below_drew1) | exact HB.out)⟩
  · rw [if_neg c2] at H
    exact absurd H (by simp)

/-! ### impl_ElementKeyBytes: function 10 -/
def impl_ElementKeyBytes.f (l0 : List Int) : Option (List Int × Int) := if elemOk l0 = true then some (elemName l0, 0) else none
set_option maxRecDepth 100000 in
theorem impl_ElementKeyBytes.calls (A0 : Option Addr) (c0 : Nat) (l0 : List Int) (r1 : List Int) (r2 : Int) (w : World) (hr0 : Kd.C (Kd.int .u8) w A0 l0.length l0) (hc0 : l0.length ≤ c0) (h : impl_ElementKeyBytes.f l0 = some (r1, r2)) :
    Calls Tryd.prog 10 #[.slice A0 l0.length c0] w fun e w' => ∃ v1_ : Value, e = .returned (.tuple #[v1_, .int .i64 r2]) ∧ Kd.R (Kd.int .u8) 5 w' w.heap.size (fun _ => True) v1_ r1 ∧ Below w.heap.size w w' := by
  unfold impl_ElementKeyBytes.f at h
  by_cases ho : elemOk l0 = true
  · rw [if_pos ho] at h
    simp only [Option.some.injEq, Prod.mk.injEq] at h
    obtain ⟨rfl, rfl⟩ := h
    obtain ⟨i, hbig, hidx, h1, hn⟩ := elem_ok ho
    have hn' := hn.symm
    have hnl : (elemName l0).length < 140737488355328 := by rw [hn, List.length_drop, List.length_take]; omega
    clear hn ho
    generalize elemName l0 = nm at hn' hnl ⊢
    have hown : impl_own.f nm = some nm := by
      unfold impl_own.f
      rw [if_pos (by simpa using hnl)]
      rfl
    go_enter Tryd.func10, Tryd.ntmps10
    go_wp2_with (first | (go_at_call 25; refine (kb_calls A0 c0 l0 _ hr0 hc0 hbig i hidx h1 nm hn').mono ?_; rintro e w1 ⟨A1, c1, rfl, hC1, hc1, hb⟩) | (go_at_call 26; refine (impl_own.calls A1 c1 nm nm _ hC1 hc1 hown).mono ?_; rintro e w2 ⟨v, rfl, hR, hb2⟩) | (go_at_call 24; refine (code_nil _).mono ?_; rintro e w3 ⟨rfl, hb3⟩))
    go_ret2
    exact ⟨v, rfl, Kd.R_lower (Kd.R_below hR hb3) hb.size, below_step (below_step hb hb2) hb3⟩
  · rw [if_neg ho] at h; cases h

/-! ### binaryutil_ReadI32: function 65 -/
def binaryutil_ReadI32.f (l0 : List Int) : Option (Int × List Int × Bool) := if (l0.length : Int) < 4 then (some (0, l0, false)) else (if 3 < (l0.length : Int) then (if 0 < (l0.length : Int) then (if 1 < (l0.length : Int) then (if 2 < (l0.length : Int) then (if 4 ≤ (l0.length : Int) then (some (Go.bits .or .i32 (Go.bits .or .i32 (Go.bits .or .i32 (wrap32 (rd l0 0)) (wrap32 ((wrap32 (rd l0 1)) * 256))) (wrap32 ((wrap32 (rd l0 2)) * 65536))) (wrap32 ((wrap32 (rd l0 3)) * 16777216)), (l0.drop 4), true)) else (none)) else (none)) else (none)) else (none)) else (none))
set_option maxHeartbeats 8000000 in
set_option maxRecDepth 100000 in
theorem binaryutil_ReadI32.calls (P0_ : Nat → Prop) (A0 : Option Addr) (c0 : Nat) (l0 : List Int) (r1 : Int) (r2 : List Int) (r3 : Bool) (w : World) (hs0 : Kd.V (Kd.int .u8) 5 w w.heap.size (fun k_ => P0_ k_) (.slice A0 l0.length c0) l0) (h : binaryutil_ReadI32.f l0 = some (r1, r2, r3)) :
    Calls Tryd.prog 65 #[.slice A0 l0.length c0] w fun e w' => ∃ v1_ : Value, e = .returned (.tuple #[.int .i32 r1, v1_, .bool r3]) ∧ Kd.V (Kd.int .u8) 5 w' w.heap.size (fun k_ => (P0_ k_ ∨ w.heap.size ≤ k_)) v1_ r2 ∧ Below w.heap.size w w' := by
  have HO0 := Aside0.mk (show Kd.V (Kd.int .u8) 5 w w.heap.size (fun k_ => (P0_ k_ ∨ w.heap.size ≤ k_)) (.slice A0 l0.length c0) l0 from Kd.V_mono hs0 (fun k_ hk => .inl hk))
  have HB := Aside0.mk (Below.refl w.heap.size w)
  have H : (if (l0.length : Int) < 4 then (some (0, l0, false)) else (if 3 < (l0.length : Int) then (if 0 < (l0.length : Int) then (if 1 < (l0.length : Int) then (if 2 < (l0.length : Int) then (if 4 ≤ (l0.length : Int) then (some (Go.bits .or .i32 (Go.bits .or .i32 (Go.bits .or .i32 (wrap32 (rd l0 0)) (wrap32 ((wrap32 (rd l0 1)) * 256))) (wrap32 ((wrap32 (rd l0 2)) * 65536))) (wrap32 ((wrap32 (rd l0 3)) * 16777216)), (l0.drop 4), true)) else (none)) else (none)) else (none)) else (none)) else (none))) = some (r1, r2, r3) := h
  clear h
  by_cases c2 : (l0.length : Int) < 4
  · rw [if_pos c2] at H
    have c2b0 : decide ((l0.length : Int) < 4) = true := decide_eq_true c2
    have c2b1 : decide (l0.length < 4) = true := decide_eq_true (by omega)
    clear c2
    as_aux_lemma =>
      simp only [Option.some.injEq, Prod.mk.injEq] at H
      obtain ⟨rfl, rfl, rfl⟩ := H
      go_enter Tryd.func65, Tryd.ntmps65
      go_wp2
      repeat (go_quiet (fail); try go_wp2)
      go_ret3
      exact ⟨_, by first | rfl | (simp [errW_none, errW_some] <;> rfl) | (simp [*, errW_none, errW_some] <;> rfl), by (with_reducible repeat (first | apply Kd.V_alloc | apply Kd.V_drewN | apply Kd.V_drew)); exact HO0.out, by repeat (first | (with_reducible first | exact HB.out | apply below_alloc | apply pw_below_drewN | apply below_drew1) | exact HB.out)⟩
  · rw [if_neg c2] at H
    have c2b0 : decide ((l0.length : Int) < 4) = false := decide_eq_false c2
    have c2b1 : decide (l0.length < 4) = false := decide_eq_false (by omega)
    clear c2
    by_cases c3 : 3 < (l0.length : Int)
    · rw [if_pos c3] at H
      have c3b0 : decide (3 < (l0.length : Int)) = true := decide_eq_true c3
      have c3b1 : decide (3 < l0.length) = true := decide_eq_true (by omega)
      clear c3
      by_cases c4 : 0 < (l0.length : Int)
      · rw [if_pos c4] at H
        have c4b0 : decide (0 < (l0.length : Int)) = true := decide_eq_true c4
        have c4b1 : decide (0 < l0.length) = true := decide_eq_true (by omega)
        clear c4
        by_cases c5 : 1 < (l0.length : Int)
        · rw [if_pos c5] at H
          have c5b0 : decide (1 < (l0.length : Int)) = true := decide_eq_true c5
          have c5b1 : decide (1 < l0.length) = true := decide_eq_true (by omega)
          clear c5
          by_cases c6 : 2 < (l0.length : Int)
          · rw [if_pos c6] at H
            have c6b0 : decide (2 < (l0.length : Int)) = true := decide_eq_true c6
            have c6b1 : decide (2 < l0.length) = true := decide_eq_true (by omega)
            clear c6
            by_cases c7 : 4 ≤ (l0.length : Int)
            · rw [if_pos c7] at H
              have c7b0 := eq_true c7
              have c7b1 : decide (4 ≤ (l0.length : Int)) = true := decide_eq_true c7
              clear c7
              obtain ⟨y377, hy377⟩ : ∃ y_ : List Int, y_ = (l0.drop 4) := ⟨_, rfl⟩
              replace H : (some (Go.bits .or .i32 (Go.bits .or .i32 (Go.bits .or .i32 (wrap32 (rd l0 0)) (wrap32 ((wrap32 (rd l0 1)) * 256))) (wrap32 ((wrap32 (rd l0 2)) * 65536))) (wrap32 ((wrap32 (rd l0 3)) * 16777216)), y377, true)) = some (r1, r2, r3) := by first | (rw [hy377]; with_reducible exact H) | (have H2_ := (Option.bind_some _ _).symm.trans H; rw [hy377]; with_reducible exact H2_) | (have H2_ := (Option.bind_some _ _).symm.trans H; with_reducible exact H2_) | with_reducible exact H | (rw [hy377]; exact H) | exact H
              have Ny377 := Aside0.mk hy377
              clear hy377
              as_aux_lemma =>
                simp only [Option.some.injEq, Prod.mk.injEq] at H
                obtain ⟨rfl, rfl, rfl⟩ := H
                have p372 : 0 ≤ (3 : Int) := (by omega)
                have q372 : 3 < (l0.length : Int) := of_decide_eq_true (by first | (with_reducible assumption) | assumption)
                obtain ⟨ad372, e372, hx372_0⟩ := Kd.at_int (Kd.V_reads' HO0.out).2.2 3 p372 q372
                cases e372
                (try simp only [show (3 : Int).toNat = 3 from rfl, Nat.reduceMul, Nat.reduceEqDiff, Go.Addr.add, ↓reduceIte] at hx372_0)
                have qi372 : (3 < l0.length) = True := eq_true (by omega)
                (try rw [show ((3 : Int)).toNat = 3 from rfl] at hx372_0)
                replace p372 := eq_true p372
                replace q372 := eq_true q372
                have p373 : 0 ≤ (0 : Int) := (by omega)
                have q373 : 0 < (l0.length : Int) := of_decide_eq_true (by first | (with_reducible assumption) | assumption)
                obtain ⟨ad373, e373, hx373_0⟩ := Kd.at_int (Kd.V_reads' HO0.out).2.2 0 p373 q373
                obtain rfl : ad372 = ad373 := (by injection e373)
                have qi373 : (0 < l0.length) = True := eq_true (by omega)
                (try rw [show ((0 : Int)).toNat = 0 from rfl] at hx373_0)
                (try rw [Addr.add_zero'] at hx373_0)
                replace p373 := eq_true p373
                replace q373 := eq_true q373
                have p374 : 0 ≤ (1 : Int) := (by omega)
                have q374 : 1 < (l0.length : Int) := of_decide_eq_true (by first | (with_reducible assumption) | assumption)
                obtain ⟨ad374, e374, hx374_0⟩ := Kd.at_int (Kd.V_reads' HO0.out).2.2 1 p374 q374
                obtain rfl : ad372 = ad374 := (by injection e374)
                (try simp only [show (1 : Int).toNat = 1 from rfl, Nat.reduceMul, Nat.reduceEqDiff, Go.Addr.add, ↓reduceIte] at hx374_0)
                have qi374 : (1 < l0.length) = True := eq_true (by omega)
                (try rw [show ((1 : Int)).toNat = 1 from rfl] at hx374_0)
                replace p374 := eq_true p374
                replace q374 := eq_true q374
                have p375 : 0 ≤ (2 : Int) := (by omega)
                have q375 : 2 < (l0.length : Int) := of_decide_eq_true (by first | (with_reducible assumption) | assumption)
                obtain ⟨ad375, e375, hx375_0⟩ := Kd.at_int (Kd.V_reads' HO0.out).2.2 2 p375 q375
                obtain rfl : ad372 = ad375 := (by injection e375)
                (try simp only [show (2 : Int).toNat = 2 from rfl, Nat.reduceMul, Nat.reduceEqDiff, Go.Addr.add, ↓reduceIte] at hx375_0)
                have qi375 : (2 < l0.length) = True := eq_true (by omega)
                (try rw [show ((2 : Int)).toNat = 2 from rfl] at hx375_0)
                replace p375 := eq_true p375
                replace q375 := eq_true q375
                have p376 : 0 ≤ (3 : Int) := (by omega)
                have q376 : 3 < (l0.length : Int) := of_decide_eq_true (by first | (with_reducible assumption) | assumption)
                obtain ⟨ad376, e376, hx376_0⟩ := Kd.at_int (Kd.V_reads' HO0.out).2.2 3 p376 q376
                obtain rfl : ad372 = ad376 := (by injection e376)
                (try simp only [show (3 : Int).toNat = 3 from rfl, Nat.reduceMul, Nat.reduceEqDiff, Go.Addr.add, ↓reduceIte] at hx376_0)
                have qi376 : (3 < l0.length) = True := eq_true (by omega)
                (try rw [show ((3 : Int)).toNat = 3 from rfl] at hx376_0)
                replace p376 := eq_true p376
                replace q376 := eq_true q376
                have q8 : (4 : Int) ≤ ((l0.length : Int) : Int) := of_decide_eq_true (by first | (with_reducible assumption) | assumption)
                obtain ⟨i08, hi08, _, hsz8, _⟩ := info_parts info5
                have hroom8 : l0.length ≤ c0 := (Kd.V_reads' HO0.out).2.1
                have hC8 : Kd.F (Kd.int .u8) _ _ (some ad372) l0.length l0 := (Kd.V_at (base := w.heap.size) HO0.out).2.2
                have hcut8 := cut_from (P := Tryd.prog) 23 5 .i64 Tryd.underlying23 hi08 1 hsz8 (some ad372) l0.length c0 4 (by omega) q8
                have hr8 := Kd.F_cut (m := (4 : Int).toNat) (c := c0) hC8 (by omega) hroom8
                obtain ⟨A8, hA8⟩ : ∃ A1, A1 = (if c0 = (4 : Int).toNat then (some ad372) else ((some ad372) : Option Addr).map (·.add ((4 : Int).toNat * 1))) := ⟨_, rfl⟩
                obtain ⟨c8, hc8⟩ : ∃ c1, c1 = c0 - (4 : Int).toNat := ⟨_, rfl⟩
                have hy8 : y377.length = l0.length - (4 : Int).toNat := (by rw [Ny377.out, List.length_drop] <;> omega)
                rw [show (l0).drop (4 : Int).toNat = y377 from Ny377.out.symm] at hr8
                replace hr8 : Kd.F (Kd.int .u8) _ _ A8 y377.length y377 := (by rw [hA8]; exact hr8)
                rw [← hy8, ← hA8, ← hc8] at hcut8
                have HO381 := Aside0.mk (show Kd.V (Kd.int .u8) 5 _ w.heap.size _ (.slice A8 y377.length c8) y377 from Kd.V_mk (by rw [hy8, hc8]; exact Nat.sub_le_sub_right hroom8 _) hr8)
                have HC381 := Aside0.mk (show y377.length ≤ c8 from by rw [hy8, hc8]; exact Nat.sub_le_sub_right hroom8 _)
                clear hr8 hC8 hroom8 hi08 hsz8 hc8
                have KY8 := Aside0.mk hy8
                have KA8 := Aside0.mk hA8
                clear hy8 hA8
                replace q8 := eq_true q8
                go_enter Tryd.func65, Tryd.ntmps65
                go_wp2
                repeat (go_quiet (fail); try go_wp2)
                go_ret3
                exact ⟨_, by first | rfl | (simp [errW_none, errW_some] <;> rfl) | (simp [*, errW_none, errW_some] <;> rfl), by (with_reducible repeat (first | apply Kd.V_alloc | apply Kd.V_drewN | apply Kd.V_drew)); exact HO381.out, by repeat (first | (with_reducible first | exact HB.out | apply below_alloc | apply pw_below_drewN | apply below_drew1) | exact HB.out)⟩
            · rw [if_neg c7] at H
              exact absurd H (by simp)
          · rw [if_neg c6] at H
            exact absurd H (by simp)
        · rw [if_neg c5] at H
          exact absurd H (by simp)
      · rw [if_neg c4] at H
        exact absurd H (by simp)
    · rw [if_neg c3] at H
      exact absurd H (by simp)

/-! ### bsoncore_ReadLength: function 62 -/
def bsoncore_ReadLength.f (l0 : List Int) : Option (Int × List Int × Bool) := (binaryutil_ReadI32.f l0).bind fun bt382 => (if bt382.1 < 0 then (some (bt382.1, bt382.2.1, false)) else (some (bt382.1, bt382.2.1, bt382.2.2)))
set_option maxHeartbeats 8000000 in
set_option maxRecDepth 100000 in
theorem bsoncore_ReadLength.calls (P0_ : Nat → Prop) (A0 : Option Addr) (c0 : Nat) (l0 : List Int) (r1 : Int) (r2 : List Int) (r3 : Bool) (w : World) (hs0 : Kd.V (Kd.int .u8) 5 w w.heap.size (fun k_ => P0_ k_) (.slice A0 l0.length c0) l0) (h : bsoncore_ReadLength.f l0 = some (r1, r2, r3)) :
    Calls Tryd.prog 62 #[.slice A0 l0.length c0] w fun e w' => ∃ v1_ : Value, e = .returned (.tuple #[.int .i32 r1, v1_, .bool r3]) ∧ Kd.V (Kd.int .u8) 5 w' w.heap.size (fun k_ => (P0_ k_ ∨ w.heap.size ≤ k_)) v1_ r2 ∧ Below w.heap.size w w' := by
  have HO0 := Aside0.mk (show Kd.V (Kd.int .u8) 5 w w.heap.size (fun k_ => (P0_ k_ ∨ w.heap.size ≤ k_)) (.slice A0 l0.length c0) l0 from Kd.V_mono hs0 (fun k_ hk => .inl hk))
  have HB := Aside0.mk (Below.refl w.heap.size w)
  have H : ((binaryutil_ReadI32.f l0).bind fun bt382 => (if bt382.1 < 0 then (some (bt382.1, bt382.2.1, false)) else (some (bt382.1, bt382.2.1, bt382.2.2)))) = some (r1, r2, r3) := h
  clear h
  replace H := Option.bind_eq_some_iff.mp H
  obtain ⟨⟨t382, t383, t386⟩, A20, H⟩ := H
  replace H : (if t382 < 0 then (some (t382, t383, false)) else (some (t382, t383, t386))) = some (r1, r2, r3) := H
  have A2 := Aside0.mk A20
  clear A20
  by_cases c3 : t382 < 0
  · rw [if_pos c3] at H
    have c3b0 : decide (t382 < 0) = true := decide_eq_true c3
    clear c3
    as_aux_lemma =>
      simp only [Option.some.injEq, Prod.mk.injEq] at H
      obtain ⟨rfl, rfl, rfl⟩ := H
      go_enter Tryd.func62, Tryd.ntmps62
      go_wp2_with (first | ((with_reducible refine gate_callee (f := 65) rfl ?_); refine goesL_ (some 9) rfl rfl Tryd.func65 (by kernel_rfl) rfl #[.slice A0 l0.length c0] rfl (by (try simp only [List.map_toArray, List.map_cons, List.map_nil]); first | done | rfl | (simp only [List.length_drop, List.length_take]; rfl)) ?_; (with_reducible refine (binaryutil_ReadI32.calls (fun k_ => (P0_ k_ ∨ w.heap.size ≤ k_)) _ _ l0 t382 t383 t386 _ ?side1 A2.out).mono ?_); (case side1 => exact HO0.out); rintro e w4 ⟨v384, rfl, ho0, hb⟩; refine ⟨_, rfl, ?_⟩; have n0_ := Aside0.mk (Kd.V_below (by (with_reducible repeat (first | apply Kd.V_alloc | apply Kd.V_drewN | apply Kd.V_drew)); exact HO0.out) hb); have n1_ := Aside0.mk (Kd.V_lower (Kd.V_mono (ok' := fun k_ => (P0_ k_ ∨ w.heap.size ≤ k_)) ho0 (fun k_ hk_ => Or.elim hk_ (fun hs_ => hs_) (fun hn_ => (.inr (Nat.le_trans (below_size (by repeat (first | (with_reducible first | exact HB.out | apply below_alloc | apply pw_below_drewN | apply below_drew1) | exact HB.out))) hn_))))) (below_size (by repeat (first | (with_reducible first | exact HB.out | apply below_alloc | apply pw_below_drewN | apply below_drew1) | exact HB.out)))); have n2_ := Aside0.mk (below_step (by repeat (first | (with_reducible first | exact HB.out | apply below_alloc | apply pw_below_drewN | apply below_drew1) | exact HB.out)) hb); clear HO0; clear HB; have HO0 := n0_; have HO385 := n1_; have HB := n2_; clear n0_ n1_ n2_; (try clear hb); (try clear hb2); (try clear hk); (try clear hi); (try clear ho0)))
      go_ret3
      exact ⟨_, by first | rfl | (simp [errW_none, errW_some] <;> rfl) | (simp [*, errW_none, errW_some] <;> rfl), by (with_reducible repeat (first | apply Kd.V_alloc | apply Kd.V_drewN | apply Kd.V_drew)); exact HO385.out, by repeat (first | (with_reducible first | exact HB.out | apply below_alloc | apply pw_below_drewN | apply below_drew1) | exact HB.out)⟩
  · rw [if_neg c3] at H
    have c3b0 : decide (t382 < 0) = false := decide_eq_false c3
    clear c3
    as_aux_lemma =>
      simp only [Option.some.injEq, Prod.mk.injEq] at H
      obtain ⟨rfl, rfl, rfl⟩ := H
      go_enter Tryd.func62, Tryd.ntmps62
      go_wp2_with (first | ((with_reducible refine gate_callee (f := 65) rfl ?_); refine goesL_ (some 9) rfl rfl Tryd.func65 (by kernel_rfl) rfl #[.slice A0 l0.length c0] rfl (by (try simp only [List.map_toArray, List.map_cons, List.map_nil]); first | done | rfl | (simp only [List.length_drop, List.length_take]; rfl)) ?_; (with_reducible refine (binaryutil_ReadI32.calls (fun k_ => (P0_ k_ ∨ w.heap.size ≤ k_)) _ _ l0 t382 t383 t386 _ ?side1 A2.out).mono ?_); (case side1 => exact HO0.out); rintro e w5 ⟨v384, rfl, ho0, hb⟩; refine ⟨_, rfl, ?_⟩; have n0_ := Aside0.mk (Kd.V_below (by (with_reducible repeat (first | apply Kd.V_alloc | apply Kd.V_drewN | apply Kd.V_drew)); exact HO0.out) hb); have n1_ := Aside0.mk (Kd.V_lower (Kd.V_mono (ok' := fun k_ => (P0_ k_ ∨ w.heap.size ≤ k_)) ho0 (fun k_ hk_ => Or.elim hk_ (fun hs_ => hs_) (fun hn_ => (.inr (Nat.le_trans (below_size (by repeat (first | (with_reducible first | exact HB.out | apply below_alloc | apply pw_below_drewN | apply below_drew1) | exact HB.out))) hn_))))) (below_size (by repeat (first | (with_reducible first | exact HB.out | apply below_alloc | apply pw_below_drewN | apply below_drew1) | exact HB.out)))); have n2_ := Aside0.mk (below_step (by repeat (first | (with_reducible first | exact HB.out | apply below_alloc | apply pw_below_drewN | apply below_drew1) | exact HB.out)) hb); clear HO0; clear HB; have HO0 := n0_; have HO385 := n1_; have HB := n2_; clear n0_ n1_ n2_; (try clear hb); (try clear hb2); (try clear hk); (try clear hi); (try clear ho0)))
      go_ret3
      exact ⟨_, by first | rfl | (simp [errW_none, errW_some] <;> rfl) | (simp [*, errW_none, errW_some] <;> rfl), by (with_reducible repeat (first | apply Kd.V_alloc | apply Kd.V_drewN | apply Kd.V_drew)); exact HO385.out, by repeat (first | (with_reducible first | exact HB.out | apply below_alloc | apply pw_below_drewN | apply below_drew1) | exact HB.out)⟩

end Go.Proofs.YtndpbbgniflckaaDoor.PEl
