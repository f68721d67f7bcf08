/- Printed by a program of this session (a turned copy of the printer of the kit): contracts of functions of the translation, each with the Lean function that it computes. Conditions: as each theorem states them. -/
import Derived.Test.YtndpbbgniflckaaDoorPBax0
import Derived.Test.YtndpbbgniflckaaDoorPBax1
import Derived.Test.YtndpbbgniflckaaDoorPBax4
import Derived.Test.YtndpbbgniflckaaDoorPBax5
import Derived.Test.YtndpbbgniflckaaDoorPBax6
namespace Go.Proofs.YtndpbbgniflckaaDoor.PBa
open Go.RowKit Go.Proofs.YtndpbbgniflckaaDoorW.PrintWords Go.Proofs.YtndpbbgniflckaaDoorW.PrintLast Go.Proofs.YtndpbbgniflckaaDoorW.PrintMore
attribute [local go_sem] max2_int min2_int max_two min_two max_three min_three max_four min_four   -- for this text's walks alone
set_option linter.unusedVariables false
set_option linter.unusedSimpArgs false

/-! ### spec_DocElem: function 8 -/
def spec_DocElem.T1 : Bool × List (List Nat × List Nat) := (true, [([], []), ([0], [0]), ([1], [1]), ([], []), ([3], [3]), ([2, 4], [2, 4]), ([], []), ([6], [6]), ([7, 5], [7]), ([5, 8, 8], [5, 8]), ([9, 9, 0, 1, 2, 3, 4, 5, 6, 7, 8, 9], [9])])
def spec_DocElem.B1 : List Nat := [0, 1, 3, 0, 8, 31, 0, 64, 255, 511, 1023]
theorem spec_DocElem.tab1 : rtab .any (opsOf Tryd.f8 1) = spec_DocElem.T1 := by kernel_rfl
theorem spec_DocElem.bits1 : waitsOk spec_DocElem.T1.2 spec_DocElem.B1 = true := by kernel_rfl
set_option maxHeartbeats 8000000 in
set_option maxRecDepth 100000 in
theorem spec_DocElem.step (k : Nat) (ih : ∀ j, j < k → Grp_spec_DocBytes.Spec j) : ∀ (a0_0 : ByteArray) (a0_1 : Int) (a0_2 : ByteArray) (a0_3 : ByteArray) (a0_4 : Int) (a0_5 : Int) (a0_6 : Int) (A0_7 : Option Addr) (c0_7 : Nat) (l0_7 : List Int) (A0_8 : Option Addr) (c0_8 : Nat) (l0_8 : List (S31)) (r : List Int) (w : World) (hr0_7 : Kd.C (Kd.int .u8) w A0_7 l0_7.length l0_7) (hc0_7 : l0_7.length ≤ c0_7) (hr0_8 : Kd.C k31 w A0_8 l0_8.length l0_8) (hc0_8 : l0_8.length ≤ c0_8) (h : spec_DocElem.f k a0_0 a0_1 a0_2 a0_3 a0_4 a0_5 a0_6 l0_7 l0_8 = some r),
    Calls Tryd.prog 8 #[.agg #[.string a0_0, .int .i64 a0_1, .string a0_2, .string a0_3, .int .i64 a0_4, .int .u64 a0_5, .int .u64 a0_6, .slice A0_7 l0_7.length c0_7, .slice A0_8 l0_8.length c0_8]] w fun e w' => ∃ v0_ : Value, e = .returned (v0_) ∧ Kd.R (Kd.int .u8) 5 w' w.heap.size (fun _ => True) v0_ r ∧ Below w.heap.size w w' := by
  intro a0_0 a0_1 a0_2 a0_3 a0_4 a0_5 a0_6 A0_7 c0_7 l0_7 A0_8 c0_8 l0_8 r w hr0_7 hc0_7 hr0_8 hc0_8 h
  cases k with
  | zero => exact absurd h (by simp [spec_DocElem.f])
  | succ k =>
  simp only [spec_DocElem.f] at h
  have hu31 := Tryd.underlying31
  have hu26 := Tryd.underlying26
  have HR0_7 := Aside0.mk hr0_7
  have HC0_7 := Aside0.mk hc0_7
  clear hr0_7 hc0_7
  have HR0_8 := Aside0.mk hr0_8
  have HC0_8 := Aside0.mk hc0_8
  clear hr0_8 hc0_8
  have HB := Aside0.mk (Below.refl w.heap.size w)
  have H : ((spec_DocHead.f a0_1 a0_0).bind fun t355 => ((spec_DocValue.f k a0_1 a0_2 a0_3 a0_4 a0_5 a0_6 l0_7 l0_8).bind fun t358 => (if t355.length + t358.length < 140737488355328 then (some (t355 ++ t358)) else (none)))) = some r := h
  clear h
  replace H := Option.bind_eq_some_iff.mp H
  obtain ⟨t355, A20, H⟩ := H
  replace H : ((spec_DocValue.f k a0_1 a0_2 a0_3 a0_4 a0_5 a0_6 l0_7 l0_8).bind fun t358 => (if t355.length + t358.length < 140737488355328 then (some (t355 ++ t358)) else (none))) = some r := H
  have A2 := Aside0.mk A20
  clear A20
  replace H := Option.bind_eq_some_iff.mp H
  obtain ⟨t358, A30, H⟩ := H
  replace H : (if t355.length + t358.length < 140737488355328 then (some (t355 ++ t358)) else (none)) = some r := H
  have A3 := Aside0.mk A30
  clear A30
  by_cases c4 : t355.length + t358.length < 140737488355328
  · rw [if_pos c4] at H
    have LMc4 := Aside0.mk c4
    clear c4
    obtain ⟨y361, hy361⟩ : ∃ y_ : List Int, y_ = (t355 ++ t358) := ⟨_, rfl⟩
    replace H : (some y361) = some r := by first | (rw [hy361]; with_reducible exact H) | (have H2_ := (Option.bind_some _ _).symm.trans H; rw [hy361]; with_reducible exact H2_) | (have H2_ := (Option.bind_some _ _).symm.trans H; with_reducible exact H2_) | with_reducible exact H | (rw [hy361]; exact H) | exact H
    have Ny361 := Aside0.mk hy361
    clear hy361
    focus
      obtain rfl := Option.some.inj H
      go_enter Tryd.func8, Tryd.ntmps8
      try go_wp2_with (first | ((with_reducible refine gate_dst (N := 1) rfl ?_); refine box_event ?hg (N := 1) ?hd (cs := #[.string a0_0, .int .i64 a0_1, .string a0_2, .string a0_3, .int .i64 a0_4, .int .u64 a0_5, .int .u64 a0_6, .slice A0_7 l0_7.length c0_7, .slice A0_8 l0_8.length c0_8]) (t := 31) ?hr ?_; (case hd => rfl); (case hg => rfl); (case hr => first | (go_simp; done) | (go_simp; rfl)); intro gb354 hg w5 hbox hb; have n0_ := Aside0.mk (below_step (by repeat (first | (with_reducible first | exact HB.out | apply below_alloc | apply pw_below_drewN | apply below_drew1) | exact HB.out)) hb); have n1_ := Aside0.mk (hbox); have n2_ := Aside0.mk ((by rw [hg]; exact (below_size (by repeat (first | (with_reducible first | exact HB.out | apply below_alloc | apply pw_below_drewN | apply below_drew1) | exact HB.out))) : w.heap.size ≤ gb354)); have n3_ := Aside0.mk ((by rw [hg]; exact (below_size (by repeat (first | (with_reducible first | exact HB.out | apply below_alloc | apply pw_below_drewN | apply below_drew1) | exact HB.out))) : w.heap.size ≤ gb354)); clear HB; have HB := n0_; have BK354 := n1_; have GW354 := n2_; have GE354 := n3_; clear n0_ n1_ n2_ n3_; clear hb hbox hg))
      have n0_ := Aside0.mk (blk_drew BK354.out)
      have n1_ := Aside0.mk (below_drew1 HB.out)
      clear BK354
      clear HB
      have BK354 := n0_
      have HB := n1_
      clear n0_ n1_
      refine start_ (n := 11) (S := fun w' => w'.cell? ⟨gb354, 0, none⟩ = some (.string a0_0) ∧ w'.cell? ⟨gb354, 1, none⟩ = some (.int .i64 a0_1) ∧ w'.cell? ⟨gb354, 2, none⟩ = some (.string a0_2) ∧ w'.cell? ⟨gb354, 3, none⟩ = some (.string a0_3) ∧ w'.cell? ⟨gb354, 4, none⟩ = some (.int .i64 a0_4) ∧ w'.cell? ⟨gb354, 5, none⟩ = some (.int .u64 a0_5) ∧ w'.cell? ⟨gb354, 6, none⟩ = some (.int .u64 a0_6) ∧ w'.cell? ⟨gb354, 7, none⟩ = some (.slice A0_7 l0_7.length c0_7) ∧ w'.cell? ⟨gb354, 8, none⟩ = some (.slice A0_8 l0_8.length c0_8)) (ds := []) #[false, false, false, false, false, false, false, false, false, false, false] (by kernel_rfl) rfl rfl ⟨(blk_cell BK354.out 0).trans rfl, (blk_cell BK354.out 1).trans rfl, (blk_cell BK354.out 2).trans rfl, (blk_cell BK354.out 3).trans rfl, (blk_cell BK354.out 4).trans rfl, (blk_cell BK354.out 5).trans rfl, (blk_cell BK354.out 6).trans rfl, (blk_cell BK354.out 7).trans rfl, (blk_cell BK354.out 8).trans rfl⟩ (fun hHeld => ?_); refine with_tabW spec_DocElem.tab1 spec_DocElem.bits1 (fun HT_ HW_ => ?_)
      generalize w5.drew = w6 at BK354 HB hHeld ⊢
      refine pure_ (i := 0) (N := some 3) (v := ?_) (a' := ?_) #[true, false, false, false, false, false, false, false, false, false, false] rfl rfl (any_of HT_.out (by kernel_rfl)) (fun _ _ _ h => h) (Or.inl ⟨by rfl, ?_⟩) ?_ ?_
      rotate_left
      · intro w'
        go_simp
        with_reducible rfl
      rotate_left
      · simp only [Act.put, List.setIfInBounds_toArray, List.set_cons_zero, List.set_cons_succ, i64_w, i32_w]
        rfl
      refine pure_ (i := 1) (N := some 4) (v := ?_) (a' := ?_) #[true, true, false, false, false, false, false, false, false, false, false] rfl rfl (any_of HT_.out (by kernel_rfl)) (fun _ _ _ h => h) (Or.inl ⟨by rfl, ?_⟩) ?_ ?_
      rotate_left
      · intro w'
        go_simp
        with_reducible rfl
      rotate_left
      · simp only [Act.put, List.setIfInBounds_toArray, List.set_cons_zero, List.set_cons_succ, i64_w, i32_w]
        rfl
      refine pure_ (i := 3) (N := some 6) (v := ?_) (a' := ?_) #[true, true, false, true, false, false, false, false, false, false, false] rfl rfl (any_of HT_.out (by kernel_rfl)) (fun _ _ _ h => h) (Or.inl ⟨by rfl, ?_⟩) ?_ ?_
      rotate_left
      · intro w'
        go_simp
        with_reducible rfl
      rotate_left
      · simp only [Act.put, List.setIfInBounds_toArray, List.set_cons_zero, List.set_cons_succ, i64_w, i32_w]
        rfl
      refine pure_ (i := 6) (N := some 9) (v := ?_) (a' := ?_) #[true, true, false, true, false, false, true, false, false, false, false] rfl rfl (any_of HT_.out (by kernel_rfl)) (fun _ _ _ h => h) (Or.inl ⟨by rfl, ?_⟩) ?_ ?_
      rotate_left
      · intro w'
        go_simp
        with_reducible rfl
      rotate_left
      · simp only [Act.put, List.setIfInBounds_toArray, List.set_cons_zero, List.set_cons_succ, i64_w, i32_w]
        rfl
      refine take_ (i := 2) (N := some 5) (v := ?_) (a' := ?_) #[true, true, true, true, false, false, true, false, false, false, false] rfl rfl (take_ofW HT_.out HW_.out (by kernel_rfl)) (fun _ _ _ h => h) (Or.inl ⟨by rfl, ?_⟩) hHeld ?_ ?_
      rotate_left
      · rintro w' ⟨s0, s1, s2, s3, s4, s5, s6, s7, s8⟩
        go_simp
        with_reducible rfl
      rotate_left
      · simp only [Act.put, List.setIfInBounds_toArray, List.set_cons_zero, List.set_cons_succ, i64_w, i32_w]
        rfl
      refine take_ (i := 4) (N := some 7) (v := ?_) (a' := ?_) #[true, true, true, true, true, false, true, false, false, false, false] rfl rfl (take_ofW HT_.out HW_.out (by kernel_rfl)) (fun _ _ _ h => h) (Or.inl ⟨by rfl, ?_⟩) hHeld ?_ ?_
      rotate_left
      · rintro w' ⟨s0, s1, s2, s3, s4, s5, s6, s7, s8⟩
        go_simp
        with_reducible rfl
      rotate_left
      · simp only [Act.put, List.setIfInBounds_toArray, List.set_cons_zero, List.set_cons_succ, i64_w, i32_w]
        rfl
      refine take_ (i := 7) (N := some 10) (v := ?_) (a' := ?_) #[true, true, true, true, true, false, true, true, false, false, false] rfl rfl (take_ofW HT_.out HW_.out (by kernel_rfl)) (fun _ _ _ h => h) (Or.inl ⟨by rfl, ?_⟩) hHeld ?_ ?_
      rotate_left
      · rintro w' ⟨s0, s1, s2, s3, s4, s5, s6, s7, s8⟩
        go_simp
        with_reducible rfl
      rotate_left
      · simp only [Act.put, List.setIfInBounds_toArray, List.set_cons_zero, List.set_cons_succ, i64_w, i32_w]
        rfl
      refine one_ (i := 5) (N := some 8) #[true, true, true, true, true, true, true, true, false, false, false] rfl rfl (one_of HT_.out (by kernel_rfl)) (by decide) (fun K hK => ?_)
      refine goes_ Tryd.func22 (by kernel_rfl) rfl #[.int .i64 a0_1, .string a0_0] (by rfl) rfl rfl (by (try simp only [List.map_toArray, List.map_cons, List.map_nil]); first | done | rfl | (simp only [List.length_drop, List.length_take]; rfl)) ?_
      with_reducible refine (spec_DocHead.calls a0_1 a0_0 t355 _ A2.out).mono ?_
      rintro e w7 ⟨v356, rfl, ho0, hb⟩
      refine ⟨_, rfl, ?_⟩
      have n0_ := Aside0.mk (Kd.R_lower ho0 (below_size (by repeat (first | (with_reducible first | exact HB.out | apply below_alloc | apply pw_below_drewN | apply below_drew1 | refine below_set ?_ GE354.out) | exact HB.out))))
      have n1_ := Aside0.mk (blk_below (g := gb354) (o := .cells #[.string a0_0, .int .i64 a0_1, .string a0_2, .string a0_3, .int .i64 a0_4, .int .u64 a0_5, .int .u64 a0_6, .slice A0_7 l0_7.length c0_7, .slice A0_8 l0_8.length c0_8] 31 (0, 0)) (by (with_reducible repeat (first | refine blk_drewN ?_ _ | refine blk_drew ?_ | refine blk_alloc ?_ _)); exact BK354.out) hb)
      have n2_ := Aside0.mk (below_step (by repeat (first | (with_reducible first | exact HB.out | apply below_alloc | apply pw_below_drewN | apply below_drew1 | refine below_set ?_ GE354.out) | exact HB.out)) hb)
      clear BK354
      clear HB
      have HO357 := n0_
      have BK354 := n1_
      have HB := n2_
      clear n0_ n1_ n2_
      (try clear hb)
      (try clear hb2)
      (try clear hk)
      (try clear hi)
      (try clear ho0)
      refine hK.out _ _ ⟨(blk_cell BK354.out 0).trans rfl, (blk_cell BK354.out 1).trans rfl, (blk_cell BK354.out 2).trans rfl, (blk_cell BK354.out 3).trans rfl, (blk_cell BK354.out 4).trans rfl, (blk_cell BK354.out 5).trans rfl, (blk_cell BK354.out 6).trans rfl, (blk_cell BK354.out 7).trans rfl, (blk_cell BK354.out 8).trans rfl⟩ (fun hHeld => ?_)
      clear hK K
      refine norm_ (a' := ?_) ?_ ?_
      rotate_left
      · show Act.put _ (some 8) _ = _
        simp only [Act.put, List.setIfInBounds_toArray, List.set_cons_zero, List.set_cons_succ, i64_w, i32_w]
        rfl
      refine one_ (i := 8) (N := some 11) #[true, true, true, true, true, true, true, true, true, false, false] rfl rfl (one_of HT_.out (by kernel_rfl)) (by decide) (fun K hK => ?_)
      refine goes_ Tryd.func13 (by kernel_rfl) rfl #[.agg #[.int .i64 a0_1, .string a0_2, .string a0_3, .int .i64 a0_4, .int .u64 a0_5, .int .u64 a0_6, .slice A0_7 l0_7.length c0_7, .slice A0_8 l0_8.length c0_8]] (by rfl) rfl rfl (by (try simp only [List.map_toArray, List.map_cons, List.map_nil]); first | done | rfl | (simp only [List.length_drop, List.length_take]; rfl)) ?_
      with_reducible refine (Grp_spec_DocBytes.get1 (ih k (by omega)) a0_1 a0_2 a0_3 a0_4 a0_5 a0_6 _ _ l0_7 _ _ l0_8 t358 _ ?side1 ?side2 ?side3 ?side4 A3.out).mono ?_
      (case side1 => repeat (first | exact (Kd.C_below HR0_7.out HB.out) | (with_reducible refine Kd.C_alloc ?_ _) | (with_reducible refine Kd.C_drewN ?_ _) | (with_reducible refine Kd.C_drew ?_)))
      (case side2 => exact HC0_7.out)
      (case side3 => repeat (first | exact (Kd.C_below HR0_8.out HB.out) | (with_reducible refine Kd.C_alloc ?_ _) | (with_reducible refine Kd.C_drewN ?_ _) | (with_reducible refine Kd.C_drew ?_)))
      (case side4 => exact HC0_8.out)
      rintro e w8 ⟨v359, rfl, ho0, hb⟩
      refine ⟨_, rfl, ?_⟩
      have n0_ := Aside0.mk (Kd.R_elder' (by (with_reducible repeat (first | apply Kd.R_alloc | apply Kd.R_drewN | apply Kd.R_drew)); exact HO357.out) (Kd.R_base ho0) hb)
      have n1_ := Aside0.mk (Kd.R_lower (Kd.R_new' ho0 (Kd.R_lt (by (with_reducible repeat (first | apply Kd.R_alloc | apply Kd.R_drewN | apply Kd.R_drew)); exact HO357.out))) (below_size (by repeat (first | (with_reducible first | exact HB.out | apply below_alloc | apply pw_below_drewN | apply below_drew1 | refine below_set ?_ GE354.out) | exact HB.out))))
      have n2_ := Aside0.mk (blk_below (g := gb354) (o := .cells #[.string a0_0, .int .i64 a0_1, .string a0_2, .string a0_3, .int .i64 a0_4, .int .u64 a0_5, .int .u64 a0_6, .slice A0_7 l0_7.length c0_7, .slice A0_8 l0_8.length c0_8] 31 (0, 0)) (by (with_reducible repeat (first | refine blk_drewN ?_ _ | refine blk_drew ?_ | refine blk_alloc ?_ _)); exact BK354.out) hb)
      have n3_ := Aside0.mk (below_step (by repeat (first | (with_reducible first | exact HB.out | apply below_alloc | apply pw_below_drewN | apply below_drew1 | refine below_set ?_ GE354.out) | exact HB.out)) hb)
      clear HO357
      clear BK354
      clear HB
      have HO357 := n0_
      have HO360 := n1_
      have BK354 := n2_
      have HB := n3_
      clear n0_ n1_ n2_ n3_
      (try clear hb)
      (try clear hb2)
      (try clear hk)
      (try clear hi)
      (try clear ho0)
      obtain ⟨Ao10, co10, eo10⟩ := Kd.R_slice HO360.out
      (first | subst eo10 | (injection eo10 with f1_ f2_ f3_; have f4_ := f1_.symm; have f5_ := f3_.symm; clear f1_ f2_ f3_; subst f4_; subst f5_))
      refine hK.out _ _ ⟨(blk_cell BK354.out 0).trans rfl, (blk_cell BK354.out 1).trans rfl, (blk_cell BK354.out 2).trans rfl, (blk_cell BK354.out 3).trans rfl, (blk_cell BK354.out 4).trans rfl, (blk_cell BK354.out 5).trans rfl, (blk_cell BK354.out 6).trans rfl, (blk_cell BK354.out 7).trans rfl, (blk_cell BK354.out 8).trans rfl⟩ (fun hHeld => ?_)
      clear hK K
      refine norm_ (a' := ?_) ?_ ?_
      rotate_left
      · show Act.put _ (some 11) _ = _
        simp only [Act.put, List.setIfInBounds_toArray, List.set_cons_zero, List.set_cons_succ, i64_w, i32_w]
        rfl
      refine one_ (i := 9) (N := some 12) #[true, true, true, true, true, true, true, true, true, true, false] rfl rfl (one_of HT_.out (by kernel_rfl)) (by decide) (fun K hK => ?_)
      refine Kd.R_append_rows_step (Kd.int .u8) (w0 := w) w.heap.size (by rfl) (.tmp 8) (.tmp 11) 23 5 (.int .u8 0) 1 rfl Tryd.underlying23 info5 rfl (by decide) (by omega) v356 t355 t358 _ _ _ (fun k_ => some k_ ≠ (.slice Ao10 t358.length co10 : Value).ownBlock) (fun _ => False) rfl rfl ?aO ?aR (fun _ _ h => h) (fun _ h => h.elim) ?aF ?aB ?aS ?aL ?_
      (case aR => repeat (first | exact (Kd.R_reads' HO360.out).2.2 | (with_reducible refine Kd.C_alloc ?_ _) | (with_reducible refine Kd.C_drewN ?_ _) | (with_reducible refine Kd.C_drew ?_)))
      (case aB => exact (by repeat (first | (with_reducible first | exact HB.out | apply below_alloc | apply pw_below_drewN | apply below_drew1 | refine below_set ?_ GE354.out) | exact HB.out)))
      (case aF => exact (fun k_ hk => Kd.fresh' (Kd.R_lt (by (with_reducible repeat (first | apply Kd.R_alloc | apply Kd.R_drewN | apply Kd.R_drew)); exact HO360.out)) k_ hk))
      (case aO => exact (by (with_reducible repeat (first | apply Kd.R_alloc | apply Kd.R_drewN | apply Kd.R_drew)); exact Kd.R_mono HO357.out (fun _ hk => hk.2)))
      (case aS => exact (below_size (by repeat (first | (with_reducible first | exact HB.out | apply below_alloc | apply pw_below_drewN | apply below_drew1 | refine below_set ?_ GE354.out) | exact HB.out))))
      (case aL => have := LMc4.out; omega)
      intro v362 w9 ho hb hg hat
      rw [← Ny361.out] at ho
      have n0_ := Aside0.mk (blk_grown (g := gb354) (o := .cells #[.string a0_0, .int .i64 a0_1, .string a0_2, .string a0_3, .int .i64 a0_4, .int .u64 a0_5, .int .u64 a0_6, .slice A0_7 l0_7.length c0_7, .slice A0_8 l0_8.length c0_8] 31 (0, 0)) (by (with_reducible repeat (first | refine blk_drewN ?_ _ | refine blk_drew ?_ | refine blk_alloc ?_ _)); exact BK354.out) hg (Kd.R_ne HO357.out BK354.out (by decide)))
      have n1_ := Aside0.mk (Kd.R_after (ok := (fun _ => True)) (by (with_reducible repeat (first | apply Kd.R_alloc | apply Kd.R_drewN | apply Kd.R_drew)); exact HO360.out) hg hat)
      have n2_ := Aside0.mk (hb)
      have n3_ := Aside0.mk (ho)
      clear BK354
      clear HO360
      clear HB
      clear HO357
      have BK354 := n0_
      have HO360 := n1_
      have HB := n2_
      have HO363 := n3_
      clear n0_ n1_ n2_ n3_
      clear ho hb hg hat
      refine hK.out _ _ ⟨(blk_cell BK354.out 0).trans rfl, (blk_cell BK354.out 1).trans rfl, (blk_cell BK354.out 2).trans rfl, (blk_cell BK354.out 3).trans rfl, (blk_cell BK354.out 4).trans rfl, (blk_cell BK354.out 5).trans rfl, (blk_cell BK354.out 6).trans rfl, (blk_cell BK354.out 7).trans rfl, (blk_cell BK354.out 8).trans rfl⟩ (fun hHeld => ?_)
      clear hK K
      refine norm_ (a' := ?_) ?_ ?_
      rotate_left
      · show Act.put _ (some 12) _ = _
        simp only [Act.put, List.setIfInBounds_toArray, List.set_cons_zero, List.set_cons_succ, i64_w, i32_w]
        rfl
      refine pure_ (i := 10) (N := some 2) (v := ?_) (a' := ?_) #[true, true, true, true, true, true, true, true, true, true, true] rfl rfl (any_of HT_.out (by kernel_rfl)) (fun _ _ _ h => h) (Or.inl ⟨by rfl, ?_⟩) ?_ ?_
      rotate_left
      · intro w'
        go_simp
        with_reducible rfl
      rotate_left
      · simp only [Act.put, List.setIfInBounds_toArray, List.set_cons_zero, List.set_cons_succ, i64_w, i32_w]
        rfl
      refine done_ (done_of HT_.out (by kernel_rfl)) ?_
      try go_wp2
      go_ret
      exact ⟨_, by first | rfl | (simp [errW_none, errW_some] <;> rfl) | (simp [*, errW_none, errW_some] <;> rfl), by (with_reducible repeat (first | apply Kd.R_alloc | apply Kd.R_drewN | apply Kd.R_drew)); exact Kd.R_mono HO363.out (fun _ hk => trivial), by repeat (first | (with_reducible first | exact HB.out | apply below_alloc | apply pw_below_drewN | apply below_drew1 | refine below_set ?_ GE354.out) | exact HB.out)⟩
  · rw [if_neg c4] at H
    exact absurd H (by simp)

theorem Grp_spec_DocBytes.all (k : Nat) : Grp_spec_DocBytes.Spec k := by
  induction k using Nat.strongRecOn with
  | _ k ih => exact ⟨spec_DocBytes.step k ih, spec_DocValue.step k ih, spec_DocElem.step k ih⟩
theorem spec_DocBytes.calls (k : Nat) : ∀ (A0 : Option Addr) (c0 : Nat) (l0 : List (S31)) (r : List Int) (w : World) (hr0 : Kd.C k31 w A0 l0.length l0) (hc0 : l0.length ≤ c0) (h : spec_DocBytes.f k l0 = some r),
    Calls Tryd.prog 31 #[.slice A0 l0.length c0] w fun e w' => ∃ v0_ : Value, e = .returned (v0_) ∧ Kd.R (Kd.int .u8) 5 w' w.heap.size (fun _ => True) v0_ r ∧ Below w.heap.size w w' := Grp_spec_DocBytes.get0 (Grp_spec_DocBytes.all k)
theorem spec_DocValue.calls (k : Nat) : ∀ (a0_0 : Int) (a0_1 : ByteArray) (a0_2 : ByteArray) (a0_3 : Int) (a0_4 : Int) (a0_5 : Int) (A0_6 : Option Addr) (c0_6 : Nat) (l0_6 : List Int) (A0_7 : Option Addr) (c0_7 : Nat) (l0_7 : List (S31)) (r : List Int) (w : World) (hr0_6 : Kd.C (Kd.int .u8) w A0_6 l0_6.length l0_6) (hc0_6 : l0_6.length ≤ c0_6) (hr0_7 : Kd.C k31 w A0_7 l0_7.length l0_7) (hc0_7 : l0_7.length ≤ c0_7) (h : spec_DocValue.f k a0_0 a0_1 a0_2 a0_3 a0_4 a0_5 l0_6 l0_7 = some r),
    Calls Tryd.prog 13 #[.agg #[.int .i64 a0_0, .string a0_1, .string a0_2, .int .i64 a0_3, .int .u64 a0_4, .int .u64 a0_5, .slice A0_6 l0_6.length c0_6, .slice A0_7 l0_7.length c0_7]] w fun e w' => ∃ v0_ : Value, e = .returned (v0_) ∧ Kd.R (Kd.int .u8) 5 w' w.heap.size (fun _ => True) v0_ r ∧ Below w.heap.size w w' := Grp_spec_DocBytes.get1 (Grp_spec_DocBytes.all k)
theorem spec_DocElem.calls (k : Nat) : ∀ (a0_0 : ByteArray) (a0_1 : Int) (a0_2 : ByteArray) (a0_3 : ByteArray) (a0_4 : Int) (a0_5 : Int) (a0_6 : Int) (A0_7 : Option Addr) (c0_7 : Nat) (l0_7 : List Int) (A0_8 : Option Addr) (c0_8 : Nat) (l0_8 : List (S31)) (r : List Int) (w : World) (hr0_7 : Kd.C (Kd.int .u8) w A0_7 l0_7.length l0_7) (hc0_7 : l0_7.length ≤ c0_7) (hr0_8 : Kd.C k31 w A0_8 l0_8.length l0_8) (hc0_8 : l0_8.length ≤ c0_8) (h : spec_DocElem.f k a0_0 a0_1 a0_2 a0_3 a0_4 a0_5 a0_6 l0_7 l0_8 = some r),
    Calls Tryd.prog 8 #[.agg #[.string a0_0, .int .i64 a0_1, .string a0_2, .string a0_3, .int .i64 a0_4, .int .u64 a0_5, .int .u64 a0_6, .slice A0_7 l0_7.length c0_7, .slice A0_8 l0_8.length c0_8]] w fun e w' => ∃ v0_ : Value, e = .returned (v0_) ∧ Kd.R (Kd.int .u8) 5 w' w.heap.size (fun _ => True) v0_ r ∧ Below w.heap.size w w' := Grp_spec_DocBytes.get2 (Grp_spec_DocBytes.all k)

/-! ### laws_docArray: function 15 -/
def laws_docArray.l0 : Nat → List (S26) → Int → Int → ByteArray → ByteArray → Int → Int → Int → List (S31) → Option (Int × ByteArray × ByteArray × Int × Int × Int × List Int × (List (S31)))
  | 0, _, _, _, _, _, _, _, _, _ => none
  | k + 1, x0, x4, x366000, x366001, x366002, x366003, x366004, x366005, x366007 => if x4 < (x0.length : Int) then ((spec_DocDigits.f k x4).bind fun t366 => (if 0 ≤ x4 then (if x366007.length < 1099511627776 then (laws_docArray.l0 k x0 (wrap64 (x4 + 1)) x366000 x366001 x366002 x366003 x366004 x366005 (x366007 ++ [(⟨t366, (⟨(rd_T26 x0 x4).f0, (rd_T26 x0 x4).f1, (rd_T26 x0 x4).f2, (rd_T26 x0 x4).f3, (rd_T26 x0 x4).f4, (rd_T26 x0 x4).f5, (rd_T26 x0 x4).f6, (rd_T26 x0 x4).f7⟩ : S26)⟩ : S31)])) else (none)) else (none))) else (some (x366000, x366001, x366002, x366003, x366004, x366005, ([] : List Int), x366007))
def laws_docArray.f (k : Nat) (l0 : List (S26)) : Option (Int × ByteArray × ByteArray × Int × Int × Int × List Int × (List (S31))) := laws_docArray.l0 k l0 0 4 (⟨#[]⟩ : ByteArray) (⟨#[]⟩ : ByteArray) 0 0 0 ([] : List (S31))
theorem laws_docArray.mono_l : ∀ k, (∀ y0 y1 y2 y3 y4 y5 y6 y7 y8, LeO (laws_docArray.l0 k y0 y1 y2 y3 y4 y5 y6 y7 y8) (laws_docArray.l0 (k + 1) y0 y1 y2 y3 y4 y5 y6 y7 y8))
  | 0 => fun _ _ _ _ _ _ _ _ _ r h => by simp [laws_docArray.l0] at h
  | k + 1 => by
    have ih0 := laws_docArray.mono_l k
    · intro y0 y1 y2 y3 y4 y5 y6 y7 y8
      unfold laws_docArray.l0
      repeat' first
      | (with_reducible exact ih0 _ _ _ _ _ _ _ _ _)
      | (with_reducible exact spec_DocDigits.mono _ _)
      | (with_reducible exact LeO.refl _)
      | (with_reducible exact LeO.none _)
      | (with_reducible refine LeO.ite ?_ ?_)
      | (with_reducible refine LeO.bind ?_ (fun _ => ?_))
      | exact ih0 _ _ _ _ _ _ _ _ _
      | exact spec_DocDigits.mono _ _
      | exact LeO.none _
      | refine LeO.ite ?_ ?_
      | refine LeO.bind ?_ (fun _ => ?_)
theorem laws_docArray.mono : ∀ a0 k, LeO (laws_docArray.f k a0) (laws_docArray.f (k + 1) a0) := by
  intro a0 k
  have ih0 := laws_docArray.mono_l k
  unfold laws_docArray.f
  repeat' first
      | (with_reducible exact ih0 _ _ _ _ _ _ _ _ _)
      | (with_reducible exact spec_DocDigits.mono _ _)
      | (with_reducible exact LeO.refl _)
      | (with_reducible exact LeO.none _)
      | (with_reducible refine LeO.ite ?_ ?_)
      | (with_reducible refine LeO.bind ?_ (fun _ => ?_))
      | exact ih0 _ _ _ _ _ _ _ _ _
      | exact spec_DocDigits.mono _ _
      | exact LeO.none _
      | refine LeO.ite ?_ ?_
      | refine LeO.bind ?_ (fun _ => ?_)
def laws_docArray.T5 : Bool × List (List Nat × List Nat) := (true, [([], []), ([0], [0]), ([], []), ([2], [2]), ([], []), ([], []), ([4, 5], [4, 5]), ([6], [6]), ([3, 7], [3, 7]), ([8], [8]), ([1, 9, 3], [1, 9]), ([0, 1, 2, 3, 4, 5, 6, 7, 8, 9, 10], []), ([11, 10, 10, 0, 1, 2, 3, 4, 5, 6, 7, 8, 9, 10], [10, 11])])
def laws_docArray.B5 : List Nat := [0, 1, 0, 4, 0, 0, 48, 112, 252, 508, 1023, 2047, 4095]
theorem laws_docArray.tab5 : rtab .any (opsOf Tryd.f15 5) = laws_docArray.T5 := by kernel_rfl
theorem laws_docArray.bits5 : waitsOk laws_docArray.T5.2 laws_docArray.B5 = true := by kernel_rfl
set_option maxHeartbeats 8000000 in
set_option maxRecDepth 100000 in
theorem laws_docArray.calls (k : Nat) (P0_ : Nat → Prop) (A0 : Option Addr) (c0 : Nat) (l0 : List (S26)) (r1 : Int) (r2 : ByteArray) (r3 : ByteArray) (r4 : Int) (r5 : Int) (r6 : Int) (r7 : List Int) (r8 : List (S31)) (w : World) (hs0 : Kd.V k26 26 w w.heap.size (fun k_ => P0_ k_) (.slice A0 l0.length c0) l0) (h : laws_docArray.f k l0 = some (r1, r2, r3, r4, r5, r6, r7, r8)) :
    Calls Tryd.prog 15 #[.slice A0 l0.length c0] w fun e w' => ∃ v6_ v7_ : Value, e = .returned (.agg #[.int .i64 r1, .string r2, .string r3, .int .i64 r4, .int .u64 r5, .int .u64 r6, v6_, v7_]) ∧ Kd.R (Kd.int .u8) 5 w' w.heap.size (fun k_ => (w.heap.size ≤ k_)) v6_ r7 ∧ Kd.N k31 31 w' w.heap.size (fun k_ => (P0_ k_ ∨ w.heap.size ≤ k_) ∧ some k_ ≠ (v6_ : Value).ownBlock) v7_ r8 ∧ Below w.heap.size w w' := by
  have hu26 := Tryd.underlying26
  have hu31 := Tryd.underlying31
  have HO0 := Aside0.mk (show Kd.V k26 26 w w.heap.size (fun k_ => (P0_ k_ ∨ w.heap.size ≤ k_)) (.slice A0 l0.length c0) l0 from Kd.V_mono hs0 (fun k_ hk => .inl hk))
  have HB := Aside0.mk (Below.refl w.heap.size w)
  have H : (laws_docArray.l0 k l0 0 4 (⟨#[]⟩ : ByteArray) (⟨#[]⟩ : ByteArray) 0 0 0 ([] : List (S31))) = some (r1, r2, r3, r4, r5, r6, r7, r8) := h
  clear h
  have H' := Aside0.mk H
  clear H
  go_enter Tryd.func15, Tryd.ntmps15
  go_wp2_with (first | ((with_reducible refine gate_dst (N := 2) rfl ?_); refine box_event ?hg (N := 2) ?hd (cs := #[.int .i64 0, .string (⟨#[]⟩ : ByteArray), .string (⟨#[]⟩ : ByteArray), .int .i64 0, .int .u64 0, .int .u64 0, .slice none 0 0, .slice none 0 0]) (t := 26) ?hr ?_; (case hd => rfl); (case hg => rfl); (case hr => first | (go_simp; done) | (go_simp; rfl)); intro gb364 hg w2 hbox hb; have n0_ := Aside0.mk (Kd.V_below (Kd.V_elderB (by (with_reducible repeat (first | apply Kd.V_alloc | apply Kd.V_drewN | apply Kd.V_drew)); exact HO0.out) gb364 (Nat.le_of_eq hg.symm)) hb); have n1_ := Aside0.mk (below_step (by repeat (first | (with_reducible first | exact HB.out | apply below_alloc | apply pw_below_drewN | apply below_drew1) | exact HB.out)) hb); have n2_ := Aside0.mk (hbox); have n3_ := Aside0.mk ((by rw [hg]; exact (below_size (by repeat (first | (with_reducible first | exact HB.out | apply below_alloc | apply pw_below_drewN | apply below_drew1) | exact HB.out))) : w.heap.size ≤ gb364)); have n4_ := Aside0.mk ((by rw [hg]; exact (below_size (by repeat (first | (with_reducible first | exact HB.out | apply below_alloc | apply pw_below_drewN | apply below_drew1) | exact HB.out))) : w.heap.size ≤ gb364)); clear HO0; clear HB; have HO0 := n0_; have HB := n1_; have BK364 := n2_; have GW364 := n3_; have GE364 := n4_; clear n0_ n1_ n2_ n3_ n4_; clear hb hbox hg) | ((with_reducible refine gate_dst (N := 3) rfl ?_); refine box_event ?hg (N := 3) ?hd (cs := #[.int .i64 0, .string (⟨#[]⟩ : ByteArray), .string (⟨#[]⟩ : ByteArray), .int .i64 0, .int .u64 0, .int .u64 0, .slice none 0 0, .slice none 0 0]) (t := 26) ?hr ?_; (case hd => rfl); (case hg => rfl); (case hr => first | (go_simp; done) | (go_simp; rfl)); intro gb365 hg w3 hbox hb; have n0_ := Aside0.mk (Kd.V_below (Kd.V_elderB (by (with_reducible repeat (first | apply Kd.V_alloc | apply Kd.V_drewN | apply Kd.V_drew)); exact HO0.out) gb365 (Nat.le_of_eq hg.symm)) hb); have n1_ := Aside0.mk (blk_below (g := gb364) (o := .cells #[.int .i64 0, .string (⟨#[]⟩ : ByteArray), .string (⟨#[]⟩ : ByteArray), .int .i64 0, .int .u64 0, .int .u64 0, .slice none 0 0, .slice none 0 0] 26 (0, 0)) (by (with_reducible repeat (first | refine blk_drewN ?_ _ | refine blk_drew ?_ | refine blk_alloc ?_ _)); exact BK364.out) hb); have n2_ := Aside0.mk (below_step (by repeat (first | (with_reducible first | exact HB.out | apply below_alloc | apply pw_below_drewN | apply below_drew1 | refine below_set ?_ GE364.out) | exact HB.out)) hb); have n3_ := Aside0.mk (hbox); have n4_ := Aside0.mk ((by rw [hg]; exact (below_size (by repeat (first | (with_reducible first | exact HB.out | apply below_alloc | apply pw_below_drewN | apply below_drew1 | refine below_set ?_ GE364.out) | exact HB.out))) : w.heap.size ≤ gb365)); have n5_ := Aside0.mk ((by rw [hg]; exact (below_size (by repeat (first | (with_reducible first | exact HB.out | apply below_alloc | apply pw_below_drewN | apply below_drew1 | refine below_set ?_ GE364.out) | exact HB.out))) : w.heap.size ≤ gb365)); have n6_ := Aside0.mk ((by rw [hg]; exact Nat.ne_of_lt (blk_lt (g := gb364) (o := .cells #[.int .i64 0, .string (⟨#[]⟩ : ByteArray), .string (⟨#[]⟩ : ByteArray), .int .i64 0, .int .u64 0, .int .u64 0, .slice none 0 0, .slice none 0 0] 26 (0, 0)) (by (with_reducible repeat (first | refine blk_drewN ?_ _ | refine blk_drew ?_ | refine blk_alloc ?_ _)); exact BK364.out)) : gb364 ≠ gb365)); have n7_ := Aside0.mk ((by rw [hg]; exact Nat.ne_of_gt (blk_lt (g := gb364) (o := .cells #[.int .i64 0, .string (⟨#[]⟩ : ByteArray), .string (⟨#[]⟩ : ByteArray), .int .i64 0, .int .u64 0, .int .u64 0, .slice none 0 0, .slice none 0 0] 26 (0, 0)) (by (with_reducible repeat (first | refine blk_drewN ?_ _ | refine blk_drew ?_ | refine blk_alloc ?_ _)); exact BK364.out)) : gb365 ≠ gb364)); clear HO0; clear BK364; clear HB; have HO0 := n0_; have BK364 := n1_; have HB := n2_; have BK365 := n3_; have GW365 := n4_; have GE365 := n5_; have NB364_365 := n6_; have NB365_364 := n7_; clear n0_ n1_ n2_ n3_ n4_ n5_ n6_ n7_; clear hb hbox hg; have hnb4 := NB365_364.out; have hnc4 := NB364_365.out; have hcz5_0 : w3.cell? ⟨gb365, 0, none⟩ = some (.int .i64 0) := (blk_cell BK365.out 0).trans rfl; have hcz5_1 : w3.cell? ⟨gb365, 1, none⟩ = some (.string (⟨#[]⟩ : ByteArray)) := (blk_cell BK365.out 1).trans rfl; have hcz5_2 : w3.cell? ⟨gb365, 2, none⟩ = some (.string (⟨#[]⟩ : ByteArray)) := (blk_cell BK365.out 2).trans rfl; have hcz5_3 : w3.cell? ⟨gb365, 3, none⟩ = some (.int .i64 0) := (blk_cell BK365.out 3).trans rfl; have hcz5_4 : w3.cell? ⟨gb365, 4, none⟩ = some (.int .u64 0) := (blk_cell BK365.out 4).trans rfl; have hcz5_5 : w3.cell? ⟨gb365, 5, none⟩ = some (.int .u64 0) := (blk_cell BK365.out 5).trans rfl; have hcz5_6 : w3.cell? ⟨gb365, 6, none⟩ = some (.slice none 0 0) := (blk_cell BK365.out 6).trans rfl; have hcz5_7 : w3.cell? ⟨gb365, 7, none⟩ = some (.slice none 0 0) := (blk_cell BK365.out 7).trans rfl; have hfz5_0 := blk_frozen BK365.out 0; have hfz5_1 := blk_frozen BK365.out 1; have hfz5_2 := blk_frozen BK365.out 2; have hfz5_3 := blk_frozen BK365.out 3; have hfz5_4 := blk_frozen BK365.out 4; have hfz5_5 := blk_frozen BK365.out 5; have hfz5_6 := blk_frozen BK365.out 6; have hfz5_7 := blk_frozen BK365.out 7))
  go_loopg [4] k (fun kq v4 w' => ∃ (x4_1 : Int) (x366007_1 : List (S31)) (u366007 : Value), v4 = .int .i64 x4_1 ∧ Aside0 (laws_docArray.l0 kq l0 x4_1 4 (⟨#[]⟩ : ByteArray) (⟨#[]⟩ : ByteArray) 0 0 0 x366007_1 = some (r1, r2, r3, r4, r5, r6, r7, r8)) ∧ Aside0 (kq ≤ k) ∧ Aside0 (Kd.V k26 26 w' w.heap.size (fun k_ => (P0_ k_ ∨ w.heap.size ≤ k_) ∧ some k_ ≠ (u366007 : Value).ownBlock ∧ k_ ≠ gb364 ∧ k_ ≠ gb365) (.slice A0 l0.length c0) l0) ∧ Aside0 (Kd.N k31 31 w' w.heap.size (fun k_ => (P0_ k_ ∨ w.heap.size ≤ k_) ∧ k_ ≠ gb364 ∧ k_ ≠ gb365) u366007 x366007_1) ∧ Aside0 (w'.heap[gb364]? = some (.cells #[.int .i64 0, .string (⟨#[]⟩ : ByteArray), .string (⟨#[]⟩ : ByteArray), .int .i64 0, .int .u64 0, .int .u64 0, (.slice none 0 0), (.slice none 0 0)] 26 (0, 0))) ∧ Aside0 (w'.heap[gb365]? = some (.cells #[.int .i64 4, .string (⟨#[]⟩ : ByteArray), .string (⟨#[]⟩ : ByteArray), .int .i64 0, .int .u64 0, .int .u64 0, (.slice none 0 0), u366007] 26 (0, 0))) ∧ Aside0 (Below w.heap.size w w'))
  case atStart => exact ⟨(0), (([] : List (S31))), (.slice none 0 0), (by first | rfl | (simp; done) | (simp [*]; done)), H', ⟨Nat.le_refl _⟩, ⟨by (with_reducible repeat (first | apply Kd.V_alloc | apply Kd.V_drewN | apply Kd.V_drew)); exact Kd.V_mono (Kd.V_far (p := ⟨gb365, 7, none⟩) (Kd.V_far (p := ⟨gb365, 6, none⟩) (Kd.V_far (p := ⟨gb365, 5, none⟩) (Kd.V_far (p := ⟨gb365, 4, none⟩) (Kd.V_far (p := ⟨gb365, 3, none⟩) (Kd.V_far (p := ⟨gb365, 2, none⟩) (Kd.V_far (p := ⟨gb365, 1, none⟩) (Kd.V_far (p := ⟨gb365, 0, none⟩) (Kd.V_mono HO0.out (fun k_ hk => (⟨hk, hk.2⟩ : _ ∧ k_ ≠ gb365))) (fun _ hk => hk.2) (.int .i64 4)) (fun _ hk => hk.2) (.string (⟨#[]⟩ : ByteArray))) (fun _ hk => hk.2) (.string (⟨#[]⟩ : ByteArray))) (fun _ hk => hk.2) (.int .i64 0)) (fun _ hk => hk.2) (.int .u64 0)) (fun _ hk => hk.2) (.int .u64 0)) (fun _ hk => hk.2) (.slice none 0 0)) (fun _ hk => hk.2) (.slice none 0 0)) (fun _ hk => ⟨hk.1.1.1, ⟨(by simp [Value.ownBlock]), ⟨hk.1.1.2, hk.1.2⟩⟩⟩)⟩, ⟨by first | exact Kd.R_nil _ _ _ _ _ | exact Kd.N_nil _ _ _ _ _ | exact Kd.V_nil _ _ _ _ _ | exact Kd.Q_nil _ _ _ _ _ | exact Kd.S_nil _ _ _ _ _⟩, ⟨by (with_reducible repeat (first | refine blk_drewN ?_ _ | refine blk_drew ?_ | refine blk_alloc ?_ _)); refine blk_far ?_ NB364_365.out _; (with_reducible repeat (first | refine blk_drewN ?_ _ | refine blk_drew ?_ | refine blk_alloc ?_ _)); refine blk_far ?_ NB364_365.out _; (with_reducible repeat (first | refine blk_drewN ?_ _ | refine blk_drew ?_ | refine blk_alloc ?_ _)); refine blk_far ?_ NB364_365.out _; (with_reducible repeat (first | refine blk_drewN ?_ _ | refine blk_drew ?_ | refine blk_alloc ?_ _)); refine blk_far ?_ NB364_365.out _; (with_reducible repeat (first | refine blk_drewN ?_ _ | refine blk_drew ?_ | refine blk_alloc ?_ _)); refine blk_far ?_ NB364_365.out _; (with_reducible repeat (first | refine blk_drewN ?_ _ | refine blk_drew ?_ | refine blk_alloc ?_ _)); refine blk_far ?_ NB364_365.out _; (with_reducible repeat (first | refine blk_drewN ?_ _ | refine blk_drew ?_ | refine blk_alloc ?_ _)); refine blk_far ?_ NB364_365.out _; (with_reducible repeat (first | refine blk_drewN ?_ _ | refine blk_drew ?_ | refine blk_alloc ?_ _)); refine blk_far ?_ NB364_365.out _; (with_reducible repeat (first | refine blk_drewN ?_ _ | refine blk_drew ?_ | refine blk_alloc ?_ _)); exact BK364.out⟩, ⟨by (with_reducible repeat (first | refine blk_drewN ?_ _ | refine blk_drew ?_ | refine blk_alloc ?_ _)); refine blk_put (cs := #[.int .i64 4, .string (⟨#[]⟩ : ByteArray), .string (⟨#[]⟩ : ByteArray), .int .i64 0, .int .u64 0, .int .u64 0, .slice none 0 0, .slice none 0 0]) ?_ 7 _ rfl; (with_reducible repeat (first | refine blk_drewN ?_ _ | refine blk_drew ?_ | refine blk_alloc ?_ _)); refine blk_put (cs := #[.int .i64 4, .string (⟨#[]⟩ : ByteArray), .string (⟨#[]⟩ : ByteArray), .int .i64 0, .int .u64 0, .int .u64 0, .slice none 0 0, .slice none 0 0]) ?_ 6 _ rfl; (with_reducible repeat (first | refine blk_drewN ?_ _ | refine blk_drew ?_ | refine blk_alloc ?_ _)); refine blk_put (cs := #[.int .i64 4, .string (⟨#[]⟩ : ByteArray), .string (⟨#[]⟩ : ByteArray), .int .i64 0, .int .u64 0, .int .u64 0, .slice none 0 0, .slice none 0 0]) ?_ 5 _ rfl; (with_reducible repeat (first | refine blk_drewN ?_ _ | refine blk_drew ?_ | refine blk_alloc ?_ _)); refine blk_put (cs := #[.int .i64 4, .string (⟨#[]⟩ : ByteArray), .string (⟨#[]⟩ : ByteArray), .int .i64 0, .int .u64 0, .int .u64 0, .slice none 0 0, .slice none 0 0]) ?_ 4 _ rfl; (with_reducible repeat (first | refine blk_drewN ?_ _ | refine blk_drew ?_ | refine blk_alloc ?_ _)); refine blk_put (cs := #[.int .i64 4, .string (⟨#[]⟩ : ByteArray), .string (⟨#[]⟩ : ByteArray), .int .i64 0, .int .u64 0, .int .u64 0, .slice none 0 0, .slice none 0 0]) ?_ 3 _ rfl; (with_reducible repeat (first | refine blk_drewN ?_ _ | refine blk_drew ?_ | refine blk_alloc ?_ _)); refine blk_put (cs := #[.int .i64 4, .string (⟨#[]⟩ : ByteArray), .string (⟨#[]⟩ : ByteArray), .int .i64 0, .int .u64 0, .int .u64 0, .slice none 0 0, .slice none 0 0]) ?_ 2 _ rfl; (with_reducible repeat (first | refine blk_drewN ?_ _ | refine blk_drew ?_ | refine blk_alloc ?_ _)); refine blk_put (cs := #[.int .i64 4, .string (⟨#[]⟩ : ByteArray), .string (⟨#[]⟩ : ByteArray), .int .i64 0, .int .u64 0, .int .u64 0, .slice none 0 0, .slice none 0 0]) ?_ 1 _ rfl; (with_reducible repeat (first | refine blk_drewN ?_ _ | refine blk_drew ?_ | refine blk_alloc ?_ _)); refine blk_put (cs := #[.int .i64 0, .string (⟨#[]⟩ : ByteArray), .string (⟨#[]⟩ : ByteArray), .int .i64 0, .int .u64 0, .int .u64 0, .slice none 0 0, .slice none 0 0]) ?_ 0 _ rfl; (with_reducible repeat (first | refine blk_drewN ?_ _ | refine blk_drew ?_ | refine blk_alloc ?_ _)); exact BK365.out⟩, ⟨by repeat (first | (with_reducible first | exact HB.out | apply below_alloc | apply pw_below_drewN | apply below_drew1 | refine below_set ?_ GE364.out | refine below_set ?_ GE365.out) | exact HB.out)⟩⟩
  case round =>
    clear H'
    try clear c1
    try clear p2
    try clear c4
    try clear hcz5_0
    try clear hcz5_1
    try clear hcz5_2
    try clear hcz5_3
    try clear hcz5_4
    try clear hcz5_5
    try clear hcz5_6
    try clear hcz5_7
    try clear hfz5_0
    try clear hfz5_1
    try clear hfz5_2
    try clear hfz5_3
    try clear hfz5_4
    try clear hfz5_5
    try clear hfz5_6
    try clear hfz5_7
    obtain ⟨x4_1, x366007_1, u366007, rfl, HA, HK1, HO_0, HO_366007, BK364, BK365, HB⟩ := hrel
    cases gk with
    | zero => exact absurd HA.out (by simp [laws_docArray.l0])
    | succ k1 =>
      have H := HA.out
      clear HA
      simp only [laws_docArray.l0] at H
      by_cases c6 : x4_1 < (l0.length : Int)
      · rw [if_pos c6] at H
        have c6b0 : decide (x4_1 < (l0.length : Int)) = true := decide_eq_true c6
        clear c6
        replace H := Option.bind_eq_some_iff.mp H
        obtain ⟨t366, A70, H⟩ := H
        replace H : (if 0 ≤ x4_1 then (if x366007_1.length < 1099511627776 then (laws_docArray.l0 k1 l0 (wrap64 (x4_1 + 1)) 4 (⟨#[]⟩ : ByteArray) (⟨#[]⟩ : ByteArray) 0 0 0 (x366007_1 ++ [(⟨t366, (⟨(rd_T26 l0 x4_1).f0, (rd_T26 l0 x4_1).f1, (rd_T26 l0 x4_1).f2, (rd_T26 l0 x4_1).f3, (rd_T26 l0 x4_1).f4, (rd_T26 l0 x4_1).f5, (rd_T26 l0 x4_1).f6, (rd_T26 l0 x4_1).f7⟩ : S26)⟩ : S31)])) else (none)) else (none)) = some (r1, r2, r3, r4, r5, r6, r7, r8) := H
        have A7 := Aside0.mk A70
        clear A70
        by_cases c8 : 0 ≤ x4_1
        · rw [if_pos c8] at H
          have c8b0 : decide (0 ≤ x4_1) = true := decide_eq_true c8
          clear c8
          by_cases c9 : x366007_1.length < 1099511627776
          · rw [if_pos c9] at H
            have LMc9 := Aside0.mk c9
            clear c9
            obtain ⟨y368, hy368⟩ : ∃ y_ : List (S31), y_ = (x366007_1 ++ [(⟨t366, (⟨(rd_T26 l0 x4_1).f0, (rd_T26 l0 x4_1).f1, (rd_T26 l0 x4_1).f2, (rd_T26 l0 x4_1).f3, (rd_T26 l0 x4_1).f4, (rd_T26 l0 x4_1).f5, (rd_T26 l0 x4_1).f6, (rd_T26 l0 x4_1).f7⟩ : S26)⟩ : S31)]) := ⟨_, rfl⟩
            replace H : (laws_docArray.l0 k1 l0 (wrap64 (x4_1 + 1)) 4 (⟨#[]⟩ : ByteArray) (⟨#[]⟩ : ByteArray) 0 0 0 y368) = some (r1, r2, r3, r4, r5, r6, r7, r8) := by first | (rw [hy368]; with_reducible exact H) | (have H2_ := (Option.bind_some _ _).symm.trans H; rw [hy368]; with_reducible exact H2_) | (have H2_ := (Option.bind_some _ _).symm.trans H; with_reducible exact H2_) | with_reducible exact H | (rw [hy368]; exact H) | exact H
            have Ny368 := Aside0.mk hy368
            clear hy368
            focus
              have H' := Aside0.mk H
              clear H
              try go_wp2
              have n0_ := Aside0.mk (Kd.V_drew HO_0.out)
              have n1_ := Aside0.mk (Kd.N_drew HO_366007.out)
              have n2_ := Aside0.mk (blk_drew BK364.out)
              have n3_ := Aside0.mk (blk_drew BK365.out)
              have n4_ := Aside0.mk (below_drew1 HB.out)
              clear HO_0
              clear HO_366007
              clear BK364
              clear BK365
              clear HB
              have HO_0 := n0_
              have HO_366007 := n1_
              have BK364 := n2_
              have BK365 := n3_
              have HB := n4_
              clear n0_ n1_ n2_ n3_ n4_
              have p367 : 0 ≤ (x4_1 : Int) := of_decide_eq_true (by first | (with_reducible assumption) | assumption)
              have q367 : x4_1 < (l0.length : Int) := of_decide_eq_true (by first | (with_reducible assumption) | assumption)
              obtain ⟨ad367, A367_6, c367_6, A367_7, c367_7, e367, hx367_0, hx367_1, hx367_2, hx367_3, hx367_4, hx367_5, hx367_6, hx367_7, hl367_6, hi367_6, hl367_7, hi367_7⟩ := at_T26 (Kd.V_reads' HO_0.out).2.2 x4_1 p367 q367
              cases e367
              obtain ⟨ce367, hce367, hMe367, hcc367⟩ := Kd.V_get HO_0.out z26 x4_1 p367 (by first | exact q367 | exact of_decide_eq_true (by first | (with_reducible assumption) | assumption) | (have e_ := (Kd.V_reads' HO_0.out).1; omega))
              obtain ⟨ua367_6, uc367_6, ua367_7, uc367_7, rfl, ul367_6, ge367_6, ul367_7, ge367_7⟩ := k26_openF hMe367
              have hv367_6 := hcc367 6 _ rfl
              rw [add_field _ _ 6 (by omega)] at hv367_6
              replace hv367_6 := Option.some.inj (hv367_6.symm.trans hx367_6)
              injection hv367_6 with hva_ hvn_ hvc_
              rw [hva_] at ge367_6
              rw [hvc_] at ul367_6
              have HL367_6 := Aside0.mk (show Kd.V (Kd.int .u8) 5 _ w.heap.size _ _ ((rd_T26 l0 x4_1).f6) from Kd.V_mk ul367_6 ge367_6)
              clear hva_ hvn_ hvc_ ge367_6 ul367_6
              have hv367_7 := hcc367 7 _ rfl
              rw [add_field _ _ 7 (by omega)] at hv367_7
              replace hv367_7 := Option.some.inj (hv367_7.symm.trans hx367_7)
              injection hv367_7 with hva_ hvn_ hvc_
              rw [hva_] at ge367_7
              rw [hvc_] at ul367_7
              have HL367_7 := Aside0.mk (show Kd.V k31 31 _ w.heap.size _ _ ((rd_T26 l0 x4_1).f7) from Kd.V_mk ul367_7 ge367_7)
              clear hva_ hvn_ hvc_ ge367_7 ul367_7
              clear hcc367 hce367
              have HR367_6 := Aside0.mk hi367_6
              have HC367_6 := Aside0.mk hl367_6
              clear hi367_6 hl367_6
              have HR367_7 := Aside0.mk hi367_7
              have HC367_7 := Aside0.mk hl367_7
              clear hi367_7 hl367_7
              replace p367 := eq_true p367
              replace q367 := eq_true q367
              refine start_ (n := 13) (S := fun w' => w'.cell? ⟨gb365, 0, none⟩ = some (.int .i64 4) ∧ w'.cell? ⟨gb365, 1, none⟩ = some (.string (⟨#[]⟩ : ByteArray)) ∧ w'.cell? ⟨gb365, 2, none⟩ = some (.string (⟨#[]⟩ : ByteArray)) ∧ w'.cell? ⟨gb365, 3, none⟩ = some (.int .i64 0) ∧ w'.cell? ⟨gb365, 4, none⟩ = some (.int .u64 0) ∧ w'.cell? ⟨gb365, 5, none⟩ = some (.int .u64 0) ∧ w'.cell? ⟨gb365, 6, none⟩ = some (.slice none 0 0) ∧ w'.cell? ⟨gb365, 7, none⟩ = some (u366007) ∧ w'.cell? (ad367.add ((x4_1).toNat * 8)) = some (.int .i64 ((rd_T26 l0 x4_1).f0)) ∧ w'.cell? ⟨(ad367.add ((x4_1).toNat * 8)).block, (ad367.add ((x4_1).toNat * 8)).off + 1, none⟩ = some (.string ((rd_T26 l0 x4_1).f1)) ∧ w'.cell? ⟨(ad367.add ((x4_1).toNat * 8)).block, (ad367.add ((x4_1).toNat * 8)).off + 2, none⟩ = some (.string ((rd_T26 l0 x4_1).f2)) ∧ w'.cell? ⟨(ad367.add ((x4_1).toNat * 8)).block, (ad367.add ((x4_1).toNat * 8)).off + 3, none⟩ = some (.int .i64 ((rd_T26 l0 x4_1).f3)) ∧ w'.cell? ⟨(ad367.add ((x4_1).toNat * 8)).block, (ad367.add ((x4_1).toNat * 8)).off + 4, none⟩ = some (.int .u64 ((rd_T26 l0 x4_1).f4)) ∧ w'.cell? ⟨(ad367.add ((x4_1).toNat * 8)).block, (ad367.add ((x4_1).toNat * 8)).off + 5, none⟩ = some (.int .u64 ((rd_T26 l0 x4_1).f5)) ∧ w'.cell? ⟨(ad367.add ((x4_1).toNat * 8)).block, (ad367.add ((x4_1).toNat * 8)).off + 6, none⟩ = some (.slice A367_6 ((rd_T26 l0 x4_1).f6).length c367_6) ∧ w'.cell? ⟨(ad367.add ((x4_1).toNat * 8)).block, (ad367.add ((x4_1).toNat * 8)).off + 7, none⟩ = some (.slice A367_7 ((rd_T26 l0 x4_1).f7).length c367_7)) (ds := [10, 12]) #[false, false, false, false, false, false, false, false, false, false, false, false, false] (by kernel_rfl) rfl rfl ⟨(blk_cell BK365.out 0).trans rfl, (blk_cell BK365.out 1).trans rfl, (blk_cell BK365.out 2).trans rfl, (blk_cell BK365.out 3).trans rfl, (blk_cell BK365.out 4).trans rfl, (blk_cell BK365.out 5).trans rfl, (blk_cell BK365.out 6).trans rfl, (blk_cell BK365.out 7).trans rfl, hx367_0, hx367_1, hx367_2, hx367_3, hx367_4, hx367_5, hx367_6, hx367_7⟩ (fun hHeld => ?_); refine with_tabW laws_docArray.tab5 laws_docArray.bits5 (fun HT_ HW_ => ?_)
              generalize wr.drew = w10 at HO_0 HO_366007 BK364 BK365 HB HL367_6 HL367_7 HR367_6 HR367_7 hx367_0 hx367_1 hx367_2 hx367_3 hx367_4 hx367_5 hx367_6 hx367_7 hHeld ⊢
              refine pure_ (i := 0) (N := some 12) (v := ?_) (a' := ?_) #[true, false, false, false, false, false, false, false, false, false, false, false, false] rfl rfl (any_of HT_.out (by kernel_rfl)) (fun _ _ _ h => h) (Or.inl ⟨by rfl, ?_⟩) ?_ ?_
              rotate_left
              · intro w'
                go_simp
                with_reducible rfl
              rotate_left
              · simp only [Act.put, List.setIfInBounds_toArray, List.set_cons_zero, List.set_cons_succ, i64_w, i32_w]
                rfl
              refine pure_ (i := 2) (N := some 14) (v := ?_) (a' := ?_) #[true, false, true, false, false, false, false, false, false, false, false, false, false] rfl rfl (any_of HT_.out (by kernel_rfl)) (fun _ _ _ h => h) (Or.inl ⟨by rfl, ?_⟩) ?_ ?_
              rotate_left
              · intro w'
                go_simp
                with_reducible rfl
              rotate_left
              · simp only [Act.put, List.setIfInBounds_toArray, List.set_cons_zero, List.set_cons_succ, i64_w, i32_w]
                rfl
              refine pure_ (i := 4) (N := some 16) (v := ?_) (a' := ?_) #[true, false, true, false, true, false, false, false, false, false, false, false, false] rfl rfl (any_of HT_.out (by kernel_rfl)) (fun _ _ _ h => h) (Or.inl ⟨by rfl, ?_⟩) ?_ ?_
              rotate_left
              · intro w'
                go_simp
                with_reducible rfl
              rotate_left
              · simp only [Act.put, List.setIfInBounds_toArray, List.set_cons_zero, List.set_cons_succ, i64_w, i32_w]
                rfl
              refine pure_ (i := 5) (N := some 17) (v := ?_) (a' := ?_) #[true, false, true, false, true, true, false, false, false, false, false, false, false] rfl rfl (any_of HT_.out (by kernel_rfl)) (fun _ _ _ h => h) (Or.inl ⟨by rfl, ?_⟩) ?_ ?_
              rotate_left
              · intro w'
                go_simp
                with_reducible rfl
              rotate_left
              · simp only [Act.put, List.setIfInBounds_toArray, List.set_cons_zero, List.set_cons_succ, i64_w, i32_w]
                rfl
              refine pure_ (i := 6) (N := some 18) (v := ?_) (a' := ?_) #[true, false, true, false, true, true, true, false, false, false, false, false, false] rfl rfl (any_of HT_.out (by kernel_rfl)) (fun _ _ _ h => h) (Or.inl ⟨by rfl, ?_⟩) ?_ ?_
              rotate_left
              · intro w'
                go_simp
                with_reducible rfl
              rotate_left
              · simp only [Act.put, List.setIfInBounds_toArray, List.set_cons_zero, List.set_cons_succ, i64_w, i32_w]
                rfl
              refine take_ (i := 1) (N := some 13) (v := ?_) (a' := ?_) #[true, true, true, false, true, true, true, false, false, false, false, false, false] rfl rfl (take_ofW HT_.out HW_.out (by kernel_rfl)) (fun _ _ _ h => h) (Or.inl ⟨by rfl, ?_⟩) hHeld ?_ ?_
              rotate_left
              · rintro w' ⟨s0, s1, s2, s3, s4, s5, s6, s7, s8, s9, s10, s11, s12, s13, s14, s15⟩
                go_simp
                with_reducible rfl
              rotate_left
              · simp only [Act.put, List.setIfInBounds_toArray, List.set_cons_zero, List.set_cons_succ, i64_w, i32_w]
                rfl
              refine take_ (i := 7) (N := some 19) (v := ?_) (a' := ?_) #[true, true, true, false, true, true, true, true, false, false, false, false, false] rfl rfl (take_ofW HT_.out HW_.out (by kernel_rfl)) (fun _ _ _ h => h) (Or.inl ⟨by rfl, ?_⟩) hHeld ?_ ?_
              rotate_left
              · rintro w' ⟨s0, s1, s2, s3, s4, s5, s6, s7, s8, s9, s10, s11, s12, s13, s14, s15⟩
                go_simp
                with_reducible rfl
              rotate_left
              · simp only [Act.put, List.setIfInBounds_toArray, List.set_cons_zero, List.set_cons_succ, i64_w, i32_w]
                rfl
              refine one_ (i := 3) (N := some 15) #[true, true, true, true, true, true, true, true, false, false, false, false, false] rfl rfl (one_of HT_.out (by kernel_rfl)) (by decide) (fun K hK => ?_)
              refine goes_ Tryd.func34 (by kernel_rfl) rfl #[.int .i64 x4_1] (by rfl) rfl rfl (by (try simp only [List.map_toArray, List.map_cons, List.map_nil]); first | done | rfl | (simp only [List.length_drop, List.length_take]; rfl)) ?_
              with_reducible refine (spec_DocDigits.calls k1 x4_1 t366 _ A7.out).mono ?_
              rintro e w11 ⟨rfl, hb⟩
              have HS8_ := (hb.cell (World.block_lt_of_cell? _ _ (hHeld.2.2.2.2.2.2.2.2.1))).trans (hHeld.2.2.2.2.2.2.2.2.1)
              have HS9_ := (hb.cell (World.block_lt_of_cell? _ _ (hHeld.2.2.2.2.2.2.2.2.2.1))).trans (hHeld.2.2.2.2.2.2.2.2.2.1)
              have HS10_ := (hb.cell (World.block_lt_of_cell? _ _ (hHeld.2.2.2.2.2.2.2.2.2.2.1))).trans (hHeld.2.2.2.2.2.2.2.2.2.2.1)
              have HS11_ := (hb.cell (World.block_lt_of_cell? _ _ (hHeld.2.2.2.2.2.2.2.2.2.2.2.1))).trans (hHeld.2.2.2.2.2.2.2.2.2.2.2.1)
              have HS12_ := (hb.cell (World.block_lt_of_cell? _ _ (hHeld.2.2.2.2.2.2.2.2.2.2.2.2.1))).trans (hHeld.2.2.2.2.2.2.2.2.2.2.2.2.1)
              have HS13_ := (hb.cell (World.block_lt_of_cell? _ _ (hHeld.2.2.2.2.2.2.2.2.2.2.2.2.2.1))).trans (hHeld.2.2.2.2.2.2.2.2.2.2.2.2.2.1)
              have HS14_ := (hb.cell (World.block_lt_of_cell? _ _ (hHeld.2.2.2.2.2.2.2.2.2.2.2.2.2.2.1))).trans (hHeld.2.2.2.2.2.2.2.2.2.2.2.2.2.2.1)
              have HS15_ := (hb.cell (World.block_lt_of_cell? _ _ (hHeld.2.2.2.2.2.2.2.2.2.2.2.2.2.2.2))).trans (hHeld.2.2.2.2.2.2.2.2.2.2.2.2.2.2.2)
              refine ⟨_, rfl, ?_⟩
              have n0_ := Aside0.mk (Kd.V_below (by (with_reducible repeat (first | apply Kd.V_alloc | apply Kd.V_drewN | apply Kd.V_drew)); exact HO_0.out) hb)
              have n1_ := Aside0.mk (Kd.N_below (by (with_reducible repeat (first | apply Kd.N_alloc | apply Kd.N_drewN | apply Kd.N_drew)); exact HO_366007.out) hb)
              have n2_ := Aside0.mk (Kd.V_below (by (with_reducible repeat (first | apply Kd.V_alloc | apply Kd.V_drewN | apply Kd.V_drew)); exact HL367_6.out) hb)
              have n3_ := Aside0.mk (Kd.V_below (by (with_reducible repeat (first | apply Kd.V_alloc | apply Kd.V_drewN | apply Kd.V_drew)); exact HL367_7.out) hb)
              have n4_ := Aside0.mk (blk_below (g := gb364) (o := .cells #[.int .i64 0, .string (⟨#[]⟩ : ByteArray), .string (⟨#[]⟩ : ByteArray), .int .i64 0, .int .u64 0, .int .u64 0, .slice none 0 0, .slice none 0 0] 26 (0, 0)) (by (with_reducible repeat (first | refine blk_drewN ?_ _ | refine blk_drew ?_ | refine blk_alloc ?_ _)); exact BK364.out) hb)
              have n5_ := Aside0.mk (blk_below (g := gb365) (o := .cells #[.int .i64 4, .string (⟨#[]⟩ : ByteArray), .string (⟨#[]⟩ : ByteArray), .int .i64 0, .int .u64 0, .int .u64 0, .slice none 0 0, u366007] 26 (0, 0)) (by (with_reducible repeat (first | refine blk_drewN ?_ _ | refine blk_drew ?_ | refine blk_alloc ?_ _)); exact BK365.out) hb)
              have n6_ := Aside0.mk (Kd.C_below (by repeat (first | (with_reducible exact HR367_6.out) | (with_reducible refine Kd.C_alloc ?_ _) | (with_reducible refine Kd.C_drewN ?_ _) | (with_reducible refine Kd.C_drew ?_) | exact HR367_6.out)) hb)
              have n7_ := Aside0.mk (Kd.C_below (by repeat (first | (with_reducible exact HR367_7.out) | (with_reducible refine Kd.C_alloc ?_ _) | (with_reducible refine Kd.C_drewN ?_ _) | (with_reducible refine Kd.C_drew ?_) | exact HR367_7.out)) hb)
              have n8_ := Aside0.mk (below_step (by repeat (first | (with_reducible first | exact HB.out | apply below_alloc | apply pw_below_drewN | apply below_drew1 | refine below_set ?_ GE364.out | refine below_set ?_ GE365.out) | exact HB.out)) hb)
              clear HO_0
              clear HO_366007
              clear HL367_6
              clear HL367_7
              clear BK364
              clear BK365
              clear HR367_6
              clear HR367_7
              clear HB
              have HO_0 := n0_
              have HO_366007 := n1_
              have HL367_6 := n2_
              have HL367_7 := n3_
              have BK364 := n4_
              have BK365 := n5_
              have HR367_6 := n6_
              have HR367_7 := n7_
              have HB := n8_
              clear n0_ n1_ n2_ n3_ n4_ n5_ n6_ n7_ n8_
              (try clear hb)
              (try clear hb2)
              (try clear hk)
              (try clear hi)
              refine hK.out _ _ ⟨(blk_cell BK365.out 0).trans rfl, (blk_cell BK365.out 1).trans rfl, (blk_cell BK365.out 2).trans rfl, (blk_cell BK365.out 3).trans rfl, (blk_cell BK365.out 4).trans rfl, (blk_cell BK365.out 5).trans rfl, (blk_cell BK365.out 6).trans rfl, (blk_cell BK365.out 7).trans rfl, HS8_, HS9_, HS10_, HS11_, HS12_, HS13_, HS14_, HS15_⟩ (fun hHeld => ?_)
              clear hK K
              refine norm_ (a' := ?_) ?_ ?_
              rotate_left
              · show Act.put _ (some 15) _ = _
                simp only [Act.put, List.setIfInBounds_toArray, List.set_cons_zero, List.set_cons_succ, i64_w, i32_w]
                rfl
              refine pure_ (i := 8) (N := some 20) (v := ?_) (a' := ?_) #[true, true, true, true, true, true, true, true, true, false, false, false, false] rfl rfl (any_of HT_.out (by kernel_rfl)) (fun _ _ _ h => h) (Or.inl ⟨by rfl, ?_⟩) ?_ ?_
              rotate_left
              · intro w'
                go_simp
                with_reducible rfl
              rotate_left
              · simp only [Act.put, List.setIfInBounds_toArray, List.set_cons_zero, List.set_cons_succ, i64_w, i32_w]
                rfl
              refine one_ (i := 9) (N := some 21) #[true, true, true, true, true, true, true, true, true, true, false, false, false] rfl rfl (one_of HT_.out (by kernel_rfl)) (by decide) (fun K hK => ?_)
              refine value_ (w1 := ?_) (v := ?_) (by rfl) rfl ?_ ?_
              rotate_left 2
              · go_simp
                constructor
                · rfl
                · rfl
              refine hK.out _ _ ⟨(blk_cell (blk_alloc BK365.out _) 0).trans rfl, (blk_cell (blk_alloc BK365.out _) 1).trans rfl, (blk_cell (blk_alloc BK365.out _) 2).trans rfl, (blk_cell (blk_alloc BK365.out _) 3).trans rfl, (blk_cell (blk_alloc BK365.out _) 4).trans rfl, (blk_cell (blk_alloc BK365.out _) 5).trans rfl, (blk_cell (blk_alloc BK365.out _) 6).trans rfl, (blk_cell (blk_alloc BK365.out _) 7).trans rfl, (World.cell?_alloc_lt _ _ _ (World.block_lt_of_cell? _ _ (hHeld.2.2.2.2.2.2.2.2.1))).trans (hHeld.2.2.2.2.2.2.2.2.1), (World.cell?_alloc_lt _ _ _ (World.block_lt_of_cell? _ _ (hHeld.2.2.2.2.2.2.2.2.2.1))).trans (hHeld.2.2.2.2.2.2.2.2.2.1), (World.cell?_alloc_lt _ _ _ (World.block_lt_of_cell? _ _ (hHeld.2.2.2.2.2.2.2.2.2.2.1))).trans (hHeld.2.2.2.2.2.2.2.2.2.2.1), (World.cell?_alloc_lt _ _ _ (World.block_lt_of_cell? _ _ (hHeld.2.2.2.2.2.2.2.2.2.2.2.1))).trans (hHeld.2.2.2.2.2.2.2.2.2.2.2.1), (World.cell?_alloc_lt _ _ _ (World.block_lt_of_cell? _ _ (hHeld.2.2.2.2.2.2.2.2.2.2.2.2.1))).trans (hHeld.2.2.2.2.2.2.2.2.2.2.2.2.1), (World.cell?_alloc_lt _ _ _ (World.block_lt_of_cell? _ _ (hHeld.2.2.2.2.2.2.2.2.2.2.2.2.2.1))).trans (hHeld.2.2.2.2.2.2.2.2.2.2.2.2.2.1), (World.cell?_alloc_lt _ _ _ (World.block_lt_of_cell? _ _ (hHeld.2.2.2.2.2.2.2.2.2.2.2.2.2.2.1))).trans (hHeld.2.2.2.2.2.2.2.2.2.2.2.2.2.2.1), (World.cell?_alloc_lt _ _ _ (World.block_lt_of_cell? _ _ (hHeld.2.2.2.2.2.2.2.2.2.2.2.2.2.2.2))).trans (hHeld.2.2.2.2.2.2.2.2.2.2.2.2.2.2.2)⟩ (fun hHeld => ?_)
              clear hK K
              refine norm_ (a' := ?_) ?_ ?_
              rotate_left
              · show Act.put _ (some 21) _ = _
                simp only [Act.put, List.setIfInBounds_toArray, List.set_cons_zero, List.set_cons_succ, i64_w, i32_w]
                rfl
              refine last_ (i := 10) (N := some 22) #[true, true, true, true, true, true, true, true, true, true, true, false, false] rfl rfl (one_of HT_.out (by kernel_rfl)) (by decide) (fun K hK => ?_)
              refine Kd.N_append_step k31 (w0 := w) w.heap.size (by rfl) (.tmp 13) (.tmp 21) 24 31 (.agg #[(.string ⟨#[]⟩), (.int .i64 0), (.string ⟨#[]⟩), (.string ⟨#[]⟩), (.int .i64 0), (.int .u64 0), (.int .u64 0), (.slice none 0 0), (.slice none 0 0)]) 128 rfl Tryd.underlying24 info31 rfl (by decide) (by omega) u366007 x366007_1 (⟨t366, (⟨(rd_T26 l0 x4_1).f0, (rd_T26 l0 x4_1).f1, (rd_T26 l0 x4_1).f2, (rd_T26 l0 x4_1).f3, (rd_T26 l0 x4_1).f4, (rd_T26 l0 x4_1).f5, (rd_T26 l0 x4_1).f6, (rd_T26 l0 x4_1).f7⟩ : S26)⟩ : S31) [.string t366, .int .i64 ((rd_T26 l0 x4_1).f0), .string ((rd_T26 l0 x4_1).f1), .string ((rd_T26 l0 x4_1).f2), .int .i64 ((rd_T26 l0 x4_1).f3), .int .u64 ((rd_T26 l0 x4_1).f4), .int .u64 ((rd_T26 l0 x4_1).f5), .slice A367_6 ((rd_T26 l0 x4_1).f6).length c367_6, .slice A367_7 ((rd_T26 l0 x4_1).f7).length c367_7] (fun k_ => (P0_ k_ ∨ w.heap.size ≤ k_) ∧ k_ ≠ gb364 ∧ k_ ≠ gb365) (fun k_ => ((fun k_ => (P0_ k_ ∨ w.heap.size ≤ k_) ∧ k_ ≠ gb364 ∧ k_ ≠ gb365)) k_ ∧ some k_ ≠ (u366007 : Value).ownBlock) rfl rfl ?aP (fun _ hk => hk) ?aF ?aO ?aB ?aS ?aL ?_
              (case aP => exact (k31_mkF _ _ (⟨t366, (⟨(rd_T26 l0 x4_1).f0, (rd_T26 l0 x4_1).f1, (rd_T26 l0 x4_1).f2, (rd_T26 l0 x4_1).f3, (rd_T26 l0 x4_1).f4, (rd_T26 l0 x4_1).f5, (rd_T26 l0 x4_1).f6, (rd_T26 l0 x4_1).f7⟩ : S26)⟩ : S31) (Kd.V_reads' (Kd.V_mono (ok' := (fun k_ => ((fun k_ => (P0_ k_ ∨ w.heap.size ≤ k_) ∧ k_ ≠ gb364 ∧ k_ ≠ gb365)) k_ ∧ some k_ ≠ (u366007 : Value).ownBlock)) (HL367_6.out) (fun k_ hk => ⟨⟨hk.1, ⟨hk.2.2.1, hk.2.2.2⟩⟩, hk.2.1⟩))).2.1 (Kd.V_F (Kd.V_mono (ok' := (fun k_ => ((fun k_ => (P0_ k_ ∨ w.heap.size ≤ k_) ∧ k_ ≠ gb364 ∧ k_ ≠ gb365)) k_ ∧ some k_ ≠ (u366007 : Value).ownBlock)) (HL367_6.out) (fun k_ hk => ⟨⟨hk.1, ⟨hk.2.2.1, hk.2.2.2⟩⟩, hk.2.1⟩))) (Kd.V_reads' (Kd.V_mono (ok' := (fun k_ => ((fun k_ => (P0_ k_ ∨ w.heap.size ≤ k_) ∧ k_ ≠ gb364 ∧ k_ ≠ gb365)) k_ ∧ some k_ ≠ (u366007 : Value).ownBlock)) (HL367_7.out) (fun k_ hk => ⟨⟨hk.1, ⟨hk.2.2.1, hk.2.2.2⟩⟩, hk.2.1⟩))).2.1 (Kd.V_F (Kd.V_mono (ok' := (fun k_ => ((fun k_ => (P0_ k_ ∨ w.heap.size ≤ k_) ∧ k_ ≠ gb364 ∧ k_ ≠ gb365)) k_ ∧ some k_ ≠ (u366007 : Value).ownBlock)) (HL367_7.out) (fun k_ hk => ⟨⟨hk.1, ⟨hk.2.2.1, hk.2.2.2⟩⟩, hk.2.1⟩)))))
              (case aB => exact (by repeat (first | (with_reducible first | exact HB.out | apply below_alloc | apply pw_below_drewN | apply below_drew1 | refine below_set ?_ GE364.out | refine below_set ?_ GE365.out) | exact HB.out)))
              (case aF => exact (fun k_ hk => ⟨(.inr (Nat.le_trans (below_size (by repeat (first | (with_reducible first | exact HB.out | apply below_alloc | apply pw_below_drewN | apply below_drew1 | refine below_set ?_ GE364.out | refine below_set ?_ GE365.out) | exact HB.out))) hk)), Kd.freshB (g := gb364) (o := .cells #[.int .i64 0, .string (⟨#[]⟩ : ByteArray), .string (⟨#[]⟩ : ByteArray), .int .i64 0, .int .u64 0, .int .u64 0, .slice none 0 0, .slice none 0 0] 26 (0, 0)) (by (with_reducible repeat (first | refine blk_drewN ?_ _ | refine blk_drew ?_ | refine blk_alloc ?_ _)); exact BK364.out) k_ hk, Kd.freshB (g := gb365) (o := .cells #[.int .i64 4, .string (⟨#[]⟩ : ByteArray), .string (⟨#[]⟩ : ByteArray), .int .i64 0, .int .u64 0, .int .u64 0, .slice none 0 0, u366007] 26 (0, 0)) (by (with_reducible repeat (first | refine blk_drewN ?_ _ | refine blk_drew ?_ | refine blk_alloc ?_ _)); exact BK365.out) k_ hk⟩))
              (case aO => exact (by (with_reducible repeat (first | apply Kd.N_alloc | apply Kd.N_drewN | apply Kd.N_drew)); exact HO_366007.out))
              (case aS => exact (below_size (by repeat (first | (with_reducible first | exact HB.out | apply below_alloc | apply pw_below_drewN | apply below_drew1 | refine below_set ?_ GE364.out | refine below_set ?_ GE365.out) | exact HB.out))))
              (case aL => have := LMc9.out; omega)
              intro v369 w12 ho hb hg hat
              rw [← Ny368.out] at ho
              have n0_ := Aside0.mk (Kd.V_afterv (ok := (fun k_ => (P0_ k_ ∨ w.heap.size ≤ k_) ∧ k_ ≠ gb364 ∧ k_ ≠ gb365)) (by (with_reducible repeat (first | apply Kd.V_alloc | apply Kd.V_drewN | apply Kd.V_drew)); exact Kd.V_mono HO_0.out (fun _ hk => ⟨⟨hk.1, ⟨hk.2.2.1, hk.2.2.2⟩⟩, hk.2.1⟩)) hg hat)
              have n1_ := Aside0.mk (blk_grown (g := gb364) (o := .cells #[.int .i64 0, .string (⟨#[]⟩ : ByteArray), .string (⟨#[]⟩ : ByteArray), .int .i64 0, .int .u64 0, .int .u64 0, .slice none 0 0, .slice none 0 0] 26 (0, 0)) (by (with_reducible repeat (first | refine blk_drewN ?_ _ | refine blk_drew ?_ | refine blk_alloc ?_ _)); exact BK364.out) hg (Kd.N_ne HO_366007.out BK364.out (by decide)))
              have n2_ := Aside0.mk (blk_grown (g := gb365) (o := .cells #[.int .i64 4, .string (⟨#[]⟩ : ByteArray), .string (⟨#[]⟩ : ByteArray), .int .i64 0, .int .u64 0, .int .u64 0, .slice none 0 0, u366007] 26 (0, 0)) (by (with_reducible repeat (first | refine blk_drewN ?_ _ | refine blk_drew ?_ | refine blk_alloc ?_ _)); exact BK365.out) hg (Kd.N_ne HO_366007.out BK365.out (by decide)))
              have n3_ := Aside0.mk (Kd.V_afterv (ok := (fun k_ => (P0_ k_ ∨ w.heap.size ≤ k_) ∧ k_ ≠ gb364 ∧ k_ ≠ gb365)) (by (with_reducible repeat (first | apply Kd.V_alloc | apply Kd.V_drewN | apply Kd.V_drew)); exact Kd.V_mono HL367_6.out (fun _ hk => ⟨⟨hk.1, ⟨hk.2.2.1, hk.2.2.2⟩⟩, hk.2.1⟩)) hg hat)
              have n4_ := Aside0.mk (Kd.V_afterv (ok := (fun k_ => (P0_ k_ ∨ w.heap.size ≤ k_) ∧ k_ ≠ gb364 ∧ k_ ≠ gb365)) (by (with_reducible repeat (first | apply Kd.V_alloc | apply Kd.V_drewN | apply Kd.V_drew)); exact Kd.V_mono HL367_7.out (fun _ hk => ⟨⟨hk.1, ⟨hk.2.2.1, hk.2.2.2⟩⟩, hk.2.1⟩)) hg hat)
              have n5_ := Aside0.mk (hb)
              have n6_ := Aside0.mk (ho)
              clear HO_0
              clear BK364
              clear BK365
              clear HL367_6
              clear HL367_7
              clear HB
              clear HO_366007
              have HO_0 := n0_
              have BK364 := n1_
              have BK365 := n2_
              have HL367_6 := n3_
              have HL367_7 := n4_
              have HB := n5_
              have HO370 := n6_
              clear n0_ n1_ n2_ n3_ n4_ n5_ n6_
              clear ho hb hg hat
              obtain ⟨Ao13, co13, eo13⟩ := Kd.N_slice HO370.out
              (first | subst eo13 | (injection eo13 with f1_ f2_ f3_; have f4_ := f1_.symm; have f5_ := f3_.symm; clear f1_ f2_ f3_; subst f4_; subst f5_))
              refine hK.out _ _ ?_
              clear hK K
              refine norm_ (a' := ?_) ?_ ?_
              rotate_left
              · show Act.put _ (some 22) _ = _
                simp only [Act.put, List.setIfInBounds_toArray, List.set_cons_zero, List.set_cons_succ, i64_w, i32_w]
                rfl
              refine pure_ (i := 11) (N := some 23) (v := ?_) (a' := ?_) #[true, true, true, true, true, true, true, true, true, true, true, true, false] rfl rfl (any_of HT_.out (by kernel_rfl)) (fun _ _ _ h => h) (Or.inl ⟨by rfl, ?_⟩) ?_ ?_
              rotate_left
              · intro w'
                go_simp
                with_reducible rfl
              rotate_left
              · simp only [Act.put, List.setIfInBounds_toArray, List.set_cons_zero, List.set_cons_succ, i64_w, i32_w]
                rfl
              refine last_ (i := 12) (N := none) #[true, true, true, true, true, true, true, true, true, true, true, true, true] rfl rfl (one_of HT_.out (by kernel_rfl)) (by decide) (fun K hK => ?_)
              have hs14 : w12.cell? ⟨gb365, 7, none⟩ = some (u366007) := (blk_cell BK365.out 7).trans rfl
              have hfs14 := blk_frozen BK365.out 7
              have hns14_0 := NB364_365.out
              have hms14_0 := NB365_364.out
              refine skip_ (w1 := ?_) (by rfl) rfl ?_ ?_
              rotate_left
              · go_simp
                rfl
              refine hK.out _ _ ?_
              clear hK K
              refine done_ (done_of HT_.out (by kernel_rfl)) ?_
              try go_wp2
              go_roundg k1
              case measure => have := HK1.out; omega
              case rel => exact ⟨(wrap64 (x4_1 + 1)), (y368), (.slice Ao13 y368.length co13), (by first | rfl | (simp; done) | (simp [*]; done)), H', ⟨by have := HK1.out; omega⟩, ⟨by (with_reducible repeat (first | apply Kd.V_alloc | apply Kd.V_drewN | apply Kd.V_drew)); exact Kd.V_mono (Kd.V_far (p := ⟨gb365, 7, none⟩) (Kd.V_mono HO_0.out (fun k_ hk => (⟨hk, hk.1.2.2⟩ : _ ∧ k_ ≠ gb365))) (fun _ hk => hk.2) (.slice Ao13 y368.length co13)) (fun _ hk => ⟨hk.1.1.1, ⟨hk.1.2, ⟨hk.1.1.2.1, hk.1.1.2.2⟩⟩⟩)⟩, ⟨by (with_reducible repeat (first | apply Kd.N_alloc | apply Kd.N_drewN | apply Kd.N_drew)); exact Kd.N_mono (Kd.N_far (p := ⟨gb365, 7, none⟩) (Kd.N_mono HO370.out (fun k_ hk => (⟨hk, hk.2.2⟩ : _ ∧ k_ ≠ gb365))) (fun _ hk => hk.2) (.slice Ao13 y368.length co13)) (fun _ hk => ⟨hk.1.1, ⟨hk.1.2.1, hk.1.2.2⟩⟩)⟩, ⟨by (with_reducible repeat (first | refine blk_drewN ?_ _ | refine blk_drew ?_ | refine blk_alloc ?_ _)); refine blk_far ?_ NB364_365.out _; (with_reducible repeat (first | refine blk_drewN ?_ _ | refine blk_drew ?_ | refine blk_alloc ?_ _)); exact BK364.out⟩, ⟨by (with_reducible repeat (first | refine blk_drewN ?_ _ | refine blk_drew ?_ | refine blk_alloc ?_ _)); refine blk_put (cs := #[.int .i64 4, .string (⟨#[]⟩ : ByteArray), .string (⟨#[]⟩ : ByteArray), .int .i64 0, .int .u64 0, .int .u64 0, .slice none 0 0, u366007]) ?_ 7 _ rfl; (with_reducible repeat (first | refine blk_drewN ?_ _ | refine blk_drew ?_ | refine blk_alloc ?_ _)); exact BK365.out⟩, ⟨by repeat (first | (with_reducible first | exact HB.out | apply below_alloc | apply pw_below_drewN | apply below_drew1 | refine below_set ?_ GE364.out | refine below_set ?_ GE365.out) | exact HB.out)⟩⟩
          · rw [if_neg c9] at H
            exact absurd H (by simp)
        · rw [if_neg c8] at H
          exact absurd H (by simp)
      · rw [if_neg c6] at H
        have c6b0 : decide (x4_1 < (l0.length : Int)) = false := decide_eq_false c6
        clear c6
        focus
          simp only [Option.some.injEq, Prod.mk.injEq] at H
          obtain ⟨rfl, rfl, rfl, rfl, rfl, rfl, rfl, rfl⟩ := H
          have hnb15 := NB365_364.out
          have hnc15 := NB364_365.out
          have hcz16_0 : wr.cell? ⟨gb365, 0, none⟩ = some (.int .i64 4) := (blk_cell BK365.out 0).trans rfl
          have hcz16_1 : wr.cell? ⟨gb365, 1, none⟩ = some (.string (⟨#[]⟩ : ByteArray)) := (blk_cell BK365.out 1).trans rfl
          have hcz16_2 : wr.cell? ⟨gb365, 2, none⟩ = some (.string (⟨#[]⟩ : ByteArray)) := (blk_cell BK365.out 2).trans rfl
          have hcz16_3 : wr.cell? ⟨gb365, 3, none⟩ = some (.int .i64 0) := (blk_cell BK365.out 3).trans rfl
          have hcz16_4 : wr.cell? ⟨gb365, 4, none⟩ = some (.int .u64 0) := (blk_cell BK365.out 4).trans rfl
          have hcz16_5 : wr.cell? ⟨gb365, 5, none⟩ = some (.int .u64 0) := (blk_cell BK365.out 5).trans rfl
          have hcz16_6 : wr.cell? ⟨gb365, 6, none⟩ = some (.slice none 0 0) := (blk_cell BK365.out 6).trans rfl
          have hcz16_7 : wr.cell? ⟨gb365, 7, none⟩ = some (u366007) := (blk_cell BK365.out 7).trans rfl
          have hfz16_0 := blk_frozen BK365.out 0
          have hfz16_1 := blk_frozen BK365.out 1
          have hfz16_2 := blk_frozen BK365.out 2
          have hfz16_3 := blk_frozen BK365.out 3
          have hfz16_4 := blk_frozen BK365.out 4
          have hfz16_5 := blk_frozen BK365.out 5
          have hfz16_6 := blk_frozen BK365.out 6
          have hfz16_7 := blk_frozen BK365.out 7
          have hcz17_0 : wr.cell? ⟨gb364, 0, none⟩ = some (.int .i64 0) := (blk_cell BK364.out 0).trans rfl
          have hcz17_1 : wr.cell? ⟨gb364, 1, none⟩ = some (.string (⟨#[]⟩ : ByteArray)) := (blk_cell BK364.out 1).trans rfl
          have hcz17_2 : wr.cell? ⟨gb364, 2, none⟩ = some (.string (⟨#[]⟩ : ByteArray)) := (blk_cell BK364.out 2).trans rfl
          have hcz17_3 : wr.cell? ⟨gb364, 3, none⟩ = some (.int .i64 0) := (blk_cell BK364.out 3).trans rfl
          have hcz17_4 : wr.cell? ⟨gb364, 4, none⟩ = some (.int .u64 0) := (blk_cell BK364.out 4).trans rfl
          have hcz17_5 : wr.cell? ⟨gb364, 5, none⟩ = some (.int .u64 0) := (blk_cell BK364.out 5).trans rfl
          have hcz17_6 : wr.cell? ⟨gb364, 6, none⟩ = some (.slice none 0 0) := (blk_cell BK364.out 6).trans rfl
          have hcz17_7 : wr.cell? ⟨gb364, 7, none⟩ = some (.slice none 0 0) := (blk_cell BK364.out 7).trans rfl
          have hfz17_0 := blk_frozen BK364.out 0
          have hfz17_1 := blk_frozen BK364.out 1
          have hfz17_2 := blk_frozen BK364.out 2
          have hfz17_3 := blk_frozen BK364.out 3
          have hfz17_4 := blk_frozen BK364.out 4
          have hfz17_5 := blk_frozen BK364.out 5
          have hfz17_6 := blk_frozen BK364.out 6
          have hfz17_7 := blk_frozen BK364.out 7
          obtain ⟨Ao18, co18, eo18⟩ := Kd.N_slice HO_366007.out
          subst eo18
          go_wp2
          refine bodyPost_ret (results_cell_row rfl _ _ gb364 26 #[.int .i64 4, .string (⟨#[]⟩ : ByteArray), .string (⟨#[]⟩ : ByteArray), .int .i64 0, .int .u64 0, .int .u64 0, .slice none 0 0, .slice Ao18 x366007_1.length co18] (0, 0) _ rfl (by (with_reducible repeat (first | refine blk_drewN ?_ _ | refine blk_drew ?_ | refine blk_alloc ?_ _)); refine blk_put (cs := #[.int .i64 4, .string (⟨#[]⟩ : ByteArray), .string (⟨#[]⟩ : ByteArray), .int .i64 0, .int .u64 0, .int .u64 0, .slice none 0 0, .slice none 0 0]) ?_ 7 _ rfl; (with_reducible repeat (first | refine blk_drewN ?_ _ | refine blk_drew ?_ | refine blk_alloc ?_ _)); refine blk_put (cs := #[.int .i64 4, .string (⟨#[]⟩ : ByteArray), .string (⟨#[]⟩ : ByteArray), .int .i64 0, .int .u64 0, .int .u64 0, .slice none 0 0, .slice none 0 0]) ?_ 6 _ rfl; (with_reducible repeat (first | refine blk_drewN ?_ _ | refine blk_drew ?_ | refine blk_alloc ?_ _)); refine blk_put (cs := #[.int .i64 4, .string (⟨#[]⟩ : ByteArray), .string (⟨#[]⟩ : ByteArray), .int .i64 0, .int .u64 0, .int .u64 0, .slice none 0 0, .slice none 0 0]) ?_ 5 _ rfl; (with_reducible repeat (first | refine blk_drewN ?_ _ | refine blk_drew ?_ | refine blk_alloc ?_ _)); refine blk_put (cs := #[.int .i64 4, .string (⟨#[]⟩ : ByteArray), .string (⟨#[]⟩ : ByteArray), .int .i64 0, .int .u64 0, .int .u64 0, .slice none 0 0, .slice none 0 0]) ?_ 4 _ rfl; (with_reducible repeat (first | refine blk_drewN ?_ _ | refine blk_drew ?_ | refine blk_alloc ?_ _)); refine blk_put (cs := #[.int .i64 4, .string (⟨#[]⟩ : ByteArray), .string (⟨#[]⟩ : ByteArray), .int .i64 0, .int .u64 0, .int .u64 0, .slice none 0 0, .slice none 0 0]) ?_ 3 _ rfl; (with_reducible repeat (first | refine blk_drewN ?_ _ | refine blk_drew ?_ | refine blk_alloc ?_ _)); refine blk_put (cs := #[.int .i64 4, .string (⟨#[]⟩ : ByteArray), .string (⟨#[]⟩ : ByteArray), .int .i64 0, .int .u64 0, .int .u64 0, .slice none 0 0, .slice none 0 0]) ?_ 2 _ rfl; (with_reducible repeat (first | refine blk_drewN ?_ _ | refine blk_drew ?_ | refine blk_alloc ?_ _)); refine blk_put (cs := #[.int .i64 4, .string (⟨#[]⟩ : ByteArray), .string (⟨#[]⟩ : ByteArray), .int .i64 0, .int .u64 0, .int .u64 0, .slice none 0 0, .slice none 0 0]) ?_ 1 _ rfl; (with_reducible repeat (first | refine blk_drewN ?_ _ | refine blk_drew ?_ | refine blk_alloc ?_ _)); refine blk_put (cs := #[.int .i64 0, .string (⟨#[]⟩ : ByteArray), .string (⟨#[]⟩ : ByteArray), .int .i64 0, .int .u64 0, .int .u64 0, .slice none 0 0, .slice none 0 0]) ?_ 0 _ rfl; (with_reducible repeat (first | refine blk_drewN ?_ _ | refine blk_drew ?_ | refine blk_alloc ?_ _)); exact BK364.out) Tryd.underlying26 rfl (by kernel_rfl)) rfl ?_
          exact ⟨_, _, by first | rfl | (simp [errW_none, errW_some] <;> rfl) | (simp [*, errW_none, errW_some] <;> rfl), by first | exact Kd.R_nil _ _ _ _ _ | exact Kd.N_nil _ _ _ _ _ | exact Kd.V_nil _ _ _ _ _ | exact Kd.Q_nil _ _ _ _ _ | exact Kd.S_nil _ _ _ _ _, by (with_reducible repeat (first | apply Kd.N_alloc | apply Kd.N_drewN | apply Kd.N_drew)); exact Kd.N_mono (Kd.N_far (p := ⟨gb364, 7, none⟩) (Kd.N_far (p := ⟨gb364, 6, none⟩) (Kd.N_far (p := ⟨gb364, 5, none⟩) (Kd.N_far (p := ⟨gb364, 4, none⟩) (Kd.N_far (p := ⟨gb364, 3, none⟩) (Kd.N_far (p := ⟨gb364, 2, none⟩) (Kd.N_far (p := ⟨gb364, 1, none⟩) (Kd.N_far (p := ⟨gb364, 0, none⟩) (Kd.N_mono HO_366007.out (fun k_ hk => (⟨hk, hk.2.1⟩ : _ ∧ k_ ≠ gb364))) (fun _ hk => hk.2) (.int .i64 4)) (fun _ hk => hk.2) (.string (⟨#[]⟩ : ByteArray))) (fun _ hk => hk.2) (.string (⟨#[]⟩ : ByteArray))) (fun _ hk => hk.2) (.int .i64 0)) (fun _ hk => hk.2) (.int .u64 0)) (fun _ hk => hk.2) (.int .u64 0)) (fun _ hk => hk.2) (.slice none 0 0)) (fun _ hk => hk.2) (.slice Ao18 x366007_1.length co18)) (fun _ hk => ⟨hk.1.1, (by simp [Value.ownBlock])⟩), by repeat (first | (with_reducible first | exact HB.out | apply below_alloc | apply pw_below_drewN | apply below_drew1 | refine below_set ?_ GE364.out | refine below_set ?_ GE365.out) | exact HB.out)⟩

/-! ### laws_docRaw: function 16 -/
def laws_docRaw.f (k : Nat) (a0_0 : Int) (a0_1 : ByteArray) (a0_2 : ByteArray) (a0_3 : Int) (a0_4 : Int) (a0_5 : Int) (l0_6 : List Int) (l0_7 : List (S31)) : Option (Int × List Int) := (spec_DocValue.f k a0_0 a0_1 a0_2 a0_3 a0_4 a0_5 l0_6 l0_7).bind fun t373 => (some (a0_0, t373))
theorem laws_docRaw.mono : ∀ a0 a1 a2 a3 a4 a5 a6 a7 k, LeO (laws_docRaw.f k a0 a1 a2 a3 a4 a5 a6 a7) (laws_docRaw.f (k + 1) a0 a1 a2 a3 a4 a5 a6 a7) := by
  intro a0 a1 a2 a3 a4 a5 a6 a7 k
  unfold laws_docRaw.f
  repeat' first
      | (with_reducible exact spec_DocValue.mono _ _ _ _ _ _ _ _ _)
      | (with_reducible exact LeO.refl _)
      | (with_reducible exact LeO.none _)
      | (with_reducible refine LeO.ite ?_ ?_)
      | (with_reducible refine LeO.bind ?_ (fun _ => ?_))
      | exact spec_DocValue.mono _ _ _ _ _ _ _ _ _
      | exact LeO.none _
      | refine LeO.ite ?_ ?_
      | refine LeO.bind ?_ (fun _ => ?_)
set_option maxHeartbeats 8000000 in
set_option maxRecDepth 100000 in
theorem laws_docRaw.calls (k : Nat) (a0_0 : Int) (a0_1 : ByteArray) (a0_2 : ByteArray) (a0_3 : Int) (a0_4 : Int) (a0_5 : Int) (A0_6 : Option Addr) (c0_6 : Nat) (l0_6 : List Int) (A0_7 : Option Addr) (c0_7 : Nat) (l0_7 : List (S31)) (r1 : Int) (r2 : List Int) (w : World) (hr0_6 : Kd.C (Kd.int .u8) w A0_6 l0_6.length l0_6) (hc0_6 : l0_6.length ≤ c0_6) (hr0_7 : Kd.C k31 w A0_7 l0_7.length l0_7) (hc0_7 : l0_7.length ≤ c0_7) (h : laws_docRaw.f k a0_0 a0_1 a0_2 a0_3 a0_4 a0_5 l0_6 l0_7 = some (r1, r2)) :
    Calls Tryd.prog 16 #[.agg #[.int .i64 a0_0, .string a0_1, .string a0_2, .int .i64 a0_3, .int .u64 a0_4, .int .u64 a0_5, .slice A0_6 l0_6.length c0_6, .slice A0_7 l0_7.length c0_7]] w fun e w' => ∃ v1_ : Value, e = .returned (.agg #[.int .i64 r1, v1_]) ∧ Kd.R (Kd.int .u8) 5 w' w.heap.size (fun _ => True) v1_ r2 ∧ Below w.heap.size w w' := by
  have hu26 := Tryd.underlying26
  have hu37 := Tryd.underlying37
  have HR0_6 := Aside0.mk hr0_6
  have HC0_6 := Aside0.mk hc0_6
  clear hr0_6 hc0_6
  have HR0_7 := Aside0.mk hr0_7
  have HC0_7 := Aside0.mk hc0_7
  clear hr0_7 hc0_7
  have HB := Aside0.mk (Below.refl w.heap.size w)
  have H : ((spec_DocValue.f k a0_0 a0_1 a0_2 a0_3 a0_4 a0_5 l0_6 l0_7).bind fun t373 => (some (a0_0, t373))) = some (r1, r2) := h
  clear h
  replace H := Option.bind_eq_some_iff.mp H
  obtain ⟨t373, A20, H⟩ := H
  replace H : (some (a0_0, t373)) = some (r1, r2) := H
  have A2 := Aside0.mk A20
  clear A20
  focus
    simp only [Option.some.injEq, Prod.mk.injEq] at H
    obtain ⟨rfl, rfl⟩ := H
    go_enter Tryd.func16, Tryd.ntmps16
    try go_wp2_with (first | ((with_reducible refine gate_dst (N := 1) rfl ?_); refine box_event ?hg (N := 1) ?hd (cs := #[.int .i64 a0_0, .string a0_1, .string a0_2, .int .i64 a0_3, .int .u64 a0_4, .int .u64 a0_5, .slice A0_6 l0_6.length c0_6, .slice A0_7 l0_7.length c0_7]) (t := 26) ?hr ?_; (case hd => rfl); (case hg => rfl); (case hr => first | (go_simp; done) | (go_simp; rfl)); intro gb371 hg w3 hbox hb; have n0_ := Aside0.mk (below_step (by repeat (first | (with_reducible first | exact HB.out | apply below_alloc | apply pw_below_drewN | apply below_drew1) | exact HB.out)) hb); have n1_ := Aside0.mk (hbox); have n2_ := Aside0.mk ((by rw [hg]; exact (below_size (by repeat (first | (with_reducible first | exact HB.out | apply below_alloc | apply pw_below_drewN | apply below_drew1) | exact HB.out))) : w.heap.size ≤ gb371)); have n3_ := Aside0.mk ((by rw [hg]; exact (below_size (by repeat (first | (with_reducible first | exact HB.out | apply below_alloc | apply pw_below_drewN | apply below_drew1) | exact HB.out))) : w.heap.size ≤ gb371)); clear HB; have HB := n0_; have BK371 := n1_; have GW371 := n2_; have GE371 := n3_; clear n0_ n1_ n2_ n3_; clear hb hbox hg) | ((with_reducible refine gate_dst (N := 2) rfl ?_); refine box_event ?hg (N := 2) ?hd (cs := #[.int .i64 0, .slice none 0 0]) (t := 37) ?hr ?_; (case hd => rfl); (case hg => rfl); (case hr => first | (go_simp; done) | (go_simp; rfl)); intro gb372 hg w4 hbox hb; have n0_ := Aside0.mk (blk_below (g := gb371) (o := .cells #[.int .i64 a0_0, .string a0_1, .string a0_2, .int .i64 a0_3, .int .u64 a0_4, .int .u64 a0_5, .slice A0_6 l0_6.length c0_6, .slice A0_7 l0_7.length c0_7] 26 (0, 0)) (by (with_reducible repeat (first | refine blk_drewN ?_ _ | refine blk_drew ?_ | refine blk_alloc ?_ _)); exact BK371.out) hb); have n1_ := Aside0.mk (below_step (by repeat (first | (with_reducible first | exact HB.out | apply below_alloc | apply pw_below_drewN | apply below_drew1 | refine below_set ?_ GE371.out) | exact HB.out)) hb); have n2_ := Aside0.mk (hbox); have n3_ := Aside0.mk ((by rw [hg]; exact (below_size (by repeat (first | (with_reducible first | exact HB.out | apply below_alloc | apply pw_below_drewN | apply below_drew1 | refine below_set ?_ GE371.out) | exact HB.out))) : w.heap.size ≤ gb372)); have n4_ := Aside0.mk ((by rw [hg]; exact (below_size (by repeat (first | (with_reducible first | exact HB.out | apply below_alloc | apply pw_below_drewN | apply below_drew1 | refine below_set ?_ GE371.out) | exact HB.out))) : w.heap.size ≤ gb372)); have n5_ := Aside0.mk ((by rw [hg]; exact Nat.ne_of_lt (blk_lt (g := gb371) (o := .cells #[.int .i64 a0_0, .string a0_1, .string a0_2, .int .i64 a0_3, .int .u64 a0_4, .int .u64 a0_5, .slice A0_6 l0_6.length c0_6, .slice A0_7 l0_7.length c0_7] 26 (0, 0)) (by (with_reducible repeat (first | refine blk_drewN ?_ _ | refine blk_drew ?_ | refine blk_alloc ?_ _)); exact BK371.out)) : gb371 ≠ gb372)); have n6_ := Aside0.mk ((by rw [hg]; exact Nat.ne_of_gt (blk_lt (g := gb371) (o := .cells #[.int .i64 a0_0, .string a0_1, .string a0_2, .int .i64 a0_3, .int .u64 a0_4, .int .u64 a0_5, .slice A0_6 l0_6.length c0_6, .slice A0_7 l0_7.length c0_7] 26 (0, 0)) (by (with_reducible repeat (first | refine blk_drewN ?_ _ | refine blk_drew ?_ | refine blk_alloc ?_ _)); exact BK371.out)) : gb372 ≠ gb371)); clear BK371; clear HB; have BK371 := n0_; have HB := n1_; have BK372 := n2_; have GW372 := n3_; have GE372 := n4_; have NB371_372 := n5_; have NB372_371 := n6_; clear n0_ n1_ n2_ n3_ n4_ n5_ n6_; clear hb hbox hg))
    have n0_ := Aside0.mk (blk_drew BK371.out)
    have n1_ := Aside0.mk (blk_drew BK372.out)
    have n2_ := Aside0.mk (below_drew1 HB.out)
    clear BK371
    clear BK372
    clear HB
    have BK371 := n0_
    have BK372 := n1_
    have HB := n2_
    clear n0_ n1_ n2_
    refine start_ (n := 6) (S := fun w' => w'.cell? ⟨gb371, 0, none⟩ = some (.int .i64 a0_0) ∧ w'.cell? ⟨gb371, 1, none⟩ = some (.string a0_1) ∧ w'.cell? ⟨gb371, 2, none⟩ = some (.string a0_2) ∧ w'.cell? ⟨gb371, 3, none⟩ = some (.int .i64 a0_3) ∧ w'.cell? ⟨gb371, 4, none⟩ = some (.int .u64 a0_4) ∧ w'.cell? ⟨gb371, 5, none⟩ = some (.int .u64 a0_5) ∧ w'.cell? ⟨gb371, 6, none⟩ = some (.slice A0_6 l0_6.length c0_6) ∧ w'.cell? ⟨gb371, 7, none⟩ = some (.slice A0_7 l0_7.length c0_7)) (ds := []) #[false, false, false, false, false, false] (by kernel_rfl) rfl rfl ⟨(blk_cell BK371.out 0).trans rfl, (blk_cell BK371.out 1).trans rfl, (blk_cell BK371.out 2).trans rfl, (blk_cell BK371.out 3).trans rfl, (blk_cell BK371.out 4).trans rfl, (blk_cell BK371.out 5).trans rfl, (blk_cell BK371.out 6).trans rfl, (blk_cell BK371.out 7).trans rfl⟩ (fun hHeld => ?_)
    generalize w4.drew = w5 at BK371 BK372 HB hHeld ⊢
    refine pure_ (i := 0) (N := some 3) (v := ?_) (a' := ?_) #[true, false, false, false, false, false] rfl rfl (by kernel_rfl) (fun _ _ _ h => h) (Or.inl ⟨by rfl, ?_⟩) ?_ ?_
    rotate_left
    · intro w'
      go_simp
      with_reducible rfl
    rotate_left
    · simp only [Act.put, List.setIfInBounds_toArray, List.set_cons_zero, List.set_cons_succ, i64_w, i32_w]
      rfl
    refine take_ (i := 1) (N := some 4) (v := ?_) (a' := ?_) #[true, true, false, false, false, false] rfl rfl (by kernel_rfl) (fun _ _ _ h => h) (Or.inl ⟨by rfl, ?_⟩) hHeld ?_ ?_
    rotate_left
    · rintro w' ⟨s0, s1, s2, s3, s4, s5, s6, s7⟩
      go_simp
      with_reducible rfl
    rotate_left
    · simp only [Act.put, List.setIfInBounds_toArray, List.set_cons_zero, List.set_cons_succ, i64_w, i32_w]
      rfl
    refine take_ (i := 2) (N := some 5) (v := ?_) (a' := ?_) #[true, true, true, false, false, false] rfl rfl (by kernel_rfl) (fun _ _ _ h => h) (Or.inl ⟨by rfl, ?_⟩) hHeld ?_ ?_
    rotate_left
    · rintro w' ⟨s0, s1, s2, s3, s4, s5, s6, s7⟩
      go_simp
      with_reducible rfl
    rotate_left
    · simp only [Act.put, List.setIfInBounds_toArray, List.set_cons_zero, List.set_cons_succ, i64_w, i32_w]
      rfl
    refine one_ (i := 3) (N := some 6) #[true, true, true, true, false, false] rfl rfl (by kernel_rfl) (by decide) (fun K hK => ?_)
    refine goes_ Tryd.func13 (by kernel_rfl) rfl #[.agg #[.int .i64 a0_0, .string a0_1, .string a0_2, .int .i64 a0_3, .int .u64 a0_4, .int .u64 a0_5, .slice A0_6 l0_6.length c0_6, .slice A0_7 l0_7.length c0_7]] (by rfl) rfl rfl (by (try simp only [List.map_toArray, List.map_cons, List.map_nil]); first | done | rfl | (simp only [List.length_drop, List.length_take]; rfl)) ?_
    with_reducible refine (spec_DocValue.calls k a0_0 a0_1 a0_2 a0_3 a0_4 a0_5 _ _ l0_6 _ _ l0_7 t373 _ ?side1 ?side2 ?side3 ?side4 A2.out).mono ?_
    (case side1 => repeat (first | exact (Kd.C_below HR0_6.out HB.out) | (with_reducible refine Kd.C_alloc ?_ _) | (with_reducible refine Kd.C_drewN ?_ _) | (with_reducible refine Kd.C_drew ?_)))
    (case side2 => exact HC0_6.out)
    (case side3 => repeat (first | exact (Kd.C_below HR0_7.out HB.out) | (with_reducible refine Kd.C_alloc ?_ _) | (with_reducible refine Kd.C_drewN ?_ _) | (with_reducible refine Kd.C_drew ?_)))
    (case side4 => exact HC0_7.out)
    rintro e w6 ⟨v374, rfl, ho0, hb⟩
    refine ⟨_, rfl, ?_⟩
    have n0_ := Aside0.mk (Kd.R_lower ho0 (below_size (by repeat (first | (with_reducible first | exact HB.out | apply below_alloc | apply pw_below_drewN | apply below_drew1 | refine below_set ?_ GE371.out | refine below_set ?_ GE372.out) | exact HB.out))))
    have n1_ := Aside0.mk (blk_below (g := gb371) (o := .cells #[.int .i64 a0_0, .string a0_1, .string a0_2, .int .i64 a0_3, .int .u64 a0_4, .int .u64 a0_5, .slice A0_6 l0_6.length c0_6, .slice A0_7 l0_7.length c0_7] 26 (0, 0)) (by (with_reducible repeat (first | refine blk_drewN ?_ _ | refine blk_drew ?_ | refine blk_alloc ?_ _)); exact BK371.out) hb)
    have n2_ := Aside0.mk (blk_below (g := gb372) (o := .cells #[.int .i64 0, .slice none 0 0] 37 (0, 0)) (by (with_reducible repeat (first | refine blk_drewN ?_ _ | refine blk_drew ?_ | refine blk_alloc ?_ _)); exact BK372.out) hb)
    have n3_ := Aside0.mk (below_step (by repeat (first | (with_reducible first | exact HB.out | apply below_alloc | apply pw_below_drewN | apply below_drew1 | refine below_set ?_ GE371.out | refine below_set ?_ GE372.out) | exact HB.out)) hb)
    clear BK371
    clear BK372
    clear HB
    have HO375 := n0_
    have BK371 := n1_
    have BK372 := n2_
    have HB := n3_
    clear n0_ n1_ n2_ n3_
    (try clear hb)
    (try clear hb2)
    (try clear hk)
    (try clear hi)
    (try clear ho0)
    obtain ⟨Ao7, co7, eo7⟩ := Kd.R_slice HO375.out
    (first | subst eo7 | (injection eo7 with f1_ f2_ f3_; have f4_ := f1_.symm; have f5_ := f3_.symm; clear f1_ f2_ f3_; subst f4_; subst f5_))
    refine hK.out _ _ ⟨(blk_cell BK371.out 0).trans rfl, (blk_cell BK371.out 1).trans rfl, (blk_cell BK371.out 2).trans rfl, (blk_cell BK371.out 3).trans rfl, (blk_cell BK371.out 4).trans rfl, (blk_cell BK371.out 5).trans rfl, (blk_cell BK371.out 6).trans rfl, (blk_cell BK371.out 7).trans rfl⟩ (fun hHeld => ?_)
    clear hK K
    refine norm_ (a' := ?_) ?_ ?_
    rotate_left
    · show Act.put _ (some 6) _ = _
      simp only [Act.put, List.setIfInBounds_toArray, List.set_cons_zero, List.set_cons_succ, i64_w, i32_w]
      rfl
    refine pure_ (i := 4) (N := some 7) (v := ?_) (a' := ?_) #[true, true, true, true, true, false] rfl rfl (by kernel_rfl) (fun _ _ _ h => h) (Or.inl ⟨by rfl, ?_⟩) ?_ ?_
    rotate_left
    · intro w'
      go_simp
      with_reducible rfl
    rotate_left
    · simp only [Act.put, List.setIfInBounds_toArray, List.set_cons_zero, List.set_cons_succ, i64_w, i32_w]
      rfl
    refine one_ (i := 5) (N := none) #[true, true, true, true, true, true] rfl rfl (by kernel_rfl) (by decide) (fun K hK => ?_)
    have hs8 : w6.cell? ⟨gb372, 0, none⟩ = some (.int .i64 0) := (blk_cell BK372.out 0).trans rfl
    have hfs8 := blk_frozen BK372.out 0
    have hns8_0 := NB371_372.out
    have hms8_0 := NB372_371.out
    have hs9 : w6.cell? ⟨gb372, 1, none⟩ = some (.slice none 0 0) := (blk_cell BK372.out 1).trans rfl
    have hfs9 := blk_frozen BK372.out 1
    have hns9_0 := NB371_372.out
    have hms9_0 := NB372_371.out
    refine skip_ (w1 := ?_) (by rfl) rfl ?_ ?_
    rotate_left
    · go_simp
      rfl
    refine hK.out _ _ ⟨((cell_far (p := ⟨gb372, _, none⟩) NB371_372.out _).trans (((cell_far (p := ⟨gb372, _, none⟩) NB371_372.out _).trans (hHeld.1)))), ((cell_far (p := ⟨gb372, _, none⟩) NB371_372.out _).trans (((cell_far (p := ⟨gb372, _, none⟩) NB371_372.out _).trans (hHeld.2.1)))), ((cell_far (p := ⟨gb372, _, none⟩) NB371_372.out _).trans (((cell_far (p := ⟨gb372, _, none⟩) NB371_372.out _).trans (hHeld.2.2.1)))), ((cell_far (p := ⟨gb372, _, none⟩) NB371_372.out _).trans (((cell_far (p := ⟨gb372, _, none⟩) NB371_372.out _).trans (hHeld.2.2.2.1)))), ((cell_far (p := ⟨gb372, _, none⟩) NB371_372.out _).trans (((cell_far (p := ⟨gb372, _, none⟩) NB371_372.out _).trans (hHeld.2.2.2.2.1)))), ((cell_far (p := ⟨gb372, _, none⟩) NB371_372.out _).trans (((cell_far (p := ⟨gb372, _, none⟩) NB371_372.out _).trans (hHeld.2.2.2.2.2.1)))), ((cell_far (p := ⟨gb372, _, none⟩) NB371_372.out _).trans (((cell_far (p := ⟨gb372, _, none⟩) NB371_372.out _).trans (hHeld.2.2.2.2.2.2.1)))), ((cell_far (p := ⟨gb372, _, none⟩) NB371_372.out _).trans (((cell_far (p := ⟨gb372, _, none⟩) NB371_372.out _).trans (hHeld.2.2.2.2.2.2.2))))⟩ (fun hHeld => ?_)
    clear hK K
    refine done_ (by kernel_rfl) ?_
    try go_wp2
    refine bodyPost_ret (results_cell_row rfl _ _ gb372 37 #[.int .i64 a0_0, .slice Ao7 t373.length co7] (0, 0) _ rfl (by (with_reducible repeat (first | refine blk_drewN ?_ _ | refine blk_drew ?_ | refine blk_alloc ?_ _)); refine blk_put (cs := #[.int .i64 a0_0, .slice none 0 0]) ?_ 1 _ rfl; (with_reducible repeat (first | refine blk_drewN ?_ _ | refine blk_drew ?_ | refine blk_alloc ?_ _)); refine blk_put (cs := #[.int .i64 0, .slice none 0 0]) ?_ 0 _ rfl; (with_reducible repeat (first | refine blk_drewN ?_ _ | refine blk_drew ?_ | refine blk_alloc ?_ _)); exact BK372.out) Tryd.underlying37 rfl (by kernel_rfl)) rfl ?_
    exact ⟨_, by first | rfl | (simp [errW_none, errW_some] <;> rfl) | (simp [*, errW_none, errW_some] <;> rfl), by (with_reducible repeat (first | apply Kd.R_alloc | apply Kd.R_drewN | apply Kd.R_drew)); exact Kd.R_mono (Kd.R_far (p := ⟨gb372, 1, none⟩) (Kd.R_far (p := ⟨gb372, 0, none⟩) (Kd.R_types HO375.out BK372.out (by decide)) (fun _ hk => hk.2) (.int .i64 a0_0)) (fun _ hk => hk.2) (.slice Ao7 t373.length co7)) (fun _ hk => trivial), by repeat (first | (with_reducible first | exact HB.out | apply below_alloc | apply pw_below_drewN | apply below_drew1 | refine below_set ?_ GE371.out | refine below_set ?_ GE372.out) | exact HB.out)⟩

/-! ### impl_own: function 26 -/
def impl_own.f (l0 : List Int) : Option (List Int) := if ([] : List Int).length + l0.length < 140737488355328 then (some (([] : List Int) ++ l0)) else (none)
set_option maxHeartbeats 8000000 in
set_option maxRecDepth 100000 in
theorem impl_own.calls (A0 : Option Addr) (c0 : Nat) (l0 : List Int) (r : List Int) (w : World) (hr0 : Kd.C (Kd.int .u8) w A0 l0.length l0) (hc0 : l0.length ≤ c0) (h : impl_own.f l0 = some r) :
    Calls Tryd.prog 26 #[.slice A0 l0.length c0] w fun e w' => ∃ v0_ : Value, e = .returned (v0_) ∧ Kd.R (Kd.int .u8) 5 w' w.heap.size (fun _ => True) v0_ r ∧ Below w.heap.size w w' := by
  have HR0 := Aside0.mk hr0
  have HC0 := Aside0.mk hc0
  clear hr0 hc0
  have HB := Aside0.mk (Below.refl w.heap.size w)
  have H : (if ([] : List Int).length + l0.length < 140737488355328 then (some (([] : List Int) ++ l0)) else (none)) = some r := h
  clear h
  by_cases c2 : ([] : List Int).length + l0.length < 140737488355328
  · rw [if_pos c2] at H
    have LMc2 := Aside0.mk c2
    clear c2
    obtain ⟨y376, hy376⟩ : ∃ y_ : List Int, y_ = (([] : List Int) ++ l0) := ⟨_, rfl⟩
    replace H : (some y376) = some r := by first | (rw [hy376]; with_reducible exact H) | (have H2_ := (Option.bind_some _ _).symm.trans H; rw [hy376]; with_reducible exact H2_) | (have H2_ := (Option.bind_some _ _).symm.trans H; with_reducible exact H2_) | with_reducible exact H | (rw [hy376]; exact H) | exact H
    have Ny376 := Aside0.mk hy376
    clear hy376
    focus
      obtain rfl := Option.some.inj H
      go_enter Tryd.func26, Tryd.ntmps26
      go_wp2_with (first | ((with_reducible refine gate_builtin (b := .append) (xs := #[.const (.slice none 0 0), .tmp 3]) rfl ?_); at_builtin; refine Kd.R_append_rows (Kd.int .u8) (w0 := w) w.heap.size rfl (.const (.slice none 0 0)) (.tmp 3) 23 5 (.int .u8 0) 1 rfl Tryd.underlying23 info5 rfl (by decide) (by omega) (.slice none 0 0) ([] : List Int) l0 _ _ _ (fun _ => True) (fun _ => False) rfl rfl ?aO ?aR (fun _ _ h => h) (fun _ h => h.elim) ?aF ?aB ?aS ?aL ?_; (case aR => repeat (first | exact HR0.out | (with_reducible refine Kd.C_alloc ?_ _) | (with_reducible refine Kd.C_drewN ?_ _) | (with_reducible refine Kd.C_drew ?_))); (case aB => exact (by repeat (first | (with_reducible first | exact HB.out | apply below_alloc | apply pw_below_drewN | apply below_drew1) | exact HB.out))); (case aF => exact (fun _ _ => trivial)); (case aO => exact ((Kd.R_nil _ _ _ _ (fun _ => True)))); (case aS => exact (below_size (by repeat (first | (with_reducible first | exact HB.out | apply below_alloc | apply pw_below_drewN | apply below_drew1) | exact HB.out)))); (case aL => have := LMc2.out; omega); intro v377 w3 ho hb hg hat; rw [← Ny376.out] at ho; have n0_ := Aside0.mk (hb); have n1_ := Aside0.mk (ho); clear HB; have HB := n0_; have HO378 := n1_; clear n0_ n1_; clear ho hb hg hat))
      go_ret
      exact ⟨_, by first | rfl | (simp [errW_none, errW_some] <;> rfl) | (simp [*, errW_none, errW_some] <;> rfl), by (with_reducible repeat (first | apply Kd.R_alloc | apply Kd.R_drewN | apply Kd.R_drew)); exact HO378.out, by repeat (first | (with_reducible first | exact HB.out | apply below_alloc | apply pw_below_drewN | apply below_drew1) | exact HB.out)⟩
  · rw [if_neg c2] at H
    exact absurd H (by simp)

/-! ### bsoncore_ReserveLength: function 52 -/
def bsoncore_ReserveLength.f (l0 : List Int) : Option (Int × List Int) := (some (([0, 0, 0, 0] : List Int) : List Int)).bind fun y379 => (if l0.length + y379.length < 140737488355328 then (some (wrap32 ((l0.length : Int)), (l0 ++ y379))) else (none))
set_option maxHeartbeats 8000000 in
set_option maxRecDepth 100000 in
theorem bsoncore_ReserveLength.calls (P0_ : Nat → Prop) (u9000_ : Value) (l0 : List Int) (r1 : Int) (r2 : List Int) (w0 w : World) (hB : Below w0.heap.size w0 w) (ho0 : Kd.R (Kd.int .u8) 5 w w0.heap.size P0_ u9000_ l0) (h : bsoncore_ReserveLength.f l0 = some (r1, r2)) :
    Calls Tryd.prog 52 #[u9000_] w fun e w' => ∃ v1_ : Value, e = .returned (.tuple #[.int .i32 r1, v1_]) ∧ Kd.R (Kd.int .u8) 5 w' w0.heap.size (fun k_ => (P0_ k_ ∨ w.heap.size ≤ k_)) v1_ r2 ∧ Below w0.heap.size w0 w' ∧ Kept w w' (fun k_ => P0_ k_) := by
  have HO0 := Aside0.mk (show Kd.R (Kd.int .u8) 5 w w0.heap.size (fun k_ => (P0_ k_ ∨ w.heap.size ≤ k_)) u9000_ l0 from Kd.R_mono ho0 (fun k_ hk => (.inl hk)))
  have HK := Aside0.mk (Kept.refl w (fun k_ => P0_ k_))
  have HW0 := Aside0.mk hB.size
  have HB := Aside0.mk hB
  clear hB
  have H : ((some (([0, 0, 0, 0] : List Int) : List Int)).bind fun y379 => (if l0.length + y379.length < 140737488355328 then (some (wrap32 ((l0.length : Int)), (l0 ++ y379))) else (none))) = some (r1, r2) := h
  clear h
  obtain ⟨y379, hy379⟩ : ∃ y_ : List Int, y_ = (([0, 0, 0, 0] : List Int)) := ⟨_, rfl⟩
  replace H : (if l0.length + y379.length < 140737488355328 then (some (wrap32 ((l0.length : Int)), (l0 ++ y379))) else (none)) = some (r1, r2) := by first | (rw [hy379]; with_reducible exact H) | (have H2_ := (Option.bind_some _ _).symm.trans H; rw [hy379]; with_reducible exact H2_) | (have H2_ := (Option.bind_some _ _).symm.trans H; with_reducible exact H2_) | with_reducible exact H | (rw [hy379]; exact H) | exact H
  have Ny379 := Aside0.mk hy379
  clear hy379
  by_cases c2 : l0.length + y379.length < 140737488355328
  · rw [if_pos c2] at H
    have LMc2 := Aside0.mk c2
    clear c2
    obtain ⟨y382, hy382⟩ : ∃ y_ : List Int, y_ = (l0 ++ y379) := ⟨_, rfl⟩
    replace H : (some (wrap32 ((l0.length : Int)), y382)) = some (r1, r2) := by first | (rw [hy382]; with_reducible exact H) | (have H2_ := (Option.bind_some _ _).symm.trans H; rw [hy382]; with_reducible exact H2_) | (have H2_ := (Option.bind_some _ _).symm.trans H; with_reducible exact H2_) | with_reducible exact H | (rw [hy382]; exact H) | exact H
    have Ny382 := Aside0.mk hy382
    clear hy382
    focus
      simp only [Option.some.injEq, Prod.mk.injEq] at H
      obtain ⟨rfl, rfl⟩ := H
      obtain ⟨Ao3, co3, eo3⟩ := Kd.R_slice HO0.out
      subst eo3
      go_enter Tryd.func52, Tryd.ntmps52
      go_wp2_with (first | ((with_reducible refine gate_dst (N := 10) rfl ?_); refine Kd.R_lit (Kd.int .u8) _ 5 ?hg (N := 10) ?hd (xs := ([0, 0, 0, 0] : List Int)) (inner := [.int .u8 0, .int .u8 0, .int .u8 0, .int .u8 0]) (ok := fun _ => True) (okp := fun _ => True) ?hr ?hp (fun _ hk => hk) trivial (Below.refl _ _) (Nat.le_refl _) (by simp) ?_; (case hd => rfl); (case hg => rfl); (case hr => first | (go_simp; done) | (go_simp; rfl)); (case hp => exact (Reps.one (show Kd.M (Kd.int .u8) _ _ _ 0 [.int .u8 0] from rfl) (Reps.one (show Kd.M (Kd.int .u8) _ _ _ 0 [.int .u8 0] from rfl) (Reps.one (show Kd.M (Kd.int .u8) _ _ _ 0 [.int .u8 0] from rfl) (Reps.one (show Kd.M (Kd.int .u8) _ _ _ 0 [.int .u8 0] from rfl) (Reps.none _ _)))))); intro v380 w4 ho5 hb hg_ hnew_; clear hg_ hnew_; (first | rw [← Ny379.out] at ho5 | (simp only [Int.reduceToNat] at ho5; rw [← Ny379.out] at ho5)); have n0_ := Aside0.mk (Kd.R_elder' (by (with_reducible repeat (first | apply Kd.R_alloc | apply Kd.R_drewN | apply Kd.R_drew)); exact HO0.out) (Kd.R_base ho5) hb); have n1_ := Aside0.mk (Kd.R_lower (Kd.R_new' (Kd.R_newM (M := fun k_ => (P0_ k_ ∨ w.heap.size ≤ k_)) ho5 (by first | exact HK.out.1 | exact (show Kept w _ (fun k_ => P0_ k_) from by repeat (first | (with_reducible first | exact HK.out | apply Kept.alloc | apply Kept.drewN | apply Kept.drew) | exact HK.out)).1) (fun k_ h_ => .inr h_)) (Kd.R_lt (by (with_reducible repeat (first | apply Kd.R_alloc | apply Kd.R_drewN | apply Kd.R_drew)); exact HO0.out))) (below_size (by repeat (first | (with_reducible first | exact HB.out | apply below_alloc | apply pw_below_drewN | apply below_drew1) | exact HB.out)))); have n2_ := Aside0.mk (Kept.below (S := (fun k_ => P0_ k_)) (by repeat (first | (with_reducible first | exact HK.out | apply Kept.alloc | apply Kept.drewN | apply Kept.drew) | exact HK.out)) hb); have n3_ := Aside0.mk (below_step (by repeat (first | (with_reducible first | exact HB.out | apply below_alloc | apply pw_below_drewN | apply below_drew1) | exact HB.out)) hb); clear HO0; clear HK; clear HB; have HO0 := n0_; have HO381 := n1_; have HK := n2_; have HB := n3_; clear n0_ n1_ n2_ n3_; clear hb ho5; obtain ⟨Ao7, co7, eo7⟩ := Kd.R_slice HO381.out; subst eo7) | ((with_reducible refine gate_builtin (b := .append) (xs := #[.tmp 9, .tmp 10]) rfl ?_); at_builtin; refine Kd.R_append_rows (Kd.int .u8) (w0 := w0) w0.heap.size rfl (.tmp 9) (.tmp 10) 23 5 (.int .u8 0) 1 rfl Tryd.underlying23 info5 rfl (by decide) (by omega) (.slice Ao3 l0.length co3) l0 y379 _ _ _ (fun k_ => (P0_ k_ ∨ w.heap.size ≤ k_) ∧ some k_ ≠ (.slice Ao7 y379.length co7 : Value).ownBlock) (fun _ => False) rfl rfl ?aO ?aR (fun _ _ h => h) (fun _ h => h.elim) ?aF ?aB ?aS ?aL ?_; (case aR => repeat (first | exact (Kd.R_reads' HO381.out).2.2 | (with_reducible refine Kd.C_alloc ?_ _) | (with_reducible refine Kd.C_drewN ?_ _) | (with_reducible refine Kd.C_drew ?_))); (case aB => exact (by repeat (first | (with_reducible first | exact HB.out | apply below_alloc | apply pw_below_drewN | apply below_drew1) | exact HB.out))); (case aF => exact (fun k_ hk => ⟨(.inr (Nat.le_trans (by first | exact HK.out.1 | exact (show Kept w _ (fun k_ => P0_ k_) from by repeat (first | (with_reducible first | exact HK.out | apply Kept.alloc | apply Kept.drewN | apply Kept.drew) | exact HK.out)).1) hk)), Kd.fresh' (Kd.R_lt (by (with_reducible repeat (first | apply Kd.R_alloc | apply Kd.R_drewN | apply Kd.R_drew)); exact HO381.out)) k_ hk⟩)); (case aO => exact (by (with_reducible repeat (first | apply Kd.R_alloc | apply Kd.R_drewN | apply Kd.R_drew)); exact HO0.out)); (case aS => exact (below_size (by repeat (first | (with_reducible first | exact HB.out | apply below_alloc | apply pw_below_drewN | apply below_drew1) | exact HB.out)))); (case aL => have := LMc2.out; omega); intro v383 w6 ho hb hg hat; rw [← Ny382.out] at ho; have n0_ := Aside0.mk (Kd.R_after (ok := (fun k_ => (P0_ k_ ∨ w.heap.size ≤ k_))) (by (with_reducible repeat (first | apply Kd.R_alloc | apply Kd.R_drewN | apply Kd.R_drew)); exact Kd.R_mono HO381.out (fun _ hk => ⟨hk.1.1, hk.2⟩)) hg hat); have n1_ := Aside0.mk (hb); have n2_ := Aside0.mk (Kept.of_grown (S := (fun k_ => P0_ k_)) hg (by repeat (first | (with_reducible first | exact HK.out | apply Kept.alloc | apply Kept.drewN | apply Kept.drew) | exact HK.out)) (fun k_ e_ => (HO0.out.1 k_ e_).1)); have n3_ := Aside0.mk (ho); clear HO381; clear HB; clear HK; clear HO0; have HO381 := n0_; have HB := n1_; have HK := n2_; have HO384 := n3_; clear n0_ n1_ n2_ n3_; clear ho hb hg hat))
      go_ret2
      exact ⟨_, by first | rfl | (simp [errW_none, errW_some] <;> rfl) | (simp [*, errW_none, errW_some] <;> rfl), by (with_reducible repeat (first | apply Kd.R_alloc | apply Kd.R_drewN | apply Kd.R_drew)); exact Kd.R_mono HO384.out (fun _ hk => hk.1), by repeat (first | (with_reducible first | exact HB.out | apply below_alloc | apply pw_below_drewN | apply below_drew1) | exact HB.out), by repeat (first | (with_reducible first | exact HK.out | apply Kept.alloc | apply Kept.drewN | apply Kept.drew) | exact HK.out)⟩
  · rw [if_neg c2] at H
    exact absurd H (by simp)

-- NOT PRINTED: function 64 (bsoncore_zzIndexRune)

-- NOT PRINTED: function 61 (bsoncore_zzContainsRune)

end Go.Proofs.YtndpbbgniflckaaDoor.PBa
