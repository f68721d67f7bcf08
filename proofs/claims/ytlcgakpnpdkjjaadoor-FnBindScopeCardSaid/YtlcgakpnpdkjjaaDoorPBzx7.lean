/- Printed by a program of this session (a turned copy of the printer of the kit): contracts of functions of the translation, each with the Lean function that it computes. Conditions: as each theorem states them. -/
import Derived.Test.YtlcgakpnpdkjjaaDoorPBzx0
import Derived.Test.YtlcgakpnpdkjjaaDoorPBzx4
import Derived.Test.YtlcgakpnpdkjjaaDoorPBzx5
import Derived.Test.YtlcgakpnpdkjjaaDoorPBzx6
namespace Go.Proofs.YtlcgakpnpdkjjaaDoor.PBz
open Go.RowKit Go.Proofs.YtlcgakpnpdkjjaaDoorW.PrintWords Go.Proofs.YtlcgakpnpdkjjaaDoorW.PrintLast Go.Proofs.YtlcgakpnpdkjjaaDoorW.PrintMore
attribute [local go_sem] max2_int min2_int max_two min_two max_three min_three max_four min_four   -- for this text's walks alone
set_option linter.unusedVariables false
set_option linter.unusedSimpArgs false

/-! ### spec_DocElem: function 20 -/
def spec_DocElem.T1 : Bool × List (List Nat × List Nat) := (true, [([], []), ([0], [0]), ([1], [1]), ([], []), ([3], [3]), ([2, 4], [2, 4]), ([], []), ([6], [6]), ([7, 5], [7]), ([5, 8, 8], [5, 8]), ([9, 9, 0, 1, 2, 3, 4, 5, 6, 7, 8, 9], [9])])
def spec_DocElem.B1 : List Nat := [0, 1, 3, 0, 8, 31, 0, 64, 255, 511, 1023]
theorem spec_DocElem.tab1 : rtab .any (opsOf Tryd.f20 1) = spec_DocElem.T1 := by kernel_rfl
theorem spec_DocElem.bits1 : waitsOk spec_DocElem.T1.2 spec_DocElem.B1 = true := by kernel_rfl
set_option maxHeartbeats 8000000 in
set_option maxRecDepth 100000 in
theorem spec_DocElem.step (k : Nat) (ih : ∀ j, j < k → Grp_spec_DocValue.Spec j) : ∀ (a0_0 : ByteArray) (a0_1 : Int) (a0_2 : ByteArray) (a0_3 : ByteArray) (a0_4 : Int) (a0_5 : Int) (a0_6 : Int) (A0_7 : Option Addr) (c0_7 : Nat) (l0_7 : List Int) (A0_8 : Option Addr) (c0_8 : Nat) (l0_8 : List (S34)) (r : List Int) (w : World) (hr0_7 : Kd.C (Kd.int .u8) w A0_7 l0_7.length l0_7) (hc0_7 : l0_7.length ≤ c0_7) (hr0_8 : Kd.C k34 w A0_8 l0_8.length l0_8) (hc0_8 : l0_8.length ≤ c0_8) (h : spec_DocElem.f k a0_0 a0_1 a0_2 a0_3 a0_4 a0_5 a0_6 l0_7 l0_8 = some r),
    Calls Tryd.prog 20 #[.agg #[.string a0_0, .int .i64 a0_1, .string a0_2, .string a0_3, .int .i64 a0_4, .int .u64 a0_5, .int .u64 a0_6, .slice A0_7 l0_7.length c0_7, .slice A0_8 l0_8.length c0_8]] w fun e w' => ∃ v0_ : Value, e = .returned (v0_) ∧ Kd.R (Kd.int .u8) 5 w' w.heap.size (fun _ => True) v0_ r ∧ Below w.heap.size w w' := by
  intro a0_0 a0_1 a0_2 a0_3 a0_4 a0_5 a0_6 A0_7 c0_7 l0_7 A0_8 c0_8 l0_8 r w hr0_7 hc0_7 hr0_8 hc0_8 h
  cases k with
  | zero => exact absurd h (by simp [spec_DocElem.f])
  | succ k =>
  simp only [spec_DocElem.f] at h
  have hu34 := Tryd.underlying34; have hu26 := Tryd.underlying26; have HR0_7 := Aside0.mk hr0_7; have HC0_7 := Aside0.mk hc0_7; clear hr0_7 hc0_7; have HR0_8 := Aside0.mk hr0_8; have HC0_8 := Aside0.mk hc0_8; clear hr0_8 hc0_8; have HB := Aside0.mk (Below.refl w.heap.size w); have H : ((spec_DocHead.f a0_1 a0_0).bind fun t340 => ((spec_DocValue.f k a0_1 a0_2 a0_3 a0_4 a0_5 a0_6 l0_7 l0_8).bind fun t343 => (if t340.length + t343.length < 140737488355328 then (some (t340 ++ t343)) else (none)))) = some r := h; clear h; replace H := Option.bind_eq_some_iff.mp H; obtain ⟨t340, A20, H⟩ := H; replace H : ((spec_DocValue.f k a0_1 a0_2 a0_3 a0_4 a0_5 a0_6 l0_7 l0_8).bind fun t343 => (if t340.length + t343.length < 140737488355328 then (some (t340 ++ t343)) else (none))) = some r := H; have A2 := Aside0.mk A20; clear A20; replace H := Option.bind_eq_some_iff.mp H; obtain ⟨t343, A30, H⟩ := H; replace H : (if t340.length + t343.length < 140737488355328 then (some (t340 ++ t343)) else (none)) = some r := H; have A3 := Aside0.mk A30; clear A30
  by_cases c4 : t340.length + t343.length < 140737488355328
  rotate_left
  · rw [if_neg c4] at H
    exact absurd H (by simp)
  rw [if_pos c4] at H; have LMc4 := Aside0.mk c4; clear c4; obtain ⟨y346, hy346⟩ : ∃ y_ : List Int, y_ = (t340 ++ t343) := ⟨_, rfl⟩
  replace H : (some y346) = some r := by first | (rw [hy346]; with_reducible exact H) | (have H2_ := (Option.bind_some _ _).symm.trans H; rw [hy346]; with_reducible exact H2_) | (have H2_ := (Option.bind_some _ _).symm.trans H; with_reducible exact H2_) | with_reducible exact H | (rw [hy346]; exact H) | exact H
  have Ny346 := Aside0.mk hy346; clear hy346
  as_aux_lemma =>
    obtain rfl := Option.some.inj H
    go_enter Tryd.func20, Tryd.ntmps20
    try go_wp2_with (first | ((with_reducible refine gate_dst (N := 1) rfl ?_); refine box_event ?hg (N := 1) ?hd (cs := #[.string a0_0, .int .i64 a0_1, .string a0_2, .string a0_3, .int .i64 a0_4, .int .u64 a0_5, .int .u64 a0_6, .slice A0_7 l0_7.length c0_7, .slice A0_8 l0_8.length c0_8]) (t := 34) ?hr ?_; (case hd => rfl); (case hg => rfl); (case hr => first | (go_simp; done) | (go_simp; rfl)); intro gb339 hg w5 hbox hb; have n0_ := Aside0.mk (below_step HW.zb hb); have n1_ := Aside0.mk (hbox); have n3_ := Aside0.mk ((by rw [hg]; exact (below_size HW.zb) : w.heap.size ≤ gb339)); clear HB; have HB := n0_; have BK339 := n1_; have GE339 := n3_; clear n0_ n1_ n3_; clear hb hbox hg))
    have n0_ := Aside0.mk (blk_drew BK339.out); have n1_ := Aside0.mk (below_drew1 HB.out); clear BK339; clear HB; have BK339 := n0_; have HB := n1_; clear n0_ n1_
    refine start_ (n := 11) (S := fun w' => w'.cell? ⟨gb339, 0, none⟩ = some (.string a0_0) ∧ w'.cell? ⟨gb339, 1, none⟩ = some (.int .i64 a0_1) ∧ w'.cell? ⟨gb339, 2, none⟩ = some (.string a0_2) ∧ w'.cell? ⟨gb339, 3, none⟩ = some (.string a0_3) ∧ w'.cell? ⟨gb339, 4, none⟩ = some (.int .i64 a0_4) ∧ w'.cell? ⟨gb339, 5, none⟩ = some (.int .u64 a0_5) ∧ w'.cell? ⟨gb339, 6, none⟩ = some (.int .u64 a0_6) ∧ w'.cell? ⟨gb339, 7, none⟩ = some (.slice A0_7 l0_7.length c0_7) ∧ w'.cell? ⟨gb339, 8, none⟩ = some (.slice A0_8 l0_8.length c0_8)) (ds := []) #[false, false, false, false, false, false, false, false, false, false, false] (by kernel_rfl) rfl rfl ⟨(blk_cell BK339.out 0).trans rfl, (blk_cell BK339.out 1).trans rfl, (blk_cell BK339.out 2).trans rfl, (blk_cell BK339.out 3).trans rfl, (blk_cell BK339.out 4).trans rfl, (blk_cell BK339.out 5).trans rfl, (blk_cell BK339.out 6).trans rfl, (blk_cell BK339.out 7).trans rfl, (blk_cell BK339.out 8).trans rfl⟩ (fun hHeld => ?_); refine with_tabW spec_DocElem.tab1 spec_DocElem.bits1 (fun HT_ HW_ => ?_)
    generalize w5.drew = w6 at BK339 HB hHeld ⊢
    refine HW.pz (i := 0) (N := some 3) #[true, false, false, false, false, false, false, false, false, false, false] ?_ (hc := any_of HT_.out (by kernel_rfl))
    refine HW.pz (i := 1) (N := some 4) #[true, true, false, false, false, false, false, false, false, false, false] ?_ (hc := any_of HT_.out (by kernel_rfl))
    refine HW.pz (i := 3) (N := some 6) #[true, true, false, true, false, false, false, false, false, false, false] ?_ (hc := any_of HT_.out (by kernel_rfl))
    refine HW.pz (i := 6) (N := some 9) #[true, true, false, true, false, false, true, false, false, false, false] ?_ (hc := any_of HT_.out (by kernel_rfl))
    refine take_ (i := 2) (N := some 5) (v := ?_) (a' := ?_) #[true, true, true, true, false, false, true, false, false, false, false] rfl rfl (take_ofW HT_.out HW_.out (by kernel_rfl)) (fun _ _ _ h => h) (Or.inl ⟨by rfl, ?_⟩) hHeld ?_ ?_
    rotate_left
    · rintro w' ⟨s0, s1, s2, s3, s4, s5, s6, s7, s8⟩
      go_simp
      with_reducible rfl
    rotate_left
    · simp only [Act.put, List.setIfInBounds_toArray, List.set_cons_zero, List.set_cons_succ, i64_w, i32_w]
      rfl
    refine take_ (i := 4) (N := some 7) (v := ?_) (a' := ?_) #[true, true, true, true, true, false, true, false, false, false, false] rfl rfl (take_ofW HT_.out HW_.out (by kernel_rfl)) (fun _ _ _ h => h) (Or.inl ⟨by rfl, ?_⟩) hHeld ?_ ?_
    rotate_left
    · rintro w' ⟨s0, s1, s2, s3, s4, s5, s6, s7, s8⟩
      go_simp
      with_reducible rfl
    rotate_left
    · simp only [Act.put, List.setIfInBounds_toArray, List.set_cons_zero, List.set_cons_succ, i64_w, i32_w]
      rfl
    refine take_ (i := 7) (N := some 10) (v := ?_) (a' := ?_) #[true, true, true, true, true, false, true, true, false, false, false] rfl rfl (take_ofW HT_.out HW_.out (by kernel_rfl)) (fun _ _ _ h => h) (Or.inl ⟨by rfl, ?_⟩) hHeld ?_ ?_
    rotate_left
    · rintro w' ⟨s0, s1, s2, s3, s4, s5, s6, s7, s8⟩
      go_simp
      with_reducible rfl
    rotate_left
    · simp only [Act.put, List.setIfInBounds_toArray, List.set_cons_zero, List.set_cons_succ, i64_w, i32_w]
      rfl
    refine one_ (i := 5) (N := some 8) #[true, true, true, true, true, true, true, true, false, false, false] rfl rfl (one_of HT_.out (by kernel_rfl)) (by decide) (fun K hK => ?_)
    refine goes_ Tryd.func30 (by kernel_rfl) rfl #[.int .i64 a0_1, .string a0_0] (by rfl) rfl rfl (by (try simp only [List.map_toArray, List.map_cons, List.map_nil]); first | done | rfl | (simp only [List.length_drop, List.length_take]; rfl)) ?_
    with_reducible refine (spec_DocHead.calls a0_1 a0_0 t340 _ A2.out).mono ?_
    rintro e w7 ⟨v341, rfl, ho0, hb⟩
    refine ⟨_, rfl, ?_⟩
    have n0_ := Aside0.mk (Kd.R_lower ho0 (below_size HW.zb)); have n1_ := Aside0.mk (blk_below (g := gb339) (o := .cells #[.string a0_0, .int .i64 a0_1, .string a0_2, .string a0_3, .int .i64 a0_4, .int .u64 a0_5, .int .u64 a0_6, .slice A0_7 l0_7.length c0_7, .slice A0_8 l0_8.length c0_8] 34 (0, 0)) (HW.zB BK339.out) hb); have n2_ := Aside0.mk (below_step HW.zb hb); clear BK339; clear HB; have HO342 := n0_; have BK339 := n1_; have HB := n2_; clear n0_ n1_ n2_
    (try clear hb)
    (try clear hb2)
    (try clear hk)
    (try clear hi)
    (try clear ho0)
    refine hK.out _ _ ⟨(blk_cell BK339.out 0).trans rfl, (blk_cell BK339.out 1).trans rfl, (blk_cell BK339.out 2).trans rfl, (blk_cell BK339.out 3).trans rfl, (blk_cell BK339.out 4).trans rfl, (blk_cell BK339.out 5).trans rfl, (blk_cell BK339.out 6).trans rfl, (blk_cell BK339.out 7).trans rfl, (blk_cell BK339.out 8).trans rfl⟩ (fun hHeld => ?_)
    clear hK K
    refine HW.nz (N := (some 8)) ?_
    refine one_ (i := 8) (N := some 11) #[true, true, true, true, true, true, true, true, true, false, false] rfl rfl (one_of HT_.out (by kernel_rfl)) (by decide) (fun K hK => ?_)
    refine goes_ Tryd.func31 (by kernel_rfl) rfl #[.agg #[.int .i64 a0_1, .string a0_2, .string a0_3, .int .i64 a0_4, .int .u64 a0_5, .int .u64 a0_6, .slice A0_7 l0_7.length c0_7, .slice A0_8 l0_8.length c0_8]] (by rfl) rfl rfl (by (try simp only [List.map_toArray, List.map_cons, List.map_nil]); first | done | rfl | (simp only [List.length_drop, List.length_take]; rfl)) ?_
    with_reducible refine (Grp_spec_DocValue.get0 (ih k (by omega)) a0_1 a0_2 a0_3 a0_4 a0_5 a0_6 _ _ l0_7 _ _ l0_8 t343 _ ?side1 ?side2 ?side3 ?side4 A3.out).mono ?_
    (case side1 => repeat (first | exact (Kd.C_below HR0_7.out HB.out) | (with_reducible refine Kd.C_alloc ?_ _) | (with_reducible refine Kd.C_drewN ?_ _) | (with_reducible refine Kd.C_drew ?_)))
    (case side2 => exact HC0_7.out)
    (case side3 => repeat (first | exact (Kd.C_below HR0_8.out HB.out) | (with_reducible refine Kd.C_alloc ?_ _) | (with_reducible refine Kd.C_drewN ?_ _) | (with_reducible refine Kd.C_drew ?_)))
    (case side4 => exact HC0_8.out)
    rintro e w8 ⟨v344, rfl, ho0, hb⟩
    refine ⟨_, rfl, ?_⟩
    have n0_ := Aside0.mk (Kd.R_elder' (HW.zR HO342.out) (Kd.R_base ho0) hb); have n1_ := Aside0.mk (Kd.R_lower (Kd.R_new' ho0 (Kd.R_lt (HW.zR HO342.out))) (below_size HW.zb)); have n2_ := Aside0.mk (blk_below (g := gb339) (o := .cells #[.string a0_0, .int .i64 a0_1, .string a0_2, .string a0_3, .int .i64 a0_4, .int .u64 a0_5, .int .u64 a0_6, .slice A0_7 l0_7.length c0_7, .slice A0_8 l0_8.length c0_8] 34 (0, 0)) (HW.zB BK339.out) hb); have n3_ := Aside0.mk (below_step HW.zb hb); clear HO342; clear BK339; clear HB; have HO342 := n0_; have HO345 := n1_; have BK339 := n2_; have HB := n3_; clear n0_ n1_ n2_ n3_
    (try clear hb)
    (try clear hb2)
    (try clear hk)
    (try clear hi)
    (try clear ho0)
    obtain ⟨Ao10, co10, eo10⟩ := Kd.R_slice HO345.out
    (first | subst eo10 | (injection eo10 with f1_ f2_ f3_; have f4_ := f1_.symm; have f5_ := f3_.symm; clear f1_ f2_ f3_; subst f4_; subst f5_))
    refine hK.out _ _ ⟨(blk_cell BK339.out 0).trans rfl, (blk_cell BK339.out 1).trans rfl, (blk_cell BK339.out 2).trans rfl, (blk_cell BK339.out 3).trans rfl, (blk_cell BK339.out 4).trans rfl, (blk_cell BK339.out 5).trans rfl, (blk_cell BK339.out 6).trans rfl, (blk_cell BK339.out 7).trans rfl, (blk_cell BK339.out 8).trans rfl⟩ (fun hHeld => ?_)
    clear hK K
    refine HW.nz (N := (some 11)) ?_
    refine one_ (i := 9) (N := some 12) #[true, true, true, true, true, true, true, true, true, true, false] rfl rfl (one_of HT_.out (by kernel_rfl)) (by decide) (fun K hK => ?_)
    refine Kd.R_append_rows_step (Kd.int .u8) (w0 := w) w.heap.size (by rfl) (.tmp 8) (.tmp 11) 23 5 (.int .u8 0) 1 rfl Tryd.underlying23 info5 rfl (by decide) (by omega) v341 t340 t343 _ _ _ (fun k_ => some k_ ≠ (.slice Ao10 t343.length co10 : Value).ownBlock) (fun _ => False) rfl rfl ?aO ?aR (fun _ _ h => h) (fun _ h => h.elim) ?aF ?aB ?aS ?aL ?_
    (case aR => repeat (first | exact (Kd.R_reads' HO345.out).2.2 | (with_reducible refine Kd.C_alloc ?_ _) | (with_reducible refine Kd.C_drewN ?_ _) | (with_reducible refine Kd.C_drew ?_)))
    (case aB => exact HW.zb)
    (case aF => exact (fun k_ hk => Kd.fresh' (Kd.R_lt (HW.zR HO345.out)) k_ hk))
    (case aO => exact (HW.zR (Kd.R_mono HO342.out (fun _ hk => hk.2))))
    (case aS => exact (below_size HW.zb))
    (case aL => have := LMc4.out; omega)
    intro v347 w9 ho hb hg hat
    rw [← Ny346.out] at ho
    have n0_ := Aside0.mk (blk_grown (g := gb339) (o := .cells #[.string a0_0, .int .i64 a0_1, .string a0_2, .string a0_3, .int .i64 a0_4, .int .u64 a0_5, .int .u64 a0_6, .slice A0_7 l0_7.length c0_7, .slice A0_8 l0_8.length c0_8] 34 (0, 0)) (HW.zB BK339.out) hg (Kd.R_ne HO342.out BK339.out (by decide)))
    have n2_ := Aside0.mk (hb); have n3_ := Aside0.mk (ho); clear BK339; clear HB; clear HO342; have BK339 := n0_; have HB := n2_; have HO348 := n3_; clear n0_ n2_ n3_; clear ho hb hg hat
    refine hK.out _ _ ⟨(blk_cell BK339.out 0).trans rfl, (blk_cell BK339.out 1).trans rfl, (blk_cell BK339.out 2).trans rfl, (blk_cell BK339.out 3).trans rfl, (blk_cell BK339.out 4).trans rfl, (blk_cell BK339.out 5).trans rfl, (blk_cell BK339.out 6).trans rfl, (blk_cell BK339.out 7).trans rfl, (blk_cell BK339.out 8).trans rfl⟩ (fun hHeld => ?_)
    clear hK K
    refine HW.nz (N := (some 12)) ?_
    refine HW.pz (i := 10) (N := some 2) #[true, true, true, true, true, true, true, true, true, true, true] ?_ (hc := any_of HT_.out (by kernel_rfl))
    refine done_ (done_of HT_.out (by kernel_rfl)) ?_
    try go_wp2
    go_ret
    exact ⟨_, by first | rfl | (simp [errW_none, errW_some] <;> rfl) | (simp [*, errW_none, errW_some] <;> rfl), by (with_reducible repeat (first | apply Kd.R_alloc | apply Kd.R_drewN | apply Kd.R_drew)); exact Kd.R_mono HO348.out (fun _ hk => trivial), HW.zb⟩

/-! ### spec_DocBytes: function 10 -/
set_option maxHeartbeats 8000000 in
set_option maxRecDepth 100000 in
theorem spec_DocBytes.step (k : Nat) (ih : ∀ j, j < k → Grp_spec_DocValue.Spec j) : ∀ (A0 : Option Addr) (c0 : Nat) (l0 : List (S34)) (r : List Int) (w : World) (hr0 : Kd.C k34 w A0 l0.length l0) (hc0 : l0.length ≤ c0) (h : spec_DocBytes.f k l0 = some r),
    Calls Tryd.prog 10 #[.slice A0 l0.length c0] w fun e w' => ∃ v0_ : Value, e = .returned (v0_) ∧ Kd.R (Kd.int .u8) 5 w' w.heap.size (fun _ => True) v0_ r ∧ Below w.heap.size w w' := by
  intro A0 c0 l0 r w hr0 hc0 h
  cases k with
  | zero => exact absurd h (by simp [spec_DocBytes.f])
  | succ k =>
  simp only [spec_DocBytes.f] at h
  have hu34 := Tryd.underlying34; have HR0 := Aside0.mk hr0; have HC0 := Aside0.mk hc0; clear hr0 hc0; have HB := Aside0.mk (Below.refl w.heap.size w); have H : (spec_DocBytes.l0 k l0 ([] : List Int) 0) = some r := h; clear h; have H' := Aside0.mk H; clear H
  go_enter Tryd.func10, Tryd.ntmps10
  go_wp2
  go_loopg [3, 4] k (fun kq v3 v4 w' => ∃ (x3_1 : List Int) (x4_1 : Int), v4 = .int .i64 x4_1 ∧ Aside0 (spec_DocBytes.l0 kq l0 x3_1 x4_1 = some r) ∧ Aside0 (kq ≤ k) ∧ Aside0 (Kd.R (Kd.int .u8) 5 w' w.heap.size (fun _ => True) v3 x3_1) ∧ Aside0 (Below w.heap.size w w'))
  case atStart => exact ⟨(([] : List Int)), (0), (by first | rfl | (simp; done) | (simp [*]; done)), H', ⟨Nat.le_refl _⟩, ⟨by first | exact Kd.R_nil _ _ _ _ _ | exact Kd.N_nil _ _ _ _ _ | exact Kd.V_nil _ _ _ _ _ | exact Kd.Q_nil _ _ _ _ _ | exact Kd.S_nil _ _ _ _ _⟩, ⟨HW.zb⟩⟩
  case round =>
    clear H'; (try clear c1); obtain ⟨x3_1, x4_1, rfl, HA, HK1, HO_3, HB⟩ := hrel
    cases gk with
    | zero => exact absurd HA.out (by simp [spec_DocBytes.l0])
    | succ k1 =>
      have H := HA.out; clear HA
      simp only [spec_DocBytes.l0] at H
      by_cases c2 : x4_1 < (l0.length : Int)
      rotate_left
      · rw [if_neg c2] at H
        have c2b0 : decide (x4_1 < (l0.length : Int)) = false := decide_eq_false c2; clear c2; replace H := Option.bind_eq_some_iff.mp H; obtain ⟨t356, A90, H⟩ := H; replace H : (if t356.length + x3_1.length < 140737488355328 then ((some (t356 ++ x3_1 : List Int)).bind fun y359 => (if y359.length < 140737488355328 then (some (y359 ++ [0])) else (none))) else (none)) = some r := H; have A9 := Aside0.mk A90; clear A90
        by_cases c10 : t356.length + x3_1.length < 140737488355328
        rotate_left
        · rw [if_neg c10] at H
          exact absurd H (by simp)
        rw [if_pos c10] at H; have LMc10 := Aside0.mk c10; clear c10; obtain ⟨y359, hy359⟩ : ∃ y_ : List Int, y_ = (t356 ++ x3_1) := ⟨_, rfl⟩
        replace H : (if y359.length < 140737488355328 then (some (y359 ++ [0])) else (none)) = some r := by first | (rw [hy359]; with_reducible exact H) | (have H2_ := (Option.bind_some _ _).symm.trans H; rw [hy359]; with_reducible exact H2_) | (have H2_ := (Option.bind_some _ _).symm.trans H; with_reducible exact H2_) | with_reducible exact H | (rw [hy359]; exact H) | exact H
        have Ny359 := Aside0.mk hy359; clear hy359
        by_cases c11 : y359.length < 140737488355328
        rotate_left
        · rw [if_neg c11] at H
          exact absurd H (by simp)
        rw [if_pos c11] at H; have LMc11 := Aside0.mk c11; clear c11; obtain ⟨y362, hy362⟩ : ∃ y_ : List Int, y_ = (y359 ++ [0]) := ⟨_, rfl⟩
        replace H : (some y362) = some r := by first | (rw [hy362]; with_reducible exact H) | (have H2_ := (Option.bind_some _ _).symm.trans H; rw [hy362]; with_reducible exact H2_) | (have H2_ := (Option.bind_some _ _).symm.trans H; with_reducible exact H2_) | with_reducible exact H | (rw [hy362]; exact H) | exact H
        have Ny362 := Aside0.mk hy362; clear hy362
        as_aux_lemma =>
          obtain rfl := Option.some.inj H; obtain ⟨Ao12, co12, eo12⟩ := Kd.R_slice HO_3.out; subst eo12
          go_wp2_with (first | ((with_reducible refine gate_callee (f := 21) rfl ?_); refine HW.gz (some 22) rfl rfl Tryd.func21 (by kernel_rfl) rfl #[.slice none 0 0, .int .i64 (wrap64 ((x3_1.length : Int) + 5))] rfl ?_; (refine (spec_DocInt32.calls (fun k_ => some k_ = (.slice none 0 0 : Value).ownBlock) (.slice none 0 0) ([] : List Int) (wrap64 ((x3_1.length : Int) + 5)) t356 w _ ?side1 ?side2 A9.out).mono ?_); (case side1 => exact HW.zb); (case side2 => exact Kd.R_nil _ _ _ _ _); rintro e w13 ⟨v357, rfl, ho0, hb, hkp⟩; refine ⟨_, rfl, ?_⟩; have n0_ := Aside0.mk (Kd.R_mono (ok' := fun k_ => some k_ ≠ (v357 : Value).ownBlock) (Kd.R_keptB (HO_3.out) hkp (fun k_ hk_ hs_ => (fun e_ => by simp [Value.ownBlock] at e_) hs_)) (fun k_ hk_ => fun e_ => Or.elim (ho0.1 k_ e_.symm) (fun hs_ => hk_.2.1 hs_) (fun hn_ => Nat.not_le.2 hk_.2.2 hn_))); have n1_ := Aside0.mk (Kd.R_mono (ok' := fun k_ => some k_ ≠ (.slice Ao12 x3_1.length co12 : Value).ownBlock) ho0 (fun k_ hk_ => Or.elim hk_ (fun hs_ => absurd hs_ (by simp [Value.ownBlock])) (fun hn_ => (Kd.fresh' (Kd.R_lt (HW.zR HO_3.out)) k_ hn_)))); have n2_ := Aside0.mk (hb); clear HO_3; clear HB; have HO_3 := n0_; have HO358 := n1_; have HB := n2_; clear n0_ n1_ n2_; (try clear hb); (try clear hkp); (try clear ho0)) | ((with_reducible refine gate_builtin (b := .append) (xs := #[.tmp 23, .tmp 24]) rfl ?_); at_builtin; refine Kd.R_append_rows (Kd.int .u8) (w0 := w) w.heap.size rfl (.tmp 23) (.tmp 24) 23 5 (.int .u8 0) 1 rfl Tryd.underlying23 info5 rfl (by decide) (by omega) v357 t356 x3_1 _ _ _ (fun k_ => some k_ ≠ (.slice Ao12 x3_1.length co12 : Value).ownBlock) (fun _ => False) rfl rfl ?aO ?aR (fun _ _ h => h) (fun _ h => h.elim) ?aF ?aB ?aS ?aL ?_; (case aR => repeat (first | exact (Kd.R_reads' HO_3.out).2.2 | (with_reducible refine Kd.C_alloc ?_ _) | (with_reducible refine Kd.C_drewN ?_ _) | (with_reducible refine Kd.C_drew ?_))); (case aB => exact HW.zb); (case aF => exact (fun k_ hk => Kd.fresh' (Kd.R_lt (HW.zR HO_3.out)) k_ hk)); (case aO => exact (HW.zR HO358.out)); (case aS => exact (below_size HW.zb)); (case aL => have := LMc10.out; omega); intro v360 w14 ho hb hg hat; rw [← Ny359.out] at ho; have n0_ := Aside0.mk (Kd.R_after (ok := (fun _ => True)) (HW.zR (Kd.R_mono HO_3.out (fun _ hk => ⟨trivial, hk⟩))) hg hat); have n1_ := Aside0.mk (hb); have n2_ := Aside0.mk (ho); clear HO_3; clear HB; clear HO358; have HO_3 := n0_; have HB := n1_; have HO361 := n2_; clear n0_ n1_ n2_; clear ho hb hg hat) | ((with_reducible refine gate_builtin (b := .append) (xs := #[.tmp 26, .tmp 27]) rfl ?_); at_builtin; refine Kd.R_append (Kd.int .u8) (w0 := w) w.heap.size rfl (.tmp 26) (.tmp 27) 23 5 (.int .u8 0) 1 rfl Tryd.underlying23 info5 rfl (by decide) (by omega) v360 y359 0 [.int .u8 0] (fun k_ => some k_ ≠ (.slice Ao12 x3_1.length co12 : Value).ownBlock) (fun _ => False) rfl rfl ?aP (fun _ hk => hk.elim) ?aF ?aO ?aB ?aS ?aL ?_; (case aP => exact rfl); (case aB => exact HW.zb); (case aF => exact (fun k_ hk => Kd.fresh' (Kd.R_lt (HW.zR HO_3.out)) k_ hk)); (case aO => exact (HW.zR HO361.out)); (case aS => exact (below_size HW.zb)); (case aL => have := LMc11.out; omega); intro v363 w15 ho hb hg hat; rw [← Ny362.out] at ho; have n0_ := Aside0.mk (Kd.R_after (ok := (fun _ => True)) (HW.zR HO_3.out) hg hat); have n1_ := Aside0.mk (hb); have n2_ := Aside0.mk (ho); clear HO_3; clear HB; clear HO361; have HO_3 := n0_; have HB := n1_; have HO364 := n2_; clear n0_ n1_ n2_; clear ho hb hg hat))
          go_ret
          exact ⟨_, by first | rfl | (simp [errW_none, errW_some] <;> rfl) | (simp [*, errW_none, errW_some] <;> rfl), by (with_reducible repeat (first | apply Kd.R_alloc | apply Kd.R_drewN | apply Kd.R_drew)); exact Kd.R_mono HO364.out (fun _ hk => trivial), HW.zb⟩
      rw [if_pos c2] at H; have c2b0 : decide (x4_1 < (l0.length : Int)) = true := decide_eq_true c2; clear c2
      by_cases c3 : 0 ≤ x4_1
      rotate_left
      · rw [if_neg c3] at H
        exact absurd H (by simp)
      rw [if_pos c3] at H; have c3b0 : decide (0 ≤ x4_1) = true := decide_eq_true c3; clear c3; replace H := Option.bind_eq_some_iff.mp H; obtain ⟨t350, A40, H⟩ := H; replace H : (if x3_1.length + t350.length < 140737488355328 then (spec_DocBytes.l0 k1 l0 (x3_1 ++ t350) (wrap64 (x4_1 + 1))) else (none)) = some r := H; have A4 := Aside0.mk A40; clear A40
      by_cases c5 : x3_1.length + t350.length < 140737488355328
      rotate_left
      · rw [if_neg c5] at H
        exact absurd H (by simp)
      rw [if_pos c5] at H; have LMc5 := Aside0.mk c5; clear c5; obtain ⟨y353, hy353⟩ : ∃ y_ : List Int, y_ = (x3_1 ++ t350) := ⟨_, rfl⟩
      replace H : (spec_DocBytes.l0 k1 l0 y353 (wrap64 (x4_1 + 1))) = some r := by first | (rw [hy353]; with_reducible exact H) | (have H2_ := (Option.bind_some _ _).symm.trans H; rw [hy353]; with_reducible exact H2_) | (have H2_ := (Option.bind_some _ _).symm.trans H; with_reducible exact H2_) | with_reducible exact H | (rw [hy353]; exact H) | exact H
      have Ny353 := Aside0.mk hy353; clear hy353
      as_aux_lemma =>
        have H' := Aside0.mk H; clear H
        have p349 : 0 ≤ (x4_1 : Int) := of_decide_eq_true (by first | (with_reducible assumption) | assumption)
        have q349 : x4_1 < (l0.length : Int) := of_decide_eq_true (by first | (with_reducible assumption) | assumption)
        obtain ⟨ad349, A349_7, c349_7, A349_8, c349_8, e349, hx349_0, hx349_1, hx349_2, hx349_3, hx349_4, hx349_5, hx349_6, hx349_7, hx349_8, hl349_7, hi349_7, hl349_8, hi349_8⟩ := at_T34 HR0.out x4_1 p349 q349
        cases e349
        replace hx349_0 := (HB.out.cell (World.block_lt_of_cell? w _ hx349_0)).trans hx349_0; replace hx349_1 := (HB.out.cell (World.block_lt_of_cell? w _ hx349_1)).trans hx349_1; replace hx349_2 := (HB.out.cell (World.block_lt_of_cell? w _ hx349_2)).trans hx349_2; replace hx349_3 := (HB.out.cell (World.block_lt_of_cell? w _ hx349_3)).trans hx349_3; replace hx349_4 := (HB.out.cell (World.block_lt_of_cell? w _ hx349_4)).trans hx349_4; replace hx349_5 := (HB.out.cell (World.block_lt_of_cell? w _ hx349_5)).trans hx349_5; replace hx349_6 := (HB.out.cell (World.block_lt_of_cell? w _ hx349_6)).trans hx349_6; replace hx349_7 := (HB.out.cell (World.block_lt_of_cell? w _ hx349_7)).trans hx349_7; replace hx349_8 := (HB.out.cell (World.block_lt_of_cell? w _ hx349_8)).trans hx349_8; have HR349_7 := Aside0.mk hi349_7; have HC349_7 := Aside0.mk hl349_7; clear hi349_7 hl349_7; have HR349_8 := Aside0.mk hi349_8; have HC349_8 := Aside0.mk hl349_8; clear hi349_8 hl349_8; replace p349 := eq_true p349; replace q349 := eq_true q349
        go_wp2_with (first | ((with_reducible refine gate_callee (f := 20) rfl ?_); refine HW.gz (some 17) rfl rfl Tryd.func20 (by kernel_rfl) rfl #[.agg #[.string ((rd_T34 l0 x4_1).f0), .int .i64 ((rd_T34 l0 x4_1).f1.f0), .string ((rd_T34 l0 x4_1).f1.f1), .string ((rd_T34 l0 x4_1).f1.f2), .int .i64 ((rd_T34 l0 x4_1).f1.f3), .int .u64 ((rd_T34 l0 x4_1).f1.f4), .int .u64 ((rd_T34 l0 x4_1).f1.f5), .slice A349_7 ((rd_T34 l0 x4_1).f1.f6).length c349_7, .slice A349_8 ((rd_T34 l0 x4_1).f1.f7).length c349_8]] rfl ?_; (with_reducible refine (Grp_spec_DocValue.get1 (ih k1 (by have := HK1.out; omega)) ((rd_T34 l0 x4_1).f0) ((rd_T34 l0 x4_1).f1.f0) ((rd_T34 l0 x4_1).f1.f1) ((rd_T34 l0 x4_1).f1.f2) ((rd_T34 l0 x4_1).f1.f3) ((rd_T34 l0 x4_1).f1.f4) ((rd_T34 l0 x4_1).f1.f5) _ _ ((rd_T34 l0 x4_1).f1.f6) _ _ ((rd_T34 l0 x4_1).f1.f7) t350 _ ?side1 ?side2 ?side3 ?side4 A4.out).mono ?_); (case side1 => repeat (first | exact (Kd.C_below HR349_7.out HB.out) | (with_reducible refine Kd.C_alloc ?_ _) | (with_reducible refine Kd.C_drewN ?_ _) | (with_reducible refine Kd.C_drew ?_))); (case side2 => exact HC349_7.out); (case side3 => repeat (first | exact (Kd.C_below HR349_8.out HB.out) | (with_reducible refine Kd.C_alloc ?_ _) | (with_reducible refine Kd.C_drewN ?_ _) | (with_reducible refine Kd.C_drew ?_))); (case side4 => exact HC349_8.out); rintro e w6 ⟨v351, rfl, ho0, hb⟩; refine ⟨_, rfl, ?_⟩; have n0_ := Aside0.mk (Kd.R_elder' (HW.zR HO_3.out) (Kd.R_base ho0) hb); have n1_ := Aside0.mk (Kd.R_lower (Kd.R_new' ho0 (Kd.R_lt (HW.zR HO_3.out))) (below_size HW.zb)); have n2_ := Aside0.mk (below_step HW.zb hb); clear HO_3; clear HB; have HO_3 := n0_; have HO352 := n1_; have HB := n2_; clear n0_ n1_ n2_; (try clear hb); (try clear hb2); (try clear hk); (try clear hi); (try clear ho0); obtain ⟨Ao8, co8, eo8⟩ := Kd.R_slice HO352.out; subst eo8) | ((with_reducible refine gate_builtin (b := .append) (xs := #[.tmp 12, .tmp 17]) rfl ?_); at_builtin; refine Kd.R_append_rows (Kd.int .u8) (w0 := w) w.heap.size rfl (.tmp 12) (.tmp 17) 23 5 (.int .u8 0) 1 rfl Tryd.underlying23 info5 rfl (by decide) (by omega) u3 x3_1 t350 _ _ _ (fun k_ => some k_ ≠ (.slice Ao8 t350.length co8 : Value).ownBlock) (fun _ => False) rfl rfl ?aO ?aR (fun _ _ h => h) (fun _ h => h.elim) ?aF ?aB ?aS ?aL ?_; (case aR => repeat (first | exact (Kd.R_reads' HO352.out).2.2 | (with_reducible refine Kd.C_alloc ?_ _) | (with_reducible refine Kd.C_drewN ?_ _) | (with_reducible refine Kd.C_drew ?_))); (case aB => exact HW.zb); (case aF => exact (fun k_ hk => Kd.fresh' (Kd.R_lt (HW.zR HO352.out)) k_ hk)); (case aO => exact (HW.zR (Kd.R_mono HO_3.out (fun _ hk => hk.2)))); (case aS => exact (below_size HW.zb)); (case aL => have := LMc5.out; omega); intro v354 w7 ho hb hg hat; rw [← Ny353.out] at ho; have n1_ := Aside0.mk (hb); have n2_ := Aside0.mk (ho); clear HB; clear HO_3; have HB := n1_; have HO355 := n2_; clear n1_ n2_; clear ho hb hg hat))
        go_roundg k1
        case measure => have := HK1.out; omega
        case rel => exact ⟨(y353), (wrap64 (x4_1 + 1)), (by first | rfl | (simp; done) | (simp [*]; done)), H', ⟨by have := HK1.out; omega⟩, ⟨by (with_reducible repeat (first | apply Kd.R_alloc | apply Kd.R_drewN | apply Kd.R_drew)); exact Kd.R_mono HO355.out (fun _ hk => trivial)⟩, ⟨HW.zb⟩⟩

theorem Grp_spec_DocValue.all (k : Nat) : Grp_spec_DocValue.Spec k := by
  induction k using Nat.strongRecOn with
  | _ k ih => exact ⟨spec_DocValue.step k ih, spec_DocElem.step k ih, spec_DocBytes.step k ih⟩
theorem spec_DocValue.calls (k : Nat) : ∀ (a0_0 : Int) (a0_1 : ByteArray) (a0_2 : ByteArray) (a0_3 : Int) (a0_4 : Int) (a0_5 : Int) (A0_6 : Option Addr) (c0_6 : Nat) (l0_6 : List Int) (A0_7 : Option Addr) (c0_7 : Nat) (l0_7 : List (S34)) (r : List Int) (w : World) (hr0_6 : Kd.C (Kd.int .u8) w A0_6 l0_6.length l0_6) (hc0_6 : l0_6.length ≤ c0_6) (hr0_7 : Kd.C k34 w A0_7 l0_7.length l0_7) (hc0_7 : l0_7.length ≤ c0_7) (h : spec_DocValue.f k a0_0 a0_1 a0_2 a0_3 a0_4 a0_5 l0_6 l0_7 = some r),
    Calls Tryd.prog 31 #[.agg #[.int .i64 a0_0, .string a0_1, .string a0_2, .int .i64 a0_3, .int .u64 a0_4, .int .u64 a0_5, .slice A0_6 l0_6.length c0_6, .slice A0_7 l0_7.length c0_7]] w fun e w' => ∃ v0_ : Value, e = .returned (v0_) ∧ Kd.R (Kd.int .u8) 5 w' w.heap.size (fun _ => True) v0_ r ∧ Below w.heap.size w w' := Grp_spec_DocValue.get0 (Grp_spec_DocValue.all k)
theorem spec_DocElem.calls (k : Nat) : ∀ (a0_0 : ByteArray) (a0_1 : Int) (a0_2 : ByteArray) (a0_3 : ByteArray) (a0_4 : Int) (a0_5 : Int) (a0_6 : Int) (A0_7 : Option Addr) (c0_7 : Nat) (l0_7 : List Int) (A0_8 : Option Addr) (c0_8 : Nat) (l0_8 : List (S34)) (r : List Int) (w : World) (hr0_7 : Kd.C (Kd.int .u8) w A0_7 l0_7.length l0_7) (hc0_7 : l0_7.length ≤ c0_7) (hr0_8 : Kd.C k34 w A0_8 l0_8.length l0_8) (hc0_8 : l0_8.length ≤ c0_8) (h : spec_DocElem.f k a0_0 a0_1 a0_2 a0_3 a0_4 a0_5 a0_6 l0_7 l0_8 = some r),
    Calls Tryd.prog 20 #[.agg #[.string a0_0, .int .i64 a0_1, .string a0_2, .string a0_3, .int .i64 a0_4, .int .u64 a0_5, .int .u64 a0_6, .slice A0_7 l0_7.length c0_7, .slice A0_8 l0_8.length c0_8]] w fun e w' => ∃ v0_ : Value, e = .returned (v0_) ∧ Kd.R (Kd.int .u8) 5 w' w.heap.size (fun _ => True) v0_ r ∧ Below w.heap.size w w' := Grp_spec_DocValue.get1 (Grp_spec_DocValue.all k)
theorem spec_DocBytes.calls (k : Nat) : ∀ (A0 : Option Addr) (c0 : Nat) (l0 : List (S34)) (r : List Int) (w : World) (hr0 : Kd.C k34 w A0 l0.length l0) (hc0 : l0.length ≤ c0) (h : spec_DocBytes.f k l0 = some r),
    Calls Tryd.prog 10 #[.slice A0 l0.length c0] w fun e w' => ∃ v0_ : Value, e = .returned (v0_) ∧ Kd.R (Kd.int .u8) 5 w' w.heap.size (fun _ => True) v0_ r ∧ Below w.heap.size w w' := Grp_spec_DocValue.get2 (Grp_spec_DocValue.all k)

/-! ### spec_BindTexts: function 16 -/
mutual
def spec_BindTexts.l0 : Nat → Int → Int → ByteArray → ByteArray → Int → Int → Int → List Int → List (S34) → Option (Bool)
  | 0, _, _, _, _, _, _, _, _, _ => none
  | k + 1, x3, x366000, x366001, x366002, x366003, x366004, x366005, x366006, x366007 => if x3 < (x366007.length : Int) then (if 0 ≤ x3 then ((spec_BindTexts.f k ((rd_T34 x366007 x3).f1.f0) ((rd_T34 x366007 x3).f1.f1) ((rd_T34 x366007 x3).f1.f2) ((rd_T34 x366007 x3).f1.f3) ((rd_T34 x366007 x3).f1.f4) ((rd_T34 x366007 x3).f1.f5) ((rd_T34 x366007 x3).f1.f6) ((rd_T34 x366007 x3).f1.f7)).bind fun t370 => (if t370 = true then (spec_BindTexts.l0 k (wrap64 (x3 + 1)) x366000 x366001 x366002 x366003 x366004 x366005 x366006 x366007) else (some false))) else (none)) else (some true)
def spec_BindTexts.f : Nat → Int → ByteArray → ByteArray → Int → Int → Int → List Int → List (S34) → Option (Bool)
  | 0, _, _, _, _, _, _, _, _ => none
  | k + 1, a0_0, a0_1, a0_2, a0_3, a0_4, a0_5, l0_6, l0_7 => if a0_2.size ≤ 70368744177664 then (if (runesBytes (HW.runesOf a0_2)).toList = a0_2.toList then (spec_BindTexts.l0 k 0 a0_0 a0_1 a0_2 a0_3 a0_4 a0_5 l0_6 l0_7) else (some false)) else (none)
end
theorem spec_BindTexts.mono_l : ∀ k, (∀ y0 y1 y2 y3 y4 y5 y6 y7, LeO (spec_BindTexts.f k y0 y1 y2 y3 y4 y5 y6 y7) (spec_BindTexts.f (k + 1) y0 y1 y2 y3 y4 y5 y6 y7)) ∧ (∀ y0 y1 y2 y3 y4 y5 y6 y7 y8, LeO (spec_BindTexts.l0 k y0 y1 y2 y3 y4 y5 y6 y7 y8) (spec_BindTexts.l0 (k + 1) y0 y1 y2 y3 y4 y5 y6 y7 y8))
  | 0 => ⟨fun _ _ _ _ _ _ _ _ r h => by simp [spec_BindTexts.f] at h, fun _ _ _ _ _ _ _ _ _ r h => by simp [spec_BindTexts.l0] at h⟩
  | k + 1 => by
    obtain ⟨ih0, ih1⟩ := spec_BindTexts.mono_l k
    refine ⟨?_, ?_⟩
    · intro y0 y1 y2 y3 y4 y5 y6 y7
      unfold spec_BindTexts.f
      repeat' first
      | (with_reducible exact ih0 _ _ _ _ _ _ _ _)
      | (with_reducible exact ih1 _ _ _ _ _ _ _ _ _)
      | (with_reducible exact LeO.refl _)
      | (with_reducible exact LeO.none _)
      | (with_reducible refine LeO.ite ?_ ?_)
      | (with_reducible refine LeO.bind ?_ (fun _ => ?_))
      | exact ih0 _ _ _ _ _ _ _ _
      | exact ih1 _ _ _ _ _ _ _ _ _
      | exact LeO.none _
      | refine LeO.ite ?_ ?_
      | refine LeO.bind ?_ (fun _ => ?_)
    · intro y0 y1 y2 y3 y4 y5 y6 y7 y8
      unfold spec_BindTexts.l0
      repeat' first
      | (with_reducible exact ih0 _ _ _ _ _ _ _ _)
      | (with_reducible exact ih1 _ _ _ _ _ _ _ _ _)
      | (with_reducible exact LeO.refl _)
      | (with_reducible exact LeO.none _)
      | (with_reducible refine LeO.ite ?_ ?_)
      | (with_reducible refine LeO.bind ?_ (fun _ => ?_))
      | exact ih0 _ _ _ _ _ _ _ _
      | exact ih1 _ _ _ _ _ _ _ _ _
      | exact LeO.none _
      | refine LeO.ite ?_ ?_
      | refine LeO.bind ?_ (fun _ => ?_)
theorem spec_BindTexts.mono : ∀ a0 a1 a2 a3 a4 a5 a6 a7 k, LeO (spec_BindTexts.f k a0 a1 a2 a3 a4 a5 a6 a7) (spec_BindTexts.f (k + 1) a0 a1 a2 a3 a4 a5 a6 a7) := by
  intro a0 a1 a2 a3 a4 a5 a6 a7 k
  obtain ⟨ih0, ih1⟩ := spec_BindTexts.mono_l k
  exact ih0 a0 a1 a2 a3 a4 a5 a6 a7
set_option maxHeartbeats 8000000 in
set_option maxRecDepth 100000 in
theorem spec_BindTexts.calls (k : Nat) : ∀ (a0_0 : Int) (a0_1 : ByteArray) (a0_2 : ByteArray) (a0_3 : Int) (a0_4 : Int) (a0_5 : Int) (A0_6 : Option Addr) (c0_6 : Nat) (l0_6 : List Int) (A0_7 : Option Addr) (c0_7 : Nat) (l0_7 : List (S34)) (r : Bool) (w : World) (hr0_6 : Kd.C (Kd.int .u8) w A0_6 l0_6.length l0_6) (hc0_6 : l0_6.length ≤ c0_6) (hr0_7 : Kd.C k34 w A0_7 l0_7.length l0_7) (hc0_7 : l0_7.length ≤ c0_7) (h : spec_BindTexts.f k a0_0 a0_1 a0_2 a0_3 a0_4 a0_5 l0_6 l0_7 = some r),
    Calls Tryd.prog 16 #[.agg #[.int .i64 a0_0, .string a0_1, .string a0_2, .int .i64 a0_3, .int .u64 a0_4, .int .u64 a0_5, .slice A0_6 l0_6.length c0_6, .slice A0_7 l0_7.length c0_7]] w fun e w' => e = .returned (.bool r) ∧ Below w.heap.size w w' := by
  induction k using Nat.strongRecOn with
  | _ k ih =>
  intro a0_0 a0_1 a0_2 a0_3 a0_4 a0_5 A0_6 c0_6 l0_6 A0_7 c0_7 l0_7 r w hr0_6 hc0_6 hr0_7 hc0_7 h
  cases k with
  | zero => exact absurd h (by simp [spec_BindTexts.f])
  | succ k =>
  simp only [spec_BindTexts.f] at h
  have hu26 := Tryd.underlying26; have HR0_6 := Aside0.mk hr0_6; have HC0_6 := Aside0.mk hc0_6; clear hr0_6 hc0_6; have HR0_7 := Aside0.mk hr0_7; have HC0_7 := Aside0.mk hc0_7; clear hr0_7 hc0_7; have HB := Aside0.mk (Below.refl w.heap.size w); have H : (if a0_2.size ≤ 70368744177664 then (if (runesBytes (HW.runesOf a0_2)).toList = a0_2.toList then (spec_BindTexts.l0 k 0 a0_0 a0_1 a0_2 a0_3 a0_4 a0_5 l0_6 l0_7) else (some false)) else (none)) = some r := h; clear h
  by_cases c2 : a0_2.size ≤ 70368744177664
  rotate_left
  · rw [if_neg c2] at H
    exact absurd H (by simp)
  rw [if_pos c2] at H; have c2b0 := eq_true c2; have c2b1 : decide (a0_2.size ≤ 70368744177664) = true := decide_eq_true c2; clear c2; obtain ⟨y366, hy366⟩ : ∃ y_ : List Int, y_ = (HW.runesOf a0_2) := ⟨_, rfl⟩
  replace H : (if (runesBytes y366).toList = a0_2.toList then (spec_BindTexts.l0 k 0 a0_0 a0_1 a0_2 a0_3 a0_4 a0_5 l0_6 l0_7) else (some false)) = some r := by first | (rw [hy366]; with_reducible exact H) | (have H2_ := (Option.bind_some _ _).symm.trans H; rw [hy366]; with_reducible exact H2_) | (have H2_ := (Option.bind_some _ _).symm.trans H; with_reducible exact H2_) | with_reducible exact H | (rw [hy366]; exact H) | exact H
  have Ny366 := Aside0.mk hy366; clear hy366
  by_cases c3 : (runesBytes y366).toList = a0_2.toList
  rotate_left
  · rw [if_neg c3] at H
    have c3b0 : ((runesBytes y366).toList == a0_2.toList) = false := beq_eq_false_iff_ne.mpr c3; have c3b1 : ((runesBytes y366).toList != a0_2.toList) = true := bne_iff_ne.mpr c3
    as_aux_lemma =>
      obtain rfl := Option.some.inj H
      go_enter Tryd.func16, Tryd.ntmps16
      go_wp2_with (first | ((with_reducible refine gate_dst (N := 1) rfl ?_); refine box_event ?hg (N := 1) ?hd (cs := #[.int .i64 a0_0, .string a0_1, .string a0_2, .int .i64 a0_3, .int .u64 a0_4, .int .u64 a0_5, .slice A0_6 l0_6.length c0_6, .slice A0_7 l0_7.length c0_7]) (t := 26) ?hr ?_; (case hd => rfl); (case hg => rfl); (case hr => first | (go_simp; done) | (go_simp; rfl)); intro gb365 hg w19 hbox hb; have n0_ := Aside0.mk (below_step HW.zb hb); have n1_ := Aside0.mk (hbox); have n3_ := Aside0.mk ((by rw [hg]; exact (below_size HW.zb) : w.heap.size ≤ gb365)); clear HB; have HB := n0_; have BK365 := n1_; have GE365 := n3_; clear n0_ n1_ n3_; clear hb hbox hg; have hcz20_0 := HW.zc BK365.out 0 (.int .i64 a0_0); have hcz20_1 := HW.zc BK365.out 1 (.string a0_1); have hcz20_2 := HW.zc BK365.out 2 (.string a0_2); have hcz20_3 := HW.zc BK365.out 3 (.int .i64 a0_3); have hcz20_4 := HW.zc BK365.out 4 (.int .u64 a0_4); have hcz20_5 := HW.zc BK365.out 5 (.int .u64 a0_5); have hcz20_6 := HW.zc BK365.out 6 (.slice A0_6 l0_6.length c0_6); have hcz20_7 := HW.zc BK365.out 7 (.slice A0_7 l0_7.length c0_7)) | ((with_reducible refine gate_dst (N := 6) rfl ?_); refine HW.R_runes _ 21 rfl (N := 6) rfl 9 70 _ rfl a0_2 rfl Tryd.underlying9 Tryd.underlying70 Tryd.underlying21 (ok := fun _ => True) trivial (of_decide_eq_true (by first | (with_reducible assumption) | assumption)) (Below.refl _ _) (Nat.le_refl _) ?_; intro v367 w21 ho22 hb hg_ hnew_; clear hg_ hnew_; (first | rw [← Ny366.out] at ho22 | (simp only [Int.reduceToNat] at ho22; rw [← Ny366.out] at ho22)); have n0_ := Aside0.mk (Kd.R_lower ho22 (below_size HW.zb)); have n1_ := Aside0.mk (blk_below (g := gb365) (o := .cells #[.int .i64 a0_0, .string a0_1, .string a0_2, .int .i64 a0_3, .int .u64 a0_4, .int .u64 a0_5, .slice A0_6 l0_6.length c0_6, .slice A0_7 l0_7.length c0_7] 26 (0, 0)) (HW.zB BK365.out) hb); have n2_ := Aside0.mk (below_step HW.zb hb); clear BK365; clear HB; have HO368 := n0_; have BK365 := n1_; have HB := n2_; clear n0_ n1_ n2_; clear hb ho22; have hcv23 := HW.own_runes_string (P := Tryd.prog) Tryd.underlying70 Tryd.underlying21 Tryd.underlying9 (HO368.out); have hcz24_0 := HW.zc BK365.out 0 (.int .i64 a0_0); have hcz24_1 := HW.zc BK365.out 1 (.string a0_1); have hcz24_2 := HW.zc BK365.out 2 (.string a0_2); have hcz24_3 := HW.zc BK365.out 3 (.int .i64 a0_3); have hcz24_4 := HW.zc BK365.out 4 (.int .u64 a0_4); have hcz24_5 := HW.zc BK365.out 5 (.int .u64 a0_5); have hcz24_6 := HW.zc BK365.out 6 (.slice A0_6 l0_6.length c0_6); have hcz24_7 := HW.zc BK365.out 7 (.slice A0_7 l0_7.length c0_7)))
      go_ret
      exact ⟨by first | rfl | (simp [errW_none, errW_some] <;> rfl) | (simp [*, errW_none, errW_some] <;> rfl), HW.zb⟩
  rw [if_pos c3] at H; have c3b0 : ((runesBytes y366).toList == a0_2.toList) = true := beq_iff_eq.mpr c3; have c3b1 : ((runesBytes y366).toList != a0_2.toList) = false := bne_eq_false_iff_eq.mpr c3; clear c3; have H' := Aside0.mk H; clear H
  go_enter Tryd.func16, Tryd.ntmps16
  go_wp2_with (first | ((with_reducible refine gate_dst (N := 1) rfl ?_); refine box_event ?hg (N := 1) ?hd (cs := #[.int .i64 a0_0, .string a0_1, .string a0_2, .int .i64 a0_3, .int .u64 a0_4, .int .u64 a0_5, .slice A0_6 l0_6.length c0_6, .slice A0_7 l0_7.length c0_7]) (t := 26) ?hr ?_; (case hd => rfl); (case hg => rfl); (case hr => first | (go_simp; done) | (go_simp; rfl)); intro gb365 hg w4 hbox hb; have n0_ := Aside0.mk (below_step HW.zb hb); have n1_ := Aside0.mk (hbox); have n3_ := Aside0.mk ((by rw [hg]; exact (below_size HW.zb) : w.heap.size ≤ gb365)); clear HB; have HB := n0_; have BK365 := n1_; have GE365 := n3_; clear n0_ n1_ n3_; clear hb hbox hg; have hcz5_0 := HW.zc BK365.out 0 (.int .i64 a0_0); have hcz5_1 := HW.zc BK365.out 1 (.string a0_1); have hcz5_2 := HW.zc BK365.out 2 (.string a0_2); have hcz5_3 := HW.zc BK365.out 3 (.int .i64 a0_3); have hcz5_4 := HW.zc BK365.out 4 (.int .u64 a0_4); have hcz5_5 := HW.zc BK365.out 5 (.int .u64 a0_5); have hcz5_6 := HW.zc BK365.out 6 (.slice A0_6 l0_6.length c0_6); have hcz5_7 := HW.zc BK365.out 7 (.slice A0_7 l0_7.length c0_7)) | ((with_reducible refine gate_dst (N := 6) rfl ?_); refine HW.R_runes _ 21 rfl (N := 6) rfl 9 70 _ rfl a0_2 rfl Tryd.underlying9 Tryd.underlying70 Tryd.underlying21 (ok := fun _ => True) trivial (of_decide_eq_true (by first | (with_reducible assumption) | assumption)) (Below.refl _ _) (Nat.le_refl _) ?_; intro v367 w6 ho7 hb hg_ hnew_; clear hg_ hnew_; (first | rw [← Ny366.out] at ho7 | (simp only [Int.reduceToNat] at ho7; rw [← Ny366.out] at ho7)); have n0_ := Aside0.mk (Kd.R_lower ho7 (below_size HW.zb)); have n1_ := Aside0.mk (blk_below (g := gb365) (o := .cells #[.int .i64 a0_0, .string a0_1, .string a0_2, .int .i64 a0_3, .int .u64 a0_4, .int .u64 a0_5, .slice A0_6 l0_6.length c0_6, .slice A0_7 l0_7.length c0_7] 26 (0, 0)) (HW.zB BK365.out) hb); have n2_ := Aside0.mk (below_step HW.zb hb); clear BK365; clear HB; have HO368 := n0_; have BK365 := n1_; have HB := n2_; clear n0_ n1_ n2_; clear hb ho7; have hcv8 := HW.own_runes_string (P := Tryd.prog) Tryd.underlying70 Tryd.underlying21 Tryd.underlying9 (HO368.out); have hcz9_0 := HW.zc BK365.out 0 (.int .i64 a0_0); have hcz9_1 := HW.zc BK365.out 1 (.string a0_1); have hcz9_2 := HW.zc BK365.out 2 (.string a0_2); have hcz9_3 := HW.zc BK365.out 3 (.int .i64 a0_3); have hcz9_4 := HW.zc BK365.out 4 (.int .u64 a0_4); have hcz9_5 := HW.zc BK365.out 5 (.int .u64 a0_5); have hcz9_6 := HW.zc BK365.out 6 (.slice A0_6 l0_6.length c0_6); have hcz9_7 := HW.zc BK365.out 7 (.slice A0_7 l0_7.length c0_7)))
  go_loopg [3] k (fun kq v3 w' => ∃ (x3_1 : Int), v3 = .int .i64 x3_1 ∧ Aside0 (spec_BindTexts.l0 kq x3_1 a0_0 a0_1 a0_2 a0_3 a0_4 a0_5 l0_6 l0_7 = some r) ∧ Aside0 (kq ≤ k) ∧ Aside0 (w'.heap[gb365]? = some (.cells #[.int .i64 a0_0, .string a0_1, .string a0_2, .int .i64 a0_3, .int .u64 a0_4, .int .u64 a0_5, (.slice A0_6 l0_6.length c0_6), (.slice A0_7 l0_7.length c0_7)] 26 (0, 0))) ∧ Aside0 (Below w.heap.size w w'))
  case atStart => exact ⟨(0), (by first | rfl | (simp; done) | (simp [*]; done)), H', ⟨Nat.le_refl _⟩, ⟨by (with_reducible repeat (first | refine blk_drewN ?_ _ | refine blk_drew ?_ | refine blk_alloc ?_ _)); exact BK365.out⟩, ⟨HW.zb⟩⟩
  case round =>
    clear H'; (try clear c1); (try clear c2); (try clear c2b0); (try clear c2b1); (try clear p2); (try clear c3); (try clear c3b0); (try clear c3b1); (try clear hcv8); (try clear hcz5_0); (try clear hcz5_1); (try clear hcz5_2); (try clear hcz5_3); (try clear hcz5_4); (try clear hcz5_5); (try clear hcz5_6); (try clear hcz5_7); (try clear hcz9_0); (try clear hcz9_1); (try clear hcz9_2); (try clear hcz9_3); (try clear hcz9_4); (try clear hcz9_5); (try clear hcz9_6); (try clear hcz9_7); obtain ⟨x3_1, rfl, HA, HK1, BK365, HB⟩ := hrel
    cases gk with
    | zero => exact absurd HA.out (by simp [spec_BindTexts.l0])
    | succ k1 =>
      have H := HA.out; clear HA
      simp only [spec_BindTexts.l0] at H
      by_cases c10 : x3_1 < (l0_7.length : Int)
      rotate_left
      · rw [if_neg c10] at H
        have c10b0 : decide (x3_1 < (l0_7.length : Int)) = false := decide_eq_false c10; clear c10
        as_aux_lemma =>
          obtain rfl := Option.some.inj H; have hcz18_0 := HW.zc BK365.out 0 (.int .i64 a0_0); have hcz18_1 := HW.zc BK365.out 1 (.string a0_1); have hcz18_2 := HW.zc BK365.out 2 (.string a0_2); have hcz18_3 := HW.zc BK365.out 3 (.int .i64 a0_3); have hcz18_4 := HW.zc BK365.out 4 (.int .u64 a0_4); have hcz18_5 := HW.zc BK365.out 5 (.int .u64 a0_5); have hcz18_6 := HW.zc BK365.out 6 (.slice A0_6 l0_6.length c0_6); have hcz18_7 := HW.zc BK365.out 7 (.slice A0_7 l0_7.length c0_7)
          go_wp2
          go_ret
          exact ⟨by first | rfl | (simp [errW_none, errW_some] <;> rfl) | (simp [*, errW_none, errW_some] <;> rfl), HW.zb⟩
      rw [if_pos c10] at H; have c10b0 : decide (x3_1 < (l0_7.length : Int)) = true := decide_eq_true c10; clear c10
      by_cases c11 : 0 ≤ x3_1
      rotate_left
      · rw [if_neg c11] at H
        exact absurd H (by simp)
      rw [if_pos c11] at H; have c11b0 : decide (0 ≤ x3_1) = true := decide_eq_true c11; clear c11; replace H := Option.bind_eq_some_iff.mp H; obtain ⟨t370, A120, H⟩ := H; replace H : (if t370 = true then (spec_BindTexts.l0 k1 (wrap64 (x3_1 + 1)) a0_0 a0_1 a0_2 a0_3 a0_4 a0_5 l0_6 l0_7) else (some false)) = some r := H; have A12 := Aside0.mk A120; clear A120
      by_cases c13 : t370 = true
      · subst c13
        have H1 : (spec_BindTexts.l0 k1 (wrap64 (x3_1 + 1)) a0_0 a0_1 a0_2 a0_3 a0_4 a0_5 l0_6 l0_7) = some r := by rw [if_pos rfl] at H; exact H
        clear H; have H := H1; clear H1
        as_aux_lemma =>
          have H' := Aside0.mk H; clear H; have hcz14_0 := HW.zc BK365.out 0 (.int .i64 a0_0); have hcz14_1 := HW.zc BK365.out 1 (.string a0_1); have hcz14_2 := HW.zc BK365.out 2 (.string a0_2); have hcz14_3 := HW.zc BK365.out 3 (.int .i64 a0_3); have hcz14_4 := HW.zc BK365.out 4 (.int .u64 a0_4); have hcz14_5 := HW.zc BK365.out 5 (.int .u64 a0_5); have hcz14_6 := HW.zc BK365.out 6 (.slice A0_6 l0_6.length c0_6); have hcz14_7 := HW.zc BK365.out 7 (.slice A0_7 l0_7.length c0_7)
          have p369 : 0 ≤ (x3_1 : Int) := of_decide_eq_true (by first | (with_reducible assumption) | assumption)
          have q369 : x3_1 < (l0_7.length : Int) := of_decide_eq_true (by first | (with_reducible assumption) | assumption)
          obtain ⟨ad369, A369_7, c369_7, A369_8, c369_8, e369, hx369_0, hx369_1, hx369_2, hx369_3, hx369_4, hx369_5, hx369_6, hx369_7, hx369_8, hl369_7, hi369_7, hl369_8, hi369_8⟩ := at_T34 HR0_7.out x3_1 p369 q369
          cases e369
          replace hx369_0 := (HB.out.cell (World.block_lt_of_cell? w _ hx369_0)).trans hx369_0; replace hx369_1 := (HB.out.cell (World.block_lt_of_cell? w _ hx369_1)).trans hx369_1; replace hx369_2 := (HB.out.cell (World.block_lt_of_cell? w _ hx369_2)).trans hx369_2; replace hx369_3 := (HB.out.cell (World.block_lt_of_cell? w _ hx369_3)).trans hx369_3; replace hx369_4 := (HB.out.cell (World.block_lt_of_cell? w _ hx369_4)).trans hx369_4; replace hx369_5 := (HB.out.cell (World.block_lt_of_cell? w _ hx369_5)).trans hx369_5; replace hx369_6 := (HB.out.cell (World.block_lt_of_cell? w _ hx369_6)).trans hx369_6; replace hx369_7 := (HB.out.cell (World.block_lt_of_cell? w _ hx369_7)).trans hx369_7; replace hx369_8 := (HB.out.cell (World.block_lt_of_cell? w _ hx369_8)).trans hx369_8; have HR369_7 := Aside0.mk hi369_7; have HC369_7 := Aside0.mk hl369_7; clear hi369_7 hl369_7; have HR369_8 := Aside0.mk hi369_8; have HC369_8 := Aside0.mk hl369_8; clear hi369_8 hl369_8; replace p369 := eq_true p369; replace q369 := eq_true q369
          go_wp2_with (first | ((with_reducible refine gate_callee (f := 16) rfl ?_); refine HW.gz (some 24) rfl rfl Tryd.func16 (by kernel_rfl) rfl #[.agg #[.int .i64 ((rd_T34 l0_7 x3_1).f1.f0), .string ((rd_T34 l0_7 x3_1).f1.f1), .string ((rd_T34 l0_7 x3_1).f1.f2), .int .i64 ((rd_T34 l0_7 x3_1).f1.f3), .int .u64 ((rd_T34 l0_7 x3_1).f1.f4), .int .u64 ((rd_T34 l0_7 x3_1).f1.f5), .slice A369_7 ((rd_T34 l0_7 x3_1).f1.f6).length c369_7, .slice A369_8 ((rd_T34 l0_7 x3_1).f1.f7).length c369_8]] rfl ?_; (with_reducible refine (ih k1 (by have := HK1.out; omega) ((rd_T34 l0_7 x3_1).f1.f0) ((rd_T34 l0_7 x3_1).f1.f1) ((rd_T34 l0_7 x3_1).f1.f2) ((rd_T34 l0_7 x3_1).f1.f3) ((rd_T34 l0_7 x3_1).f1.f4) ((rd_T34 l0_7 x3_1).f1.f5) _ _ ((rd_T34 l0_7 x3_1).f1.f6) _ _ ((rd_T34 l0_7 x3_1).f1.f7) true _ ?side1 ?side2 ?side3 ?side4 A12.out).mono ?_); (case side1 => repeat (first | exact (Kd.C_below HR369_7.out HB.out) | (with_reducible refine Kd.C_alloc ?_ _) | (with_reducible refine Kd.C_drewN ?_ _) | (with_reducible refine Kd.C_drew ?_))); (case side2 => exact HC369_7.out); (case side3 => repeat (first | exact (Kd.C_below HR369_8.out HB.out) | (with_reducible refine Kd.C_alloc ?_ _) | (with_reducible refine Kd.C_drewN ?_ _) | (with_reducible refine Kd.C_drew ?_))); (case side4 => exact HC369_8.out); rintro e w15 ⟨rfl, hb⟩; refine ⟨_, rfl, ?_⟩; have n0_ := Aside0.mk (blk_below (g := gb365) (o := .cells #[.int .i64 a0_0, .string a0_1, .string a0_2, .int .i64 a0_3, .int .u64 a0_4, .int .u64 a0_5, .slice A0_6 l0_6.length c0_6, .slice (some ad369) l0_7.length c0_7] 26 (0, 0)) (HW.zB BK365.out) hb); have n1_ := Aside0.mk (below_step HW.zb hb); clear BK365; clear HB; have BK365 := n0_; have HB := n1_; clear n0_ n1_; (try clear hb); (try clear hb2); (try clear hk); (try clear hi)))
          go_roundg k1
          case measure => have := HK1.out; omega
          case rel => exact ⟨(wrap64 (x3_1 + 1)), (by first | rfl | (simp; done) | (simp [*]; done)), H', ⟨by have := HK1.out; omega⟩, ⟨by (with_reducible repeat (first | refine blk_drewN ?_ _ | refine blk_drew ?_ | refine blk_alloc ?_ _)); exact BK365.out⟩, ⟨HW.zb⟩⟩
      replace c13 := Bool.eq_false_iff.mpr c13; subst c13
      have H1 : (some false) = some r := by rw [if_neg (show ¬ (false = true) by decide)] at H; exact H
      clear H; have H := H1; clear H1
      as_aux_lemma =>
        obtain rfl := Option.some.inj H; have hcz16_0 := HW.zc BK365.out 0 (.int .i64 a0_0); have hcz16_1 := HW.zc BK365.out 1 (.string a0_1); have hcz16_2 := HW.zc BK365.out 2 (.string a0_2); have hcz16_3 := HW.zc BK365.out 3 (.int .i64 a0_3); have hcz16_4 := HW.zc BK365.out 4 (.int .u64 a0_4); have hcz16_5 := HW.zc BK365.out 5 (.int .u64 a0_5); have hcz16_6 := HW.zc BK365.out 6 (.slice A0_6 l0_6.length c0_6); have hcz16_7 := HW.zc BK365.out 7 (.slice A0_7 l0_7.length c0_7)
        have p369 : 0 ≤ (x3_1 : Int) := of_decide_eq_true (by first | (with_reducible assumption) | assumption)
        have q369 : x3_1 < (l0_7.length : Int) := of_decide_eq_true (by first | (with_reducible assumption) | assumption)
        obtain ⟨ad369, A369_7, c369_7, A369_8, c369_8, e369, hx369_0, hx369_1, hx369_2, hx369_3, hx369_4, hx369_5, hx369_6, hx369_7, hx369_8, hl369_7, hi369_7, hl369_8, hi369_8⟩ := at_T34 HR0_7.out x3_1 p369 q369
        cases e369
        replace hx369_0 := (HB.out.cell (World.block_lt_of_cell? w _ hx369_0)).trans hx369_0; replace hx369_1 := (HB.out.cell (World.block_lt_of_cell? w _ hx369_1)).trans hx369_1; replace hx369_2 := (HB.out.cell (World.block_lt_of_cell? w _ hx369_2)).trans hx369_2; replace hx369_3 := (HB.out.cell (World.block_lt_of_cell? w _ hx369_3)).trans hx369_3; replace hx369_4 := (HB.out.cell (World.block_lt_of_cell? w _ hx369_4)).trans hx369_4; replace hx369_5 := (HB.out.cell (World.block_lt_of_cell? w _ hx369_5)).trans hx369_5; replace hx369_6 := (HB.out.cell (World.block_lt_of_cell? w _ hx369_6)).trans hx369_6; replace hx369_7 := (HB.out.cell (World.block_lt_of_cell? w _ hx369_7)).trans hx369_7; replace hx369_8 := (HB.out.cell (World.block_lt_of_cell? w _ hx369_8)).trans hx369_8; have HR369_7 := Aside0.mk hi369_7; have HC369_7 := Aside0.mk hl369_7; clear hi369_7 hl369_7; have HR369_8 := Aside0.mk hi369_8; have HC369_8 := Aside0.mk hl369_8; clear hi369_8 hl369_8; replace p369 := eq_true p369; replace q369 := eq_true q369
        go_wp2_with (first | ((with_reducible refine gate_callee (f := 16) rfl ?_); refine HW.gz (some 24) rfl rfl Tryd.func16 (by kernel_rfl) rfl #[.agg #[.int .i64 ((rd_T34 l0_7 x3_1).f1.f0), .string ((rd_T34 l0_7 x3_1).f1.f1), .string ((rd_T34 l0_7 x3_1).f1.f2), .int .i64 ((rd_T34 l0_7 x3_1).f1.f3), .int .u64 ((rd_T34 l0_7 x3_1).f1.f4), .int .u64 ((rd_T34 l0_7 x3_1).f1.f5), .slice A369_7 ((rd_T34 l0_7 x3_1).f1.f6).length c369_7, .slice A369_8 ((rd_T34 l0_7 x3_1).f1.f7).length c369_8]] rfl ?_; (with_reducible refine (ih k1 (by have := HK1.out; omega) ((rd_T34 l0_7 x3_1).f1.f0) ((rd_T34 l0_7 x3_1).f1.f1) ((rd_T34 l0_7 x3_1).f1.f2) ((rd_T34 l0_7 x3_1).f1.f3) ((rd_T34 l0_7 x3_1).f1.f4) ((rd_T34 l0_7 x3_1).f1.f5) _ _ ((rd_T34 l0_7 x3_1).f1.f6) _ _ ((rd_T34 l0_7 x3_1).f1.f7) false _ ?side1 ?side2 ?side3 ?side4 A12.out).mono ?_); (case side1 => repeat (first | exact (Kd.C_below HR369_7.out HB.out) | (with_reducible refine Kd.C_alloc ?_ _) | (with_reducible refine Kd.C_drewN ?_ _) | (with_reducible refine Kd.C_drew ?_))); (case side2 => exact HC369_7.out); (case side3 => repeat (first | exact (Kd.C_below HR369_8.out HB.out) | (with_reducible refine Kd.C_alloc ?_ _) | (with_reducible refine Kd.C_drewN ?_ _) | (with_reducible refine Kd.C_drew ?_))); (case side4 => exact HC369_8.out); rintro e w17 ⟨rfl, hb⟩; refine ⟨_, rfl, ?_⟩; have n1_ := Aside0.mk (below_step HW.zb hb); clear HB; have HB := n1_; clear n1_; (try clear hb); (try clear hb2); (try clear hk); (try clear hi)))
        go_ret
        exact ⟨by first | rfl | (simp [errW_none, errW_some] <;> rfl) | (simp [*, errW_none, errW_some] <;> rfl), HW.zb⟩

/-! ### laws_bindDoc: function 6 -/
def laws_bindDoc.j0 : Nat → Bool → Int → ByteArray → ByteArray → Int → Int → Int → List Int → List (S34) → Option (List Int × Bool)
  | 0, _, _, _, _, _, _, _, _, _ => none
  | k + 1, x16, x372000, x372001, x372002, x372003, x372004, x372005, x372006, x372007 => if x16 = true then (some (([] : List Int), false)) else ((spec_DocBytes.f k x372007).bind fun t374 => (some (t374, true)))
def laws_bindDoc.f (k : Nat) (a0_0 : Int) (a0_1 : ByteArray) (a0_2 : ByteArray) (a0_3 : Int) (a0_4 : Int) (a0_5 : Int) (l0_6 : List Int) (l0_7 : List (S34)) : Option (List Int × Bool) := if a0_0 = 3 then ((laws_bindRight.f k a0_0 a0_1 a0_2 a0_3 a0_4 a0_5 l0_6 l0_7).bind fun t372 => (if t372 = true then ((spec_BindTexts.f k a0_0 a0_1 a0_2 a0_3 a0_4 a0_5 l0_6 l0_7).bind fun t373 => (laws_bindDoc.j0 k (!t373) a0_0 a0_1 a0_2 a0_3 a0_4 a0_5 l0_6 l0_7)) else (laws_bindDoc.j0 k true a0_0 a0_1 a0_2 a0_3 a0_4 a0_5 l0_6 l0_7))) else (laws_bindDoc.j0 k true a0_0 a0_1 a0_2 a0_3 a0_4 a0_5 l0_6 l0_7)
theorem laws_bindDoc.mono_l : ∀ k, (∀ y0 y1 y2 y3 y4 y5 y6 y7 y8, LeO (laws_bindDoc.j0 k y0 y1 y2 y3 y4 y5 y6 y7 y8) (laws_bindDoc.j0 (k + 1) y0 y1 y2 y3 y4 y5 y6 y7 y8))
  | 0 => fun _ _ _ _ _ _ _ _ _ r h => by simp [laws_bindDoc.j0] at h
  | k + 1 => by
    have ih0 := laws_bindDoc.mono_l k
    · intro y0 y1 y2 y3 y4 y5 y6 y7 y8
      unfold laws_bindDoc.j0
      repeat' first
      | (with_reducible exact ih0 _ _ _ _ _ _ _ _ _)
      | (with_reducible exact laws_bindRight.mono _ _ _ _ _ _ _ _ _)
      | (with_reducible exact spec_BindTexts.mono _ _ _ _ _ _ _ _ _)
      | (with_reducible exact spec_DocBytes.mono _ _)
      | (with_reducible exact LeO.refl _)
      | (with_reducible exact LeO.none _)
      | (with_reducible refine LeO.ite ?_ ?_)
      | (with_reducible refine LeO.bind ?_ (fun _ => ?_))
      | exact ih0 _ _ _ _ _ _ _ _ _
      | exact laws_bindRight.mono _ _ _ _ _ _ _ _ _
      | exact spec_BindTexts.mono _ _ _ _ _ _ _ _ _
      | exact spec_DocBytes.mono _ _
      | exact LeO.none _
      | refine LeO.ite ?_ ?_
      | refine LeO.bind ?_ (fun _ => ?_)
theorem laws_bindDoc.mono : ∀ a0 a1 a2 a3 a4 a5 a6 a7 k, LeO (laws_bindDoc.f k a0 a1 a2 a3 a4 a5 a6 a7) (laws_bindDoc.f (k + 1) a0 a1 a2 a3 a4 a5 a6 a7) := by
  intro a0 a1 a2 a3 a4 a5 a6 a7 k
  have ih0 := laws_bindDoc.mono_l k
  unfold laws_bindDoc.f
  repeat' first
      | (with_reducible exact ih0 _ _ _ _ _ _ _ _ _)
      | (with_reducible exact laws_bindRight.mono _ _ _ _ _ _ _ _ _)
      | (with_reducible exact spec_BindTexts.mono _ _ _ _ _ _ _ _ _)
      | (with_reducible exact spec_DocBytes.mono _ _)
      | (with_reducible exact LeO.refl _)
      | (with_reducible exact LeO.none _)
      | (with_reducible refine LeO.ite ?_ ?_)
      | (with_reducible refine LeO.bind ?_ (fun _ => ?_))
      | exact ih0 _ _ _ _ _ _ _ _ _
      | exact laws_bindRight.mono _ _ _ _ _ _ _ _ _
      | exact spec_BindTexts.mono _ _ _ _ _ _ _ _ _
      | exact spec_DocBytes.mono _ _
      | exact LeO.none _
      | refine LeO.ite ?_ ?_
      | refine LeO.bind ?_ (fun _ => ?_)
set_option maxHeartbeats 8000000 in
set_option maxRecDepth 100000 in
theorem laws_bindDoc.calls (k : Nat) (a0_0 : Int) (a0_1 : ByteArray) (a0_2 : ByteArray) (a0_3 : Int) (a0_4 : Int) (a0_5 : Int) (A0_6 : Option Addr) (c0_6 : Nat) (l0_6 : List Int) (A0_7 : Option Addr) (c0_7 : Nat) (l0_7 : List (S34)) (r1 : List Int) (r2 : Bool) (w : World) (hr0_6 : Kd.C (Kd.int .u8) w A0_6 l0_6.length l0_6) (hc0_6 : l0_6.length ≤ c0_6) (hr0_7 : Kd.C k34 w A0_7 l0_7.length l0_7) (hc0_7 : l0_7.length ≤ c0_7) (h : laws_bindDoc.f k a0_0 a0_1 a0_2 a0_3 a0_4 a0_5 l0_6 l0_7 = some (r1, r2)) :
    Calls Tryd.prog 6 #[.agg #[.int .i64 a0_0, .string a0_1, .string a0_2, .int .i64 a0_3, .int .u64 a0_4, .int .u64 a0_5, .slice A0_6 l0_6.length c0_6, .slice A0_7 l0_7.length c0_7]] w fun e w' => ∃ v0_ : Value, e = .returned (.tuple #[v0_, .bool r2]) ∧ Kd.R (Kd.int .u8) 5 w' w.heap.size (fun _ => True) v0_ r1 ∧ Below w.heap.size w w' := by
  have hu26 := Tryd.underlying26; have HR0_6 := Aside0.mk hr0_6; have HC0_6 := Aside0.mk hc0_6; clear hr0_6 hc0_6; have HR0_7 := Aside0.mk hr0_7; have HC0_7 := Aside0.mk hc0_7; clear hr0_7 hc0_7; have HB := Aside0.mk (Below.refl w.heap.size w); have H : (if a0_0 = 3 then ((laws_bindRight.f k a0_0 a0_1 a0_2 a0_3 a0_4 a0_5 l0_6 l0_7).bind fun t372 => (if t372 = true then ((spec_BindTexts.f k a0_0 a0_1 a0_2 a0_3 a0_4 a0_5 l0_6 l0_7).bind fun t373 => (laws_bindDoc.j0 k (!t373) a0_0 a0_1 a0_2 a0_3 a0_4 a0_5 l0_6 l0_7)) else (laws_bindDoc.j0 k true a0_0 a0_1 a0_2 a0_3 a0_4 a0_5 l0_6 l0_7))) else (laws_bindDoc.j0 k true a0_0 a0_1 a0_2 a0_3 a0_4 a0_5 l0_6 l0_7)) = some (r1, r2) := h; clear h; have HC2 := Aside0.mk H; clear H
  go_enter Tryd.func6, Tryd.ntmps6
  go_upto_region 1 with (first | ((with_reducible refine gate_dst (N := 1) rfl ?_); refine box_event ?hg (N := 1) ?hd (cs := #[.int .i64 a0_0, .string a0_1, .string a0_2, .int .i64 a0_3, .int .u64 a0_4, .int .u64 a0_5, .slice A0_6 l0_6.length c0_6, .slice A0_7 l0_7.length c0_7]) (t := 26) ?hr ?_; (case hd => rfl); (case hg => rfl); (case hr => first | (go_simp; done) | (go_simp; rfl)); intro gb371 hg w3 hbox hb; have n0_ := Aside0.mk (below_step HW.zb hb); have n1_ := Aside0.mk (hbox); have n3_ := Aside0.mk ((by rw [hg]; exact (below_size HW.zb) : w.heap.size ≤ gb371)); clear HB; have HB := n0_; have BK371 := n1_; have GE371 := n3_; clear n0_ n1_ n3_; clear hb hbox hg))
  (try simp only [Act.put, List.setIfInBounds_toArray, List.set_cons_zero, List.set_cons_succ])
  go_cut [16] (fun v16 wc => ∃ (kq : Nat) (x16_1 : Bool), v16 = .bool x16_1 ∧ Aside0 (laws_bindDoc.j0 kq x16_1 a0_0 a0_1 a0_2 a0_3 a0_4 a0_5 l0_6 l0_7 = some (r1, r2)) ∧ Aside0 (kq ≤ k) ∧ Aside0 (wc.heap[gb371]? = some (.cells #[.int .i64 a0_0, .string a0_1, .string a0_2, .int .i64 a0_3, .int .u64 a0_4, .int .u64 a0_5, (.slice A0_6 l0_6.length c0_6), (.slice A0_7 l0_7.length c0_7)] 26 (0, 0))) ∧ Aside0 (Below w.heap.size w wc))
  case first =>
    have H := HC2.out; clear HC2
    by_cases c4 : a0_0 = 3
    rotate_left
    · rw [if_neg c4] at H
      have c4b0 : (a0_0 == 3) = false := beq_eq_false_iff_ne.mpr c4; have c4b1 : (a0_0 != 3) = true := bne_iff_ne.mpr c4
      (first | rw [c4b0] | (simp only [i64_w, i32_w]; rw [c4b0]) | skip)
      as_aux_lemma =>
        have H' := Aside0.mk H; clear H; have hcz14_0 := HW.zc BK371.out 0 (.int .i64 a0_0); have hcz14_1 := HW.zc BK371.out 1 (.string a0_1); have hcz14_2 := HW.zc BK371.out 2 (.string a0_2); have hcz14_3 := HW.zc BK371.out 3 (.int .i64 a0_3); have hcz14_4 := HW.zc BK371.out 4 (.int .u64 a0_4); have hcz14_5 := HW.zc BK371.out 5 (.int .u64 a0_5); have hcz14_6 := HW.zc BK371.out 6 (.slice A0_6 l0_6.length c0_6); have hcz14_7 := HW.zc BK371.out 7 (.slice A0_7 l0_7.length c0_7)
        go_wp2
        go_meet
        case rel => exact ⟨_, (true), (by first | rfl | (simp; done) | (simp [*]; done)), H', ⟨by first | omega | exact Nat.le_refl _⟩, ⟨by (with_reducible repeat (first | refine blk_drewN ?_ _ | refine blk_drew ?_ | refine blk_alloc ?_ _)); exact BK371.out⟩, ⟨HW.zb⟩⟩
    rw [if_pos c4] at H; have c4b0 : (a0_0 == 3) = true := beq_iff_eq.mpr c4; have c4b1 : (a0_0 != 3) = false := bne_eq_false_iff_eq.mpr c4; clear c4
    (first | rw [c4b0] | (simp only [i64_w, i32_w]; rw [c4b0]) | skip)
    replace H := Option.bind_eq_some_iff.mp H; obtain ⟨t372, A50, H⟩ := H; replace H : (if t372 = true then ((spec_BindTexts.f k a0_0 a0_1 a0_2 a0_3 a0_4 a0_5 l0_6 l0_7).bind fun t373 => (laws_bindDoc.j0 k (!t373) a0_0 a0_1 a0_2 a0_3 a0_4 a0_5 l0_6 l0_7)) else (laws_bindDoc.j0 k true a0_0 a0_1 a0_2 a0_3 a0_4 a0_5 l0_6 l0_7)) = some (r1, r2) := H; have A5 := Aside0.mk A50; clear A50
    by_cases c6 : t372 = true
    rotate_left
    · replace c6 := Bool.eq_false_iff.mpr c6
      subst c6
      have H1 : (laws_bindDoc.j0 k true a0_0 a0_1 a0_2 a0_3 a0_4 a0_5 l0_6 l0_7) = some (r1, r2) := by rw [if_neg (show ¬ (false = true) by decide)] at H; exact H
      clear H; have H := H1; clear H1
      as_aux_lemma =>
        have H' := Aside0.mk H; clear H; have hcz12_0 := HW.zc BK371.out 0 (.int .i64 a0_0); have hcz12_1 := HW.zc BK371.out 1 (.string a0_1); have hcz12_2 := HW.zc BK371.out 2 (.string a0_2); have hcz12_3 := HW.zc BK371.out 3 (.int .i64 a0_3); have hcz12_4 := HW.zc BK371.out 4 (.int .u64 a0_4); have hcz12_5 := HW.zc BK371.out 5 (.int .u64 a0_5); have hcz12_6 := HW.zc BK371.out 6 (.slice A0_6 l0_6.length c0_6); have hcz12_7 := HW.zc BK371.out 7 (.slice A0_7 l0_7.length c0_7)
        go_wp2_with (first | (go_at_call 9; (with_reducible refine (laws_bindRight.calls k a0_0 a0_1 a0_2 a0_3 a0_4 a0_5 _ _ l0_6 _ _ l0_7 false _ ?side1 ?side2 ?side3 ?side4 A5.out).mono ?_); (case side1 => repeat (first | exact (Kd.C_below HR0_6.out HB.out) | (with_reducible refine Kd.C_alloc ?_ _) | (with_reducible refine Kd.C_drewN ?_ _) | (with_reducible refine Kd.C_drew ?_))); (case side2 => exact HC0_6.out); (case side3 => repeat (first | exact (Kd.C_below HR0_7.out HB.out) | (with_reducible refine Kd.C_alloc ?_ _) | (with_reducible refine Kd.C_drewN ?_ _) | (with_reducible refine Kd.C_drew ?_))); (case side4 => exact HC0_7.out); rintro e w13 ⟨rfl, hb⟩; have n0_ := Aside0.mk (blk_below (g := gb371) (o := .cells #[.int .i64 a0_0, .string a0_1, .string a0_2, .int .i64 a0_3, .int .u64 a0_4, .int .u64 a0_5, .slice A0_6 l0_6.length c0_6, .slice A0_7 l0_7.length c0_7] 26 (0, 0)) (HW.zB BK371.out) hb); have n1_ := Aside0.mk (below_step HW.zb hb); clear BK371; clear HB; have BK371 := n0_; have HB := n1_; clear n0_ n1_; (try clear hb); (try clear hb2); (try clear hk); (try clear hi)))
        go_meet
        case rel => exact ⟨_, (true), (by first | rfl | (simp; done) | (simp [*]; done)), H', ⟨by first | omega | exact Nat.le_refl _⟩, ⟨by (with_reducible repeat (first | refine blk_drewN ?_ _ | refine blk_drew ?_ | refine blk_alloc ?_ _)); exact BK371.out⟩, ⟨HW.zb⟩⟩
    subst c6
    have H1 : ((spec_BindTexts.f k a0_0 a0_1 a0_2 a0_3 a0_4 a0_5 l0_6 l0_7).bind fun t373 => (laws_bindDoc.j0 k (!t373) a0_0 a0_1 a0_2 a0_3 a0_4 a0_5 l0_6 l0_7)) = some (r1, r2) := by rw [if_pos rfl] at H; exact H
    clear H; have H := H1; clear H1; replace H := Option.bind_eq_some_iff.mp H; obtain ⟨t373, A70, H⟩ := H; replace H : (laws_bindDoc.j0 k (!t373) a0_0 a0_1 a0_2 a0_3 a0_4 a0_5 l0_6 l0_7) = some (r1, r2) := H; have A7 := Aside0.mk A70; clear A70
    as_aux_lemma =>
      have H' := Aside0.mk H; clear H; have hcz8_0 := HW.zc BK371.out 0 (.int .i64 a0_0); have hcz8_1 := HW.zc BK371.out 1 (.string a0_1); have hcz8_2 := HW.zc BK371.out 2 (.string a0_2); have hcz8_3 := HW.zc BK371.out 3 (.int .i64 a0_3); have hcz8_4 := HW.zc BK371.out 4 (.int .u64 a0_4); have hcz8_5 := HW.zc BK371.out 5 (.int .u64 a0_5); have hcz8_6 := HW.zc BK371.out 6 (.slice A0_6 l0_6.length c0_6); have hcz8_7 := HW.zc BK371.out 7 (.slice A0_7 l0_7.length c0_7)
      go_wp2_with (first | (go_at_call 9; (with_reducible refine (laws_bindRight.calls k a0_0 a0_1 a0_2 a0_3 a0_4 a0_5 _ _ l0_6 _ _ l0_7 true _ ?side1 ?side2 ?side3 ?side4 A5.out).mono ?_); (case side1 => repeat (first | exact (Kd.C_below HR0_6.out HB.out) | (with_reducible refine Kd.C_alloc ?_ _) | (with_reducible refine Kd.C_drewN ?_ _) | (with_reducible refine Kd.C_drew ?_))); (case side2 => exact HC0_6.out); (case side3 => repeat (first | exact (Kd.C_below HR0_7.out HB.out) | (with_reducible refine Kd.C_alloc ?_ _) | (with_reducible refine Kd.C_drewN ?_ _) | (with_reducible refine Kd.C_drew ?_))); (case side4 => exact HC0_7.out); rintro e w9 ⟨rfl, hb⟩; have n0_ := Aside0.mk (blk_below (g := gb371) (o := .cells #[.int .i64 a0_0, .string a0_1, .string a0_2, .int .i64 a0_3, .int .u64 a0_4, .int .u64 a0_5, .slice A0_6 l0_6.length c0_6, .slice A0_7 l0_7.length c0_7] 26 (0, 0)) (HW.zB BK371.out) hb); have n1_ := Aside0.mk (below_step HW.zb hb); clear BK371; clear HB; have BK371 := n0_; have HB := n1_; clear n0_ n1_; (try clear hb); (try clear hb2); (try clear hk); (try clear hi); have hcz10_0 := HW.zc BK371.out 0 (.int .i64 a0_0); have hcz10_1 := HW.zc BK371.out 1 (.string a0_1); have hcz10_2 := HW.zc BK371.out 2 (.string a0_2); have hcz10_3 := HW.zc BK371.out 3 (.int .i64 a0_3); have hcz10_4 := HW.zc BK371.out 4 (.int .u64 a0_4); have hcz10_5 := HW.zc BK371.out 5 (.int .u64 a0_5); have hcz10_6 := HW.zc BK371.out 6 (.slice A0_6 l0_6.length c0_6); have hcz10_7 := HW.zc BK371.out 7 (.slice A0_7 l0_7.length c0_7)) | (go_at_call 16; (with_reducible refine (spec_BindTexts.calls k a0_0 a0_1 a0_2 a0_3 a0_4 a0_5 _ _ l0_6 _ _ l0_7 t373 _ ?side1 ?side2 ?side3 ?side4 A7.out).mono ?_); (case side1 => repeat (first | exact (Kd.C_below HR0_6.out HB.out) | (with_reducible refine Kd.C_alloc ?_ _) | (with_reducible refine Kd.C_drewN ?_ _) | (with_reducible refine Kd.C_drew ?_))); (case side2 => exact HC0_6.out); (case side3 => repeat (first | exact (Kd.C_below HR0_7.out HB.out) | (with_reducible refine Kd.C_alloc ?_ _) | (with_reducible refine Kd.C_drewN ?_ _) | (with_reducible refine Kd.C_drew ?_))); (case side4 => exact HC0_7.out); rintro e w11 ⟨rfl, hb⟩; have n0_ := Aside0.mk (blk_below (g := gb371) (o := .cells #[.int .i64 a0_0, .string a0_1, .string a0_2, .int .i64 a0_3, .int .u64 a0_4, .int .u64 a0_5, .slice A0_6 l0_6.length c0_6, .slice A0_7 l0_7.length c0_7] 26 (0, 0)) (HW.zB BK371.out) hb); have n1_ := Aside0.mk (below_step HW.zb hb); clear BK371; clear HB; have BK371 := n0_; have HB := n1_; clear n0_ n1_; (try clear hb); (try clear hb2); (try clear hk); (try clear hi)))
      go_meet
      case rel => exact ⟨_, (!t373), (by first | rfl | (simp; done) | (simp [*]; done)), H', ⟨by first | omega | exact Nat.le_refl _⟩, ⟨by (with_reducible repeat (first | refine blk_drewN ?_ _ | refine blk_drew ?_ | refine blk_alloc ?_ _)); exact BK371.out⟩, ⟨HW.zb⟩⟩
  case rest =>
    clear HC2; (try clear p2); (try clear c4); (try clear c4b0); (try clear c4b1); (try clear c6); (try clear hcz10_0); (try clear hcz10_1); (try clear hcz10_2); (try clear hcz10_3); (try clear hcz10_4); (try clear hcz10_5); (try clear hcz10_6); (try clear hcz10_7); (try clear hcz12_0); (try clear hcz12_1); (try clear hcz12_2); (try clear hcz12_3); (try clear hcz12_4); (try clear hcz12_5); (try clear hcz12_6); (try clear hcz12_7); (try clear hcz14_0); (try clear hcz14_1); (try clear hcz14_2); (try clear hcz14_3); (try clear hcz14_4); (try clear hcz14_5); (try clear hcz14_6); (try clear hcz14_7); (try clear hcz8_0); (try clear hcz8_1); (try clear hcz8_2); (try clear hcz8_3); (try clear hcz8_4); (try clear hcz8_5); (try clear hcz8_6); (try clear hcz8_7); obtain ⟨kq, x16_1, rfl, HA, HJ1, BK371, HB⟩ := hcut
    cases kq with
    | zero => exact absurd HA.out (by simp [laws_bindDoc.j0])
    | succ kj1 =>
      have H := HA.out; clear HA
      simp only [laws_bindDoc.j0] at H
      by_cases c15 : x16_1 = true
      · subst c15
        have H1 : (some (([] : List Int), false)) = some (r1, r2) := by rw [if_pos rfl] at H; exact H
        clear H; have H := H1; clear H1
        as_aux_lemma =>
          simp only [Option.some.injEq, Prod.mk.injEq] at H
          obtain ⟨rfl, rfl⟩ := H
          go_wp2
          go_ret2
          exact ⟨_, by first | rfl | (simp [errW_none, errW_some] <;> rfl) | (simp [*, errW_none, errW_some] <;> rfl), by first | exact Kd.R_nil _ _ _ _ _ | exact Kd.N_nil _ _ _ _ _ | exact Kd.V_nil _ _ _ _ _ | exact Kd.Q_nil _ _ _ _ _ | exact Kd.S_nil _ _ _ _ _, HW.zb⟩
      replace c15 := Bool.eq_false_iff.mpr c15; subst c15
      have H1 : ((spec_DocBytes.f kj1 l0_7).bind fun t374 => (some (t374, true))) = some (r1, r2) := by rw [if_neg (show ¬ (false = true) by decide)] at H; exact H
      clear H; have H := H1; clear H1; replace H := Option.bind_eq_some_iff.mp H; obtain ⟨t374, A160, H⟩ := H; replace H : (some (t374, true)) = some (r1, r2) := H; have A16 := Aside0.mk A160; clear A160
      as_aux_lemma =>
        simp only [Option.some.injEq, Prod.mk.injEq] at H
        obtain ⟨rfl, rfl⟩ := H; have hcz17_0 := HW.zc BK371.out 0 (.int .i64 a0_0); have hcz17_1 := HW.zc BK371.out 1 (.string a0_1); have hcz17_2 := HW.zc BK371.out 2 (.string a0_2); have hcz17_3 := HW.zc BK371.out 3 (.int .i64 a0_3); have hcz17_4 := HW.zc BK371.out 4 (.int .u64 a0_4); have hcz17_5 := HW.zc BK371.out 5 (.int .u64 a0_5); have hcz17_6 := HW.zc BK371.out 6 (.slice A0_6 l0_6.length c0_6); have hcz17_7 := HW.zc BK371.out 7 (.slice A0_7 l0_7.length c0_7)
        go_wp2_with (first | ((with_reducible refine gate_callee (f := 10) rfl ?_); refine HW.gz (some 19) rfl rfl Tryd.func10 (by kernel_rfl) rfl #[.slice A0_7 l0_7.length c0_7] rfl ?_; (with_reducible refine (spec_DocBytes.calls kj1 _ _ l0_7 t374 _ ?side1 ?side2 A16.out).mono ?_); (case side1 => repeat (first | exact (Kd.C_below HR0_7.out HB.out) | (with_reducible refine Kd.C_alloc ?_ _) | (with_reducible refine Kd.C_drewN ?_ _) | (with_reducible refine Kd.C_drew ?_))); (case side2 => exact HC0_7.out); rintro e w18 ⟨v375, rfl, ho0, hb⟩; refine ⟨_, rfl, ?_⟩; have n0_ := Aside0.mk (Kd.R_lower ho0 (below_size HW.zb)); have n2_ := Aside0.mk (below_step HW.zb hb); clear HB; have HO376 := n0_; have HB := n2_; clear n0_ n2_; (try clear hb); (try clear hb2); (try clear hk); (try clear hi); (try clear ho0)))
        go_ret2
        exact ⟨_, by first | rfl | (simp [errW_none, errW_some] <;> rfl) | (simp [*, errW_none, errW_some] <;> rfl), HW.zR HO376.out, HW.zb⟩

end Go.Proofs.YtlcgakpnpdkjjaaDoor.PBz
