import Derived.Test.YtbfhpjkahobgnaaGreatDoorPLox0
import Derived.Test.YtbfhpjkahobgnaaGreatDoorPLox1
import Derived.Test.YtbfhpjkahobgnaaGreatDoorPLox5
import Derived.Test.YtbfhpjkahobgnaaGreatDoorPLox11
import Derived.Test.YtbfhpjkahobgnaaGreatDoorPLox12
import Derived.Test.YtbfhpjkahobgnaaGreatDoorPLox13
namespace Go.Proofs.YtbfhpjkahobgnaaGreatDoor.PLo
open Go.Proofs.YtbfhpjkahobgnaaGreatDoor.HW (tt ff)
open Go.RowKit Go.Proofs.YtbfhpjkahobgnaaGreatDoorW.PrintWords Go.Proofs.YtbfhpjkahobgnaaGreatDoorW.PrintLast Go.Proofs.YtbfhpjkahobgnaaGreatDoorW.PrintMore
attribute [local go_sem] max2_int min2_int max_two min_two max_three min_three max_four min_four
set_option linter.unusedVariables false
set_option maxHeartbeats 8000000
set_option maxRecDepth 100000
set_option linter.unusedSimpArgs false
def spec_DocElem.T1 : Bool × List (List Nat × List Nat) := (true, [([], []), ([0], [0]), ([1], [1]), ([], []), ([3], [3]), ([2, 4], [2, 4]), ([], []), ([6], [6]), ([7, 5], [7]), ([5, 8, 8], [5, 8]), ([9, 9, 0, 1, 2, 3, 4, 5, 6, 7, 8, 9], [9])])
def spec_DocElem.B1 : List Nat := [0, 1, 3, 0, 8, 31, 0, 64, 255, 511, 1023]
theorem spec_DocElem.tab1 : rtab .any (opsOf Tryz.f33 1) = spec_DocElem.T1 := by kernel_rfl
theorem spec_DocElem.bits1 : waitsOk spec_DocElem.T1.2 spec_DocElem.B1 = true := by kernel_rfl
theorem spec_DocElem.step (k : Nat) (ih : ∀ j, j < k → Grp_spec_DocValue.Spec j) : ∀ (a0_0 : ByteArray) (a0_1 : Int) (a0_2 : ByteArray) (a0_3 : ByteArray) (a0_4 : Int) (a0_5 : Int) (a0_6 : Int) (A0_7 : Option Addr) (c0_7 : Nat) (l0_7 : List Int) (A0_8 : Option Addr) (c0_8 : Nat) (l0_8 : List (S73)) (r : List Int) (w : World) (hr0_7 : Kd.C (Kd.int .u8) w A0_7 l0_7.length l0_7) (hc0_7 : l0_7.length ≤ c0_7) (hr0_8 : Kd.C k73 w A0_8 l0_8.length l0_8) (hc0_8 : l0_8.length ≤ c0_8) (h : spec_DocElem.f k a0_0 a0_1 a0_2 a0_3 a0_4 a0_5 a0_6 l0_7 l0_8 = some r),
    Calls Tryz.prog 33 #[.agg #[.string a0_0, .int .i64 a0_1, .string a0_2, .string a0_3, .int .i64 a0_4, .int .u64 a0_5, .int .u64 a0_6, .slice A0_7 l0_7.length c0_7, .slice A0_8 l0_8.length c0_8]] w fun e w' => ∃ v0_ : Value, e = .returned (v0_) ∧ Kd.R (Kd.int .u8) 5 w' w.heap.size (fun _ => True) v0_ r ∧ Below w.heap.size w w' := by
  intro a0_0 a0_1 a0_2 a0_3 a0_4 a0_5 a0_6 A0_7 c0_7 l0_7 A0_8 c0_8 l0_8 r w hr0_7 hc0_7 hr0_8 hc0_8 h
  cases k with
  | zero => exact absurd h (by simp [spec_DocElem.f])
  | succ k =>
  simp only [spec_DocElem.f] at h
  have hu73 := Tryz.underlying73; have hu46 := Tryz.underlying46; have HR0_7 := Aside0.mk hr0_7; have HC0_7 := Aside0.mk hc0_7; clear hr0_7 hc0_7; have HR0_8 := Aside0.mk hr0_8; have HC0_8 := Aside0.mk hc0_8; clear hr0_8 hc0_8; have HB := Aside0.mk (Below.refl w.heap.size w); have H : ((spec_DocHead.f a0_1 a0_0).bind fun t702 => ((spec_DocValue.f k a0_1 a0_2 a0_3 a0_4 a0_5 a0_6 l0_7 l0_8).bind fun t705 => (if t702.length + t705.length < 140737488355328 then (some (t702 ++ t705)) else (none)))) = some r := h; clear h; replace H := Option.bind_eq_some_iff.mp H; obtain ⟨t702, A20, H⟩ := H; replace H : ((spec_DocValue.f k a0_1 a0_2 a0_3 a0_4 a0_5 a0_6 l0_7 l0_8).bind fun t705 => (if t702.length + t705.length < 140737488355328 then (some (t702 ++ t705)) else (none))) = some r := H; have A2 := Aside0.mk A20; clear A20; replace H := Option.bind_eq_some_iff.mp H; obtain ⟨t705, A30, H⟩ := H; replace H : (if t702.length + t705.length < 140737488355328 then (some (t702 ++ t705)) else (none)) = some r := H; have A3 := Aside0.mk A30; clear A30
  by_cases c4 : t702.length + t705.length < 140737488355328
  rotate_left
  · rw [if_neg c4] at H
    exact absurd H (by simp)
  rw [if_pos c4] at H; have LMc4 := Aside0.mk c4; clear c4; obtain ⟨y708, hy708⟩ : ∃ y_ : List Int, y_ = (t702 ++ t705) := ⟨_, rfl⟩
  replace H : (some y708) = some r := by (try rw [hy708]); exact HW.rp
  have Ny708 := Aside0.mk hy708; clear hy708
  as_aux_lemma =>
    obtain rfl := Option.some.inj H
    go_enter Tryz.func33, Tryz.ntmps33
    try go_wp2_with (first | ((with_reducible refine gate_dst (N := 1) rfl ?_); refine box_event ?hg (N := 1) ?hd (cs := #[.string a0_0, .int .i64 a0_1, .string a0_2, .string a0_3, .int .i64 a0_4, .int .u64 a0_5, .int .u64 a0_6, .slice A0_7 l0_7.length c0_7, .slice A0_8 l0_8.length c0_8]) (t := 73) ?hr ?_; (case hd => rfl); (case hg => rfl); (case hr => first | (go_simp; done) | (go_simp; rfl)); intro gb701 hg w5 hbox hb; have BK701 := Aside0.mk (hbox); have GE701 := Aside0.mk ((by rw [hg]; exact (below_size HW.zb) : w.heap.size ≤ gb701)); replace HB := Aside0.mk (below_step HW.zb hb); clear hb hbox hg))
    replace BK701 := Aside0.mk (blk_drew BK701.out); replace HB := Aside0.mk (below_drew1 HB.out)
    refine start_ (n := 11) (S := fun w' => w'.cell? ⟨gb701, 0, none⟩ = some (.string a0_0) ∧ w'.cell? ⟨gb701, 1, none⟩ = some (.int .i64 a0_1) ∧ w'.cell? ⟨gb701, 2, none⟩ = some (.string a0_2) ∧ w'.cell? ⟨gb701, 3, none⟩ = some (.string a0_3) ∧ w'.cell? ⟨gb701, 4, none⟩ = some (.int .i64 a0_4) ∧ w'.cell? ⟨gb701, 5, none⟩ = some (.int .u64 a0_5) ∧ w'.cell? ⟨gb701, 6, none⟩ = some (.int .u64 a0_6) ∧ w'.cell? ⟨gb701, 7, none⟩ = some (.slice A0_7 l0_7.length c0_7) ∧ w'.cell? ⟨gb701, 8, none⟩ = some (.slice A0_8 l0_8.length c0_8)) (ds := []) #[ff,ff,ff,ff,ff,ff,ff,ff,ff,ff,ff] (by kernel_rfl) rfl rfl ⟨(blk_cell BK701.out 0).trans rfl, (blk_cell BK701.out 1).trans rfl, (blk_cell BK701.out 2).trans rfl, (blk_cell BK701.out 3).trans rfl, (blk_cell BK701.out 4).trans rfl, (blk_cell BK701.out 5).trans rfl, (blk_cell BK701.out 6).trans rfl, (blk_cell BK701.out 7).trans rfl, (blk_cell BK701.out 8).trans rfl⟩ (fun hHeld => ?_); refine with_tabW spec_DocElem.tab1 spec_DocElem.bits1 (fun HT_ HW_ => ?_)
    generalize w5.drew = w6 at BK701 HB hHeld ⊢
    refine HW.pz (i := 0) (N := some 3) #[tt,ff,ff,ff,ff,ff,ff,ff,ff,ff,ff] ?_ (hc := any_of HT_.out (by kernel_rfl))
    refine HW.pz (i := 1) (N := some 4) #[tt,tt,ff,ff,ff,ff,ff,ff,ff,ff,ff] ?_ (hc := any_of HT_.out (by kernel_rfl))
    refine HW.pz (i := 3) (N := some 6) #[tt,tt,ff,tt,ff,ff,ff,ff,ff,ff,ff] ?_ (hc := any_of HT_.out (by kernel_rfl))
    refine HW.pz (i := 6) (N := some 9) #[tt,tt,ff,tt,ff,ff,tt,ff,ff,ff,ff] ?_ (hc := any_of HT_.out (by kernel_rfl))
    refine take_ (i := 2) (N := some 5) (v := ?_) (a' := ?_) #[tt,tt,tt,tt,ff,ff,tt,ff,ff,ff,ff] rfl rfl (take_ofW HT_.out HW_.out (by kernel_rfl)) (fun _ _ _ h => h) (Or.inl ⟨by rfl, ?_⟩) hHeld ?_ ?_
    rotate_left
    · rintro w' ⟨s0, s1, s2, s3, s4, s5, s6, s7, s8⟩
      go_simp
      with_reducible rfl
    rotate_left
    · exact HW.pt
    refine take_ (i := 4) (N := some 7) (v := ?_) (a' := ?_) #[tt,tt,tt,tt,tt,ff,tt,ff,ff,ff,ff] rfl rfl (take_ofW HT_.out HW_.out (by kernel_rfl)) (fun _ _ _ h => h) (Or.inl ⟨by rfl, ?_⟩) hHeld ?_ ?_
    rotate_left
    · rintro w' ⟨s0, s1, s2, s3, s4, s5, s6, s7, s8⟩
      go_simp
      with_reducible rfl
    rotate_left
    · exact HW.pt
    refine take_ (i := 7) (N := some 10) (v := ?_) (a' := ?_) #[tt,tt,tt,tt,tt,ff,tt,tt,ff,ff,ff] rfl rfl (take_ofW HT_.out HW_.out (by kernel_rfl)) (fun _ _ _ h => h) (Or.inl ⟨by rfl, ?_⟩) hHeld ?_ ?_
    rotate_left
    · rintro w' ⟨s0, s1, s2, s3, s4, s5, s6, s7, s8⟩
      go_simp
      with_reducible rfl
    rotate_left
    · exact HW.pt
    refine one_ (i := 5) (N := some 8) #[tt,tt,tt,tt,tt,tt,tt,tt,ff,ff,ff] rfl rfl (one_of HT_.out (by kernel_rfl)) (by decide) (fun K hK => ?_)
    refine goes_ Tryz.func73 (by kernel_rfl) rfl #[.int .i64 a0_1, .string a0_0] (by rfl) rfl rfl HW.mt ?_
    with_reducible refine (spec_DocHead.calls a0_1 a0_0 t702 _ A2.out).mono ?_
    rintro e w7 ⟨v703, rfl, ho0, hb⟩
    refine ⟨_, rfl, ?_⟩
    have HO704 := Aside0.mk (Kd.R_lower ho0 (below_size HW.zb)); replace BK701 := Aside0.mk (blk_below (HW.zB BK701.out) hb); replace HB := Aside0.mk (below_step HW.zb hb)
    (try clear hb)
    (try clear hk)
    (try clear ho0)
    refine hK.out _ _ ⟨(blk_cell BK701.out 0).trans rfl, (blk_cell BK701.out 1).trans rfl, (blk_cell BK701.out 2).trans rfl, (blk_cell BK701.out 3).trans rfl, (blk_cell BK701.out 4).trans rfl, (blk_cell BK701.out 5).trans rfl, (blk_cell BK701.out 6).trans rfl, (blk_cell BK701.out 7).trans rfl, (blk_cell BK701.out 8).trans rfl⟩ (fun hHeld => ?_)
    clear hK K
    refine HW.nz (N := (some 8)) ?_
    refine one_ (i := 8) (N := some 11) #[tt,tt,tt,tt,tt,tt,tt,tt,tt,ff,ff] rfl rfl (one_of HT_.out (by kernel_rfl)) (by decide) (fun K hK => ?_)
    refine goes_ Tryz.func20 (by kernel_rfl) rfl #[.agg #[.int .i64 a0_1, .string a0_2, .string a0_3, .int .i64 a0_4, .int .u64 a0_5, .int .u64 a0_6, .slice A0_7 l0_7.length c0_7, .slice A0_8 l0_8.length c0_8]] (by rfl) rfl rfl HW.mt ?_
    with_reducible refine (Grp_spec_DocValue.get0 (ih k (by omega)) a0_1 a0_2 a0_3 a0_4 a0_5 a0_6 _ _ l0_7 _ _ l0_8 t705 _ ?side1 ?side2 ?side3 ?side4 A3.out).mono ?_
    (case side1 => repeat (first | exact (Kd.C_below HR0_7.out HB.out) | (with_reducible refine Kd.C_alloc ?_ _) | (with_reducible refine Kd.C_drewN ?_ _) | (with_reducible refine Kd.C_drew ?_)))
    (case side2 => exact HC0_7.out)
    (case side3 => repeat (first | exact (Kd.C_below HR0_8.out HB.out) | (with_reducible refine Kd.C_alloc ?_ _) | (with_reducible refine Kd.C_drewN ?_ _) | (with_reducible refine Kd.C_drew ?_)))
    (case side4 => exact HC0_8.out)
    rintro e w8 ⟨v706, rfl, ho0, hb⟩
    refine ⟨_, rfl, ?_⟩
    have HO707 := Aside0.mk (Kd.R_lower (Kd.R_new' ho0 (Kd.R_lt (HW.zR HO704.out))) (below_size HW.zb)); replace HO704 := Aside0.mk (Kd.R_elder' (HW.zR HO704.out) (Kd.R_base ho0) hb); replace BK701 := Aside0.mk (blk_below (HW.zB BK701.out) hb); replace HB := Aside0.mk (below_step HW.zb hb)
    (try clear hb)
    (try clear hk)
    (try clear ho0)
    obtain ⟨Ao10, co10, eo10⟩ := Kd.R_slice HO707.out
    (first | subst eo10 | (injection eo10 with f1_ f2_ f3_; have f4_ := f1_.symm; have f5_ := f3_.symm; clear f1_ f2_ f3_; subst f4_; subst f5_))
    refine hK.out _ _ ⟨(blk_cell BK701.out 0).trans rfl, (blk_cell BK701.out 1).trans rfl, (blk_cell BK701.out 2).trans rfl, (blk_cell BK701.out 3).trans rfl, (blk_cell BK701.out 4).trans rfl, (blk_cell BK701.out 5).trans rfl, (blk_cell BK701.out 6).trans rfl, (blk_cell BK701.out 7).trans rfl, (blk_cell BK701.out 8).trans rfl⟩ (fun hHeld => ?_)
    clear hK K
    refine HW.nz (N := (some 11)) ?_
    refine one_ (i := 9) (N := some 12) #[tt,tt,tt,tt,tt,tt,tt,tt,tt,tt,ff] rfl rfl (one_of HT_.out (by kernel_rfl)) (by decide) (fun K hK => ?_)
    refine Kd.R_append_rows_step (Kd.int .u8) (w0 := w) w.heap.size (by rfl) (.tmp 8) (.tmp 11) 22 5 (.int .u8 0) 1 rfl Tryz.underlying22 info5 rfl (by decide) (by omega) v703 t702 t705 _ _ _ (fun k_ => some k_ ≠ (.slice Ao10 t705.length co10 : Value).ownBlock) (fun _ => False) rfl rfl ?aO ?aR (fun _ _ h => h) (fun _ h => h.elim) ?aF ?aB ?aS ?aL ?_
    (case aR => repeat (first | exact (Kd.R_reads' HO707.out).2.2 | (with_reducible refine Kd.C_alloc ?_ _) | (with_reducible refine Kd.C_drewN ?_ _) | (with_reducible refine Kd.C_drew ?_)))
    (case aB => exact HW.zb)
    (case aF => exact (fun k_ hk => Kd.fresh' (Kd.R_lt (HW.zR HO707.out)) k_ hk))
    (case aO => exact (HW.zR (Kd.R_mono HO704.out (fun _ hk => hk.2))))
    (case aS => exact (below_size HW.zb))
    (case aL => have := LMc4.out; omega)
    intro v709 w9 ho hb hg hat
    rw [← Ny708.out] at ho
    have n0_ := Aside0.mk (blk_grown (g := gb701) (o := .cells #[.string a0_0, .int .i64 a0_1, .string a0_2, .string a0_3, .int .i64 a0_4, .int .u64 a0_5, .int .u64 a0_6, .slice A0_7 l0_7.length c0_7, .slice A0_8 l0_8.length c0_8] 73 (0, 0)) (HW.zB BK701.out) hg (Kd.R_ne HO704.out BK701.out (by decide)))
    have n2_ := Aside0.mk (hb); have n3_ := Aside0.mk (ho); clear BK701; clear HB; clear HO704; have BK701 := n0_; have HB := n2_; have HO710 := n3_; clear n0_ n2_ n3_; clear ho hb hg hat
    refine hK.out _ _ ⟨(blk_cell BK701.out 0).trans rfl, (blk_cell BK701.out 1).trans rfl, (blk_cell BK701.out 2).trans rfl, (blk_cell BK701.out 3).trans rfl, (blk_cell BK701.out 4).trans rfl, (blk_cell BK701.out 5).trans rfl, (blk_cell BK701.out 6).trans rfl, (blk_cell BK701.out 7).trans rfl, (blk_cell BK701.out 8).trans rfl⟩ (fun hHeld => ?_)
    clear hK K
    refine HW.nz (N := (some 12)) ?_
    refine HW.pz (i := 10) (N := some 2) #[tt,tt,tt,tt,tt,tt,tt,tt,tt,tt,tt] ?_ (hc := any_of HT_.out (by kernel_rfl))
    refine done_ (done_of HT_.out (by kernel_rfl)) ?_
    try go_wp2
    go_ret
    exact ⟨_, rfl, by (with_reducible repeat (first | apply Kd.R_alloc | apply Kd.R_drewN | apply Kd.R_drew)); exact Kd.R_mono HO710.out (fun _ hk => trivial), HW.zb⟩
theorem spec_DocBytes.step (k : Nat) (ih : ∀ j, j < k → Grp_spec_DocValue.Spec j) : ∀ (A0 : Option Addr) (c0 : Nat) (l0 : List (S73)) (r : List Int) (w : World) (hr0 : Kd.C k73 w A0 l0.length l0) (hc0 : l0.length ≤ c0) (h : spec_DocBytes.f k l0 = some r),
    Calls Tryz.prog 17 #[.slice A0 l0.length c0] w fun e w' => ∃ v0_ : Value, e = .returned (v0_) ∧ Kd.R (Kd.int .u8) 5 w' w.heap.size (fun _ => True) v0_ r ∧ Below w.heap.size w w' := by
  intro A0 c0 l0 r w hr0 hc0 h
  cases k with
  | zero => exact absurd h (by simp [spec_DocBytes.f])
  | succ k =>
  simp only [spec_DocBytes.f] at h
  have hu73 := Tryz.underlying73; have HR0 := Aside0.mk hr0; have HC0 := Aside0.mk hc0; clear hr0 hc0; have HB := Aside0.mk (Below.refl w.heap.size w); have H : (spec_DocBytes.l0 k l0 ([] : List Int) 0) = some r := h; clear h; have H' := Aside0.mk H; clear H
  go_enter Tryz.func17, Tryz.ntmps17
  go_wp2
  go_loopg [3, 4] k (fun kq v3 v4 w' => ∃ (x3_1 : List Int) (x4_1 : Int), v4 = .int .i64 x4_1 ∧ Aside0 (spec_DocBytes.l0 kq l0 x3_1 x4_1 = some r) ∧ Aside0 (kq ≤ k) ∧ Aside0 (Kd.R (Kd.int .u8) 5 w' w.heap.size (fun _ => True) v3 x3_1) ∧ Aside0 (Below w.heap.size w w'))
  case atStart => exact ⟨(([] : List Int)), (0), HW.rs, H', ⟨Nat.le_refl _⟩, ⟨by first | exact Kd.R_nil _ _ _ _ _ | exact Kd.N_nil _ _ _ _ _ | exact Kd.V_nil _ _ _ _ _ | exact Kd.Q_nil _ _ _ _ _ | exact Kd.S_nil _ _ _ _ _⟩, ⟨HW.zb⟩⟩
  case round =>
    clear H'
    (try clear c1)
    obtain ⟨x3_1, x4_1, rfl, HA, HK1, HO_3, HB⟩ := hrel
    cases gk with
    | zero => exact absurd HA.out (by simp [spec_DocBytes.l0])
    | succ k1 =>
      have H := HA.out; clear HA
      simp only [spec_DocBytes.l0] at H
      by_cases c2 : x4_1 < (l0.length : Int)
      rotate_left
      · rw [if_neg c2] at H
        have c2b0 : decide (x4_1 < (l0.length : Int)) = false := decide_eq_false c2; clear c2; replace H := Option.bind_eq_some_iff.mp H; obtain ⟨t718, A90, H⟩ := H; replace H : (if t718.length + x3_1.length < 140737488355328 then ((some (t718 ++ x3_1 : List Int)).bind fun y721 => (if y721.length < 140737488355328 then (some (y721 ++ [0])) else (none))) else (none)) = some r := H; have A9 := Aside0.mk A90; clear A90
        by_cases c10 : t718.length + x3_1.length < 140737488355328
        rotate_left
        · rw [if_neg c10] at H
          exact absurd H (by simp)
        rw [if_pos c10] at H; have LMc10 := Aside0.mk c10; clear c10; obtain ⟨y721, hy721⟩ : ∃ y_ : List Int, y_ = (t718 ++ x3_1) := ⟨_, rfl⟩
        replace H : (if y721.length < 140737488355328 then (some (y721 ++ [0])) else (none)) = some r := by (try rw [hy721]); exact HW.rp
        have Ny721 := Aside0.mk hy721; clear hy721
        by_cases c11 : y721.length < 140737488355328
        rotate_left
        · rw [if_neg c11] at H
          exact absurd H (by simp)
        rw [if_pos c11] at H; have LMc11 := Aside0.mk c11; clear c11; obtain ⟨y724, hy724⟩ : ∃ y_ : List Int, y_ = (y721 ++ [0]) := ⟨_, rfl⟩
        replace H : (some y724) = some r := by (try rw [hy724]); exact HW.rp
        have Ny724 := Aside0.mk hy724; clear hy724
        as_aux_lemma =>
          obtain rfl := Option.some.inj H; obtain ⟨Ao12, co12, eo12⟩ := Kd.R_slice HO_3.out; subst eo12
          go_wp2_with (first | ((with_reducible refine gate_callee (f := 34) rfl ?_); refine HW.gz (some 22) rfl rfl Tryz.func34 (by kernel_rfl) rfl #[.slice none 0 0, .int .i64 (wrap64 ((x3_1.length : Int) + 5))] rfl ?_; (refine (spec_DocInt32.calls (fun k_ => some k_ = (.slice none 0 0 : Value).ownBlock) (.slice none 0 0) ([] : List Int) (wrap64 ((x3_1.length : Int) + 5)) t718 w _ ?side1 ?side2 A9.out).mono ?_); (case side1 => exact HW.zb); (case side2 => exact Kd.R_nil _ _ _ _ _); rintro e w13 ⟨v719, rfl, ho0, hb, hkp⟩; refine ⟨_, rfl, ?_⟩; have HO720 := Aside0.mk (Kd.R_mono (ok' := fun k_ => some k_ ≠ (.slice Ao12 x3_1.length co12 : Value).ownBlock) ho0 (fun k_ hk_ => Or.elim hk_ (fun hs_ => absurd hs_ (by simp [Value.ownBlock])) (fun hn_ => (Kd.fresh' (Kd.R_lt (HW.zR HO_3.out)) k_ hn_)))); replace HO_3 := Aside0.mk (Kd.R_mono (ok' := fun k_ => some k_ ≠ (v719 : Value).ownBlock) (Kd.R_keptB (HO_3.out) hkp (fun k_ hk_ hs_ => (fun e_ => by simp [Value.ownBlock] at e_) hs_)) (fun k_ hk_ => fun e_ => Or.elim (ho0.1 k_ e_.symm) (fun hs_ => hk_.2.1 hs_) (fun hn_ => Nat.not_le.2 hk_.2.2 hn_))); replace HB := Aside0.mk (hb); (try clear hb); (try clear hkp); (try clear ho0)) | ((with_reducible refine gate_builtin (b := .append) (xs := #[.tmp 23, .tmp 24]) rfl ?_); at_builtin; refine Kd.R_append_rows (Kd.int .u8) (w0 := w) w.heap.size rfl (.tmp 23) (.tmp 24) 22 5 (.int .u8 0) 1 rfl Tryz.underlying22 info5 rfl (by decide) (by omega) v719 t718 x3_1 _ _ _ (fun k_ => some k_ ≠ (.slice Ao12 x3_1.length co12 : Value).ownBlock) (fun _ => False) rfl rfl ?aO ?aR (fun _ _ h => h) (fun _ h => h.elim) ?aF ?aB ?aS ?aL ?_; (case aR => repeat (first | exact (Kd.R_reads' HO_3.out).2.2 | (with_reducible refine Kd.C_alloc ?_ _) | (with_reducible refine Kd.C_drewN ?_ _) | (with_reducible refine Kd.C_drew ?_))); (case aB => exact HW.zb); (case aF => exact (fun k_ hk => Kd.fresh' (Kd.R_lt (HW.zR HO_3.out)) k_ hk)); (case aO => exact (HW.zR HO720.out)); (case aS => exact (below_size HW.zb)); (case aL => have := LMc10.out; omega); intro v722 w14 ho hb hg hat; rw [← Ny721.out] at ho; have n0_ := Aside0.mk (Kd.R_after (ok := (fun _ => True)) (HW.zR (Kd.R_mono HO_3.out (fun _ hk => ⟨trivial, hk⟩))) hg hat); have n1_ := Aside0.mk (hb); have n2_ := Aside0.mk (ho); clear HO_3; clear HB; clear HO720; have HO_3 := n0_; have HB := n1_; have HO723 := n2_; clear n0_ n1_ n2_; clear ho hb hg hat) | ((with_reducible refine gate_builtin (b := .append) (xs := #[.tmp 26, .tmp 27]) rfl ?_); at_builtin; refine Kd.R_append (Kd.int .u8) (w0 := w) w.heap.size rfl (.tmp 26) (.tmp 27) 22 5 (.int .u8 0) 1 rfl Tryz.underlying22 info5 rfl (by decide) (by omega) v722 y721 0 [.int .u8 0] (fun k_ => some k_ ≠ (.slice Ao12 x3_1.length co12 : Value).ownBlock) (fun _ => False) rfl rfl ?aP (fun _ hk => hk.elim) ?aF ?aO ?aB ?aS ?aL ?_; (case aP => exact rfl); (case aB => exact HW.zb); (case aF => exact (fun k_ hk => Kd.fresh' (Kd.R_lt (HW.zR HO_3.out)) k_ hk)); (case aO => exact (HW.zR HO723.out)); (case aS => exact (below_size HW.zb)); (case aL => have := LMc11.out; omega); intro v725 w15 ho hb hg hat; rw [← Ny724.out] at ho; have n0_ := Aside0.mk (Kd.R_after (ok := (fun _ => True)) (HW.zR HO_3.out) hg hat); have n1_ := Aside0.mk (hb); have n2_ := Aside0.mk (ho); clear HO_3; clear HB; clear HO723; have HO_3 := n0_; have HB := n1_; have HO726 := n2_; clear n0_ n1_ n2_; clear ho hb hg hat))
          go_ret
          exact ⟨_, rfl, by (with_reducible repeat (first | apply Kd.R_alloc | apply Kd.R_drewN | apply Kd.R_drew)); exact Kd.R_mono HO726.out (fun _ hk => trivial), HW.zb⟩
      rw [if_pos c2] at H; have c2b0 : decide (x4_1 < (l0.length : Int)) = true := decide_eq_true c2; clear c2
      by_cases c3 : 0 ≤ x4_1
      rotate_left
      · rw [if_neg c3] at H
        exact absurd H (by simp)
      rw [if_pos c3] at H; have c3b0 : decide (0 ≤ x4_1) = true := decide_eq_true c3; clear c3; replace H := Option.bind_eq_some_iff.mp H; obtain ⟨t712, A40, H⟩ := H; replace H : (if x3_1.length + t712.length < 140737488355328 then (spec_DocBytes.l0 k1 l0 (x3_1 ++ t712) (wrap64 (x4_1 + 1))) else (none)) = some r := H; have A4 := Aside0.mk A40; clear A40
      by_cases c5 : x3_1.length + t712.length < 140737488355328
      rotate_left
      · rw [if_neg c5] at H
        exact absurd H (by simp)
      rw [if_pos c5] at H; have LMc5 := Aside0.mk c5; clear c5; obtain ⟨y715, hy715⟩ : ∃ y_ : List Int, y_ = (x3_1 ++ t712) := ⟨_, rfl⟩
      replace H : (spec_DocBytes.l0 k1 l0 y715 (wrap64 (x4_1 + 1))) = some r := by (try rw [hy715]); exact HW.rp
      have Ny715 := Aside0.mk hy715; clear hy715
      as_aux_lemma =>
        have H' := Aside0.mk H; clear H
        have p711 : 0 ≤ (x4_1 : Int) := HW.od
        have q711 : x4_1 < (l0.length : Int) := HW.od
        obtain ⟨ad711, A711_7, c711_7, A711_8, c711_8, e711, hx711_0, hx711_1, hx711_2, hx711_3, hx711_4, hx711_5, hx711_6, hx711_7, hx711_8, hl711_7, hi711_7, hl711_8, hi711_8⟩ := at_T73 HR0.out x4_1 p711 q711
        cases e711
        replace hx711_0 := (HB.out.cell (World.block_lt_of_cell? w _ hx711_0)).trans hx711_0; replace hx711_1 := (HB.out.cell (World.block_lt_of_cell? w _ hx711_1)).trans hx711_1; replace hx711_2 := (HB.out.cell (World.block_lt_of_cell? w _ hx711_2)).trans hx711_2; replace hx711_3 := (HB.out.cell (World.block_lt_of_cell? w _ hx711_3)).trans hx711_3; replace hx711_4 := (HB.out.cell (World.block_lt_of_cell? w _ hx711_4)).trans hx711_4; replace hx711_5 := (HB.out.cell (World.block_lt_of_cell? w _ hx711_5)).trans hx711_5; replace hx711_6 := (HB.out.cell (World.block_lt_of_cell? w _ hx711_6)).trans hx711_6; replace hx711_7 := (HB.out.cell (World.block_lt_of_cell? w _ hx711_7)).trans hx711_7; replace hx711_8 := (HB.out.cell (World.block_lt_of_cell? w _ hx711_8)).trans hx711_8; have HR711_7 := Aside0.mk hi711_7; have HC711_7 := Aside0.mk hl711_7; clear hi711_7 hl711_7; have HR711_8 := Aside0.mk hi711_8; have HC711_8 := Aside0.mk hl711_8; clear hi711_8 hl711_8; replace p711 := eq_true p711; replace q711 := eq_true q711
        go_wp2_with (first | ((with_reducible refine gate_callee (f := 33) rfl ?_); refine HW.gz (some 17) rfl rfl Tryz.func33 (by kernel_rfl) rfl #[.agg #[.string ((rd_T73 l0 x4_1).f0), .int .i64 ((rd_T73 l0 x4_1).f1.f0), .string ((rd_T73 l0 x4_1).f1.f1), .string ((rd_T73 l0 x4_1).f1.f2), .int .i64 ((rd_T73 l0 x4_1).f1.f3), .int .u64 ((rd_T73 l0 x4_1).f1.f4), .int .u64 ((rd_T73 l0 x4_1).f1.f5), .slice A711_7 ((rd_T73 l0 x4_1).f1.f6).length c711_7, .slice A711_8 ((rd_T73 l0 x4_1).f1.f7).length c711_8]] rfl ?_; (with_reducible refine (Grp_spec_DocValue.get1 (ih k1 (by have := HK1.out; omega)) ((rd_T73 l0 x4_1).f0) ((rd_T73 l0 x4_1).f1.f0) ((rd_T73 l0 x4_1).f1.f1) ((rd_T73 l0 x4_1).f1.f2) ((rd_T73 l0 x4_1).f1.f3) ((rd_T73 l0 x4_1).f1.f4) ((rd_T73 l0 x4_1).f1.f5) _ _ ((rd_T73 l0 x4_1).f1.f6) _ _ ((rd_T73 l0 x4_1).f1.f7) t712 _ ?side1 ?side2 ?side3 ?side4 A4.out).mono ?_); (case side1 => repeat (first | exact (Kd.C_below HR711_7.out HB.out) | (with_reducible refine Kd.C_alloc ?_ _) | (with_reducible refine Kd.C_drewN ?_ _) | (with_reducible refine Kd.C_drew ?_))); (case side2 => exact HC711_7.out); (case side3 => repeat (first | exact (Kd.C_below HR711_8.out HB.out) | (with_reducible refine Kd.C_alloc ?_ _) | (with_reducible refine Kd.C_drewN ?_ _) | (with_reducible refine Kd.C_drew ?_))); (case side4 => exact HC711_8.out); rintro e w6 ⟨v713, rfl, ho0, hb⟩; refine ⟨_, rfl, ?_⟩; have HO714 := Aside0.mk (Kd.R_lower (Kd.R_new' ho0 (Kd.R_lt (HW.zR HO_3.out))) (below_size HW.zb)); replace HO_3 := Aside0.mk (Kd.R_elder' (HW.zR HO_3.out) (Kd.R_base ho0) hb); replace HB := Aside0.mk (below_step HW.zb hb); (try clear hb); (try clear ho0); obtain ⟨Ao8, co8, eo8⟩ := Kd.R_slice HO714.out; subst eo8) | ((with_reducible refine gate_builtin (b := .append) (xs := #[.tmp 12, .tmp 17]) rfl ?_); at_builtin; refine Kd.R_append_rows (Kd.int .u8) (w0 := w) w.heap.size rfl (.tmp 12) (.tmp 17) 22 5 (.int .u8 0) 1 rfl Tryz.underlying22 info5 rfl (by decide) (by omega) u3 x3_1 t712 _ _ _ (fun k_ => some k_ ≠ (.slice Ao8 t712.length co8 : Value).ownBlock) (fun _ => False) rfl rfl ?aO ?aR (fun _ _ h => h) (fun _ h => h.elim) ?aF ?aB ?aS ?aL ?_; (case aR => repeat (first | exact (Kd.R_reads' HO714.out).2.2 | (with_reducible refine Kd.C_alloc ?_ _) | (with_reducible refine Kd.C_drewN ?_ _) | (with_reducible refine Kd.C_drew ?_))); (case aB => exact HW.zb); (case aF => exact (fun k_ hk => Kd.fresh' (Kd.R_lt (HW.zR HO714.out)) k_ hk)); (case aO => exact (HW.zR (Kd.R_mono HO_3.out (fun _ hk => hk.2)))); (case aS => exact (below_size HW.zb)); (case aL => have := LMc5.out; omega); intro v716 w7 ho hb hg hat; rw [← Ny715.out] at ho; have n1_ := Aside0.mk (hb); have n2_ := Aside0.mk (ho); clear HB; clear HO_3; have HB := n1_; have HO717 := n2_; clear n1_ n2_; clear ho hb hg hat))
        go_roundg k1
        case measure => have := HK1.out; omega
        case rel => exact ⟨(y715), (wrap64 (x4_1 + 1)), HW.rs, H', ⟨by have := HK1.out; omega⟩, ⟨by (with_reducible repeat (first | apply Kd.R_alloc | apply Kd.R_drewN | apply Kd.R_drew)); exact Kd.R_mono HO717.out (fun _ hk => trivial)⟩, ⟨HW.zb⟩⟩
theorem Grp_spec_DocValue.all (k : Nat) : Grp_spec_DocValue.Spec k := by
  induction k using Nat.strongRecOn with
  | _ k ih => exact ⟨spec_DocValue.step k ih, spec_DocElem.step k ih, spec_DocBytes.step k ih⟩
theorem spec_DocValue.calls (k : Nat) : ∀ (a0_0 : Int) (a0_1 : ByteArray) (a0_2 : ByteArray) (a0_3 : Int) (a0_4 : Int) (a0_5 : Int) (A0_6 : Option Addr) (c0_6 : Nat) (l0_6 : List Int) (A0_7 : Option Addr) (c0_7 : Nat) (l0_7 : List (S73)) (r : List Int) (w : World) (hr0_6 : Kd.C (Kd.int .u8) w A0_6 l0_6.length l0_6) (hc0_6 : l0_6.length ≤ c0_6) (hr0_7 : Kd.C k73 w A0_7 l0_7.length l0_7) (hc0_7 : l0_7.length ≤ c0_7) (h : spec_DocValue.f k a0_0 a0_1 a0_2 a0_3 a0_4 a0_5 l0_6 l0_7 = some r),
    Calls Tryz.prog 20 #[.agg #[.int .i64 a0_0, .string a0_1, .string a0_2, .int .i64 a0_3, .int .u64 a0_4, .int .u64 a0_5, .slice A0_6 l0_6.length c0_6, .slice A0_7 l0_7.length c0_7]] w fun e w' => ∃ v0_ : Value, e = .returned (v0_) ∧ Kd.R (Kd.int .u8) 5 w' w.heap.size (fun _ => True) v0_ r ∧ Below w.heap.size w w' := Grp_spec_DocValue.get0 (Grp_spec_DocValue.all k)
theorem spec_DocElem.calls (k : Nat) : ∀ (a0_0 : ByteArray) (a0_1 : Int) (a0_2 : ByteArray) (a0_3 : ByteArray) (a0_4 : Int) (a0_5 : Int) (a0_6 : Int) (A0_7 : Option Addr) (c0_7 : Nat) (l0_7 : List Int) (A0_8 : Option Addr) (c0_8 : Nat) (l0_8 : List (S73)) (r : List Int) (w : World) (hr0_7 : Kd.C (Kd.int .u8) w A0_7 l0_7.length l0_7) (hc0_7 : l0_7.length ≤ c0_7) (hr0_8 : Kd.C k73 w A0_8 l0_8.length l0_8) (hc0_8 : l0_8.length ≤ c0_8) (h : spec_DocElem.f k a0_0 a0_1 a0_2 a0_3 a0_4 a0_5 a0_6 l0_7 l0_8 = some r),
    Calls Tryz.prog 33 #[.agg #[.string a0_0, .int .i64 a0_1, .string a0_2, .string a0_3, .int .i64 a0_4, .int .u64 a0_5, .int .u64 a0_6, .slice A0_7 l0_7.length c0_7, .slice A0_8 l0_8.length c0_8]] w fun e w' => ∃ v0_ : Value, e = .returned (v0_) ∧ Kd.R (Kd.int .u8) 5 w' w.heap.size (fun _ => True) v0_ r ∧ Below w.heap.size w w' := Grp_spec_DocValue.get1 (Grp_spec_DocValue.all k)
theorem spec_DocBytes.calls (k : Nat) : ∀ (A0 : Option Addr) (c0 : Nat) (l0 : List (S73)) (r : List Int) (w : World) (hr0 : Kd.C k73 w A0 l0.length l0) (hc0 : l0.length ≤ c0) (h : spec_DocBytes.f k l0 = some r),
    Calls Tryz.prog 17 #[.slice A0 l0.length c0] w fun e w' => ∃ v0_ : Value, e = .returned (v0_) ∧ Kd.R (Kd.int .u8) 5 w' w.heap.size (fun _ => True) v0_ r ∧ Below w.heap.size w w' := Grp_spec_DocValue.get2 (Grp_spec_DocValue.all k)
def bsoncore_Document_Lookup.f (k : Nat) (l0 : List Int) (l1 : List ByteArray) : Option (Int × List Int) := (bsoncore_Document_LookupErr.f k l0 l1).bind fun bt728 => (some (bt728.1, bt728.2.1))
theorem bsoncore_Document_Lookup.mono : ∀ a0 a1 k, LeO (bsoncore_Document_Lookup.f k a0 a1) (bsoncore_Document_Lookup.f (k + 1) a0 a1) := by
  intro a0 a1 k
  unfold bsoncore_Document_Lookup.f
  have m0_ := @bsoncore_Document_LookupErr.mono; exact HW.mo
theorem bsoncore_Document_Lookup.calls (ρ : Nat → Addr) (k : Nat) (P0_ : Nat → Prop) (A0 : Option Addr) (c0 : Nat) (l0 : List Int) (A1 : Option Addr) (c1 : Nat) (l1 : List ByteArray) (r1 : Int) (r2 : List Int) (w : World) (hL : Er.LaidE ρ w) (hs0 : Kd.V (Kd.int .u8) 5 w w.heap.size (fun k_ => P0_ k_) (.slice A0 l0.length c0) l0) (hr1 : Kd.C Kd.string w A1 l1.length l1) (hc1 : l1.length ≤ c1) (h : bsoncore_Document_Lookup.f k l0 l1 = some (r1, r2)) :
    Calls Tryz.prog 36 #[.slice A0 l0.length c0, .slice A1 l1.length c1] w fun e w' => ∃ v1_ : Value, e = .returned (.agg #[.int .u8 r1, v1_]) ∧ Kd.V (Kd.int .u8) 5 w' w.heap.size (fun k_ => (P0_ k_ ∨ w.heap.size ≤ k_)) v1_ r2 ∧ Below w.heap.size w w' := by
  have hu67 := Tryz.underlying67; have HO0 := Aside0.mk (show Kd.V (Kd.int .u8) 5 w w.heap.size (fun k_ => (P0_ k_ ∨ w.heap.size ≤ k_)) (.slice A0 l0.length c0) l0 from Kd.V_mono hs0 (fun k_ hk => .inl hk)); have HR1 := Aside0.mk hr1; have HC1 := Aside0.mk hc1; clear hr1 hc1; have HB := Aside0.mk (Below.refl w.heap.size w); have HL_ := Aside0.mk hL; clear hL; have H : ((bsoncore_Document_LookupErr.f k l0 l1).bind fun bt728 => (some (bt728.1, bt728.2.1))) = some (r1, r2) := h; clear h; replace H := Option.bind_eq_some_iff.mp H; obtain ⟨⟨t728, t729, t732⟩, A30, H⟩ := H; replace H : (some (t728, t729)) = some (r1, r2) := H; have A3 := Aside0.mk A30; clear A30
  as_aux_lemma =>
    simp only [Option.some.injEq, Prod.mk.injEq] at H
    obtain ⟨rfl, rfl⟩ := H
    go_enter Tryz.func36, Tryz.ntmps36
    go_wp2_with (first | ((with_reducible refine gate_dst (N := 4) rfl ?_); refine box_event ?hg (N := 4) ?hd (cs := #[.int .u8 0, .slice none 0 0]) (t := 67) ?hr ?_; (case hd => rfl); (case hg => rfl); (case hr => first | (go_simp; done) | (go_simp; rfl)); intro gb727 hg w4 hbox hb; replace HO0 := Aside0.mk (Kd.V_below (Kd.V_elderB (HW.zV HO0.out) gb727 (Nat.le_of_eq hg.symm)) hb); have BK727 := Aside0.mk (hbox); have GE727 := Aside0.mk ((by rw [hg]; exact (below_size HW.zb) : w.heap.size ≤ gb727)); replace HB := Aside0.mk (below_step HW.zb hb); clear hb hbox hg) | ((with_reducible refine gate_callee (f := 35) rfl ?_); refine HW.gz (some 10) rfl rfl Tryz.func35 (by kernel_rfl) rfl #[.slice A0 l0.length c0, .slice A1 l1.length c1] rfl ?_; (with_reducible refine (bsoncore_Document_LookupErr.calls ρ k (fun k_ => ((P0_ k_ ∨ w.heap.size ≤ k_) ∧ k_ ≠ gb727)) _ _ l0 _ _ l1 t728 t729 t732 _ ?aLD ?side1 ?side2 ?side3 A3.out).mono ?_); (case aLD => exact Er.LaidE.below HL_.out (by repeat (first | (with_reducible first | exact HB.out | apply below_alloc | apply pw_below_drewN | apply below_drew1 | refine below_set ?_ GE727.out | refine below_set ?_ GE733.out) | exact HB.out))); (case side1 => exact HO0.out); (case side2 => repeat (first | exact (Kd.C_below HR1.out HB.out) | (with_reducible refine Kd.C_alloc ?_ _) | (with_reducible refine Kd.C_drewN ?_ _) | (with_reducible refine Kd.C_drew ?_))); (case side3 => exact HC1.out); rintro e w5 ⟨v730, ve_t732, rfl, hE_t732, ho0, hb⟩; refine ⟨_, rfl, ?_⟩; have HO731 := Aside0.mk (Kd.V_lower (Kd.V_mono (ok' := fun k_ => (P0_ k_ ∨ w.heap.size ≤ k_) ∧ k_ ≠ gb727) ho0 (fun k_ hk_ => ⟨Or.elim hk_ (fun hs_ => hs_.1) (fun hn_ => (.inr (Nat.le_trans (below_size HW.zb) hn_))), Or.elim hk_ (fun hs_ => hs_.2) (fun hn_ => (Kd.freshB (g := gb727) (o := .cells #[.int .u8 0, .slice none 0 0] 67 (0, 0)) (HW.zB BK727.out) k_ hn_))⟩)) (below_size HW.zb)); replace BK727 := Aside0.mk (blk_below (HW.zB BK727.out) hb); replace HB := Aside0.mk (below_step HW.zb hb); (try clear hb); (try clear ho0); (first | (obtain rfl := Er.ErrR.nil_ hE_t732) | (refine (Er.ErrR.some_ hE_t732 (Aside0.out ?hsE)).elim ?_; (case hsE => with_reducible assumption); rintro T_hE_t732 ⟨X_hE_t732, rfl⟩) | skip); replace hE_t732 := Aside0.mk hE_t732) | ((with_reducible refine gate_dst (N := 5) rfl ?_); refine box_event ?hg (N := 5) ?hd (cs := #[.int .u8 0, .slice none 0 0]) (t := 67) ?hr ?_; (case hd => rfl); (case hg => rfl); (case hr => first | (go_simp; done) | (go_simp; rfl)); intro gb733 hg w6 hbox hb; replace HO731 := Aside0.mk (Kd.V_below (Kd.V_elderB (HW.zV HO731.out) gb733 (Nat.le_of_eq hg.symm)) hb); have BK733 := Aside0.mk (hbox); have GE733 := Aside0.mk ((by rw [hg]; exact (below_size HW.zb) : w.heap.size ≤ gb733)); have NB727_733 := Aside0.mk ((by rw [hg]; exact Nat.ne_of_lt (blk_lt (g := gb727) (o := .cells #[.int .u8 0, .slice none 0 0] 67 (0, 0)) (HW.zB BK727.out)) : gb727 ≠ gb733)); have NB733_727 := Aside0.mk ((by rw [hg]; exact Nat.ne_of_gt (blk_lt (g := gb727) (o := .cells #[.int .u8 0, .slice none 0 0] 67 (0, 0)) (HW.zB BK727.out)) : gb733 ≠ gb727)); replace BK727 := Aside0.mk (blk_below (HW.zB BK727.out) hb); replace HB := Aside0.mk (below_step HW.zb hb); clear hb hbox hg; have hnb7 := NB733_727.out; have hnc7 := NB727_733.out; obtain ⟨hcz8_0, hcz8_1, hfz9_0, hfz9_1⟩ := HW.k2f BK733.out; obtain ⟨Ao10, co10, eo10⟩ := Kd.V_slice HO731.out; subst eo10; obtain ⟨hcz11_0, hcz11_1, hfz12_0, hfz12_1⟩ := HW.k2f BK727.out))
    refine bodyPost_ret (results_cell_row rfl _ _ gb727 67 #[.int .u8 t728, .slice Ao10 t729.length co10] (0, 0) _ rfl (by (with_reducible repeat (first | refine blk_drewN ?_ _ | refine blk_drew ?_ | refine blk_alloc ?_ _)); refine blk_put (cs := #[.int .u8 t728, .slice none 0 0]) ?_ 1 _ rfl; (with_reducible repeat (first | refine blk_drewN ?_ _ | refine blk_drew ?_ | refine blk_alloc ?_ _)); refine blk_put (cs := #[.int .u8 0, .slice none 0 0]) ?_ 0 _ rfl; (with_reducible repeat (first | refine blk_drewN ?_ _ | refine blk_drew ?_ | refine blk_alloc ?_ _)); refine blk_far ?_ NB727_733.out _; (with_reducible repeat (first | refine blk_drewN ?_ _ | refine blk_drew ?_ | refine blk_alloc ?_ _)); refine blk_far ?_ NB727_733.out _; exact HW.zB BK727.out) Tryz.underlying67 rfl (by kernel_rfl)) rfl ?_
    exact ⟨_, rfl, by (with_reducible repeat (first | apply Kd.V_alloc | apply Kd.V_drewN | apply Kd.V_drew)); exact Kd.V_mono (Kd.V_far (p := ⟨gb727, 1, none⟩) (Kd.V_far (p := ⟨gb727, 0, none⟩) (Kd.V_far (p := ⟨gb733, 1, none⟩) (Kd.V_far (p := ⟨gb733, 0, none⟩) (Kd.V_mono (Kd.V_mono HO731.out (fun k_ hk => (⟨hk, hk.2⟩ : _ ∧ k_ ≠ gb733))) (fun k_ hk => (⟨hk, hk.1.1.2⟩ : _ ∧ k_ ≠ gb727))) (fun _ hk => hk.1.2) (.int .u8 t728)) (fun _ hk => hk.1.2) (.slice Ao10 t729.length co10)) (fun _ hk => hk.2) (.int .u8 t728)) (fun _ hk => hk.2) (.slice Ao10 t729.length co10)) (fun _ hk => hk.1.1.1.1), HW.zb⟩
def impl_LookupPlain.f (k : Nat) (l0 : List Int) (l1 : List ByteArray) : Option (Int × List Int) := (bsoncore_Document_Lookup.f k l0 l1).bind fun bt735 => ((impl_raw.f bt735.1 bt735.2).bind fun bt739 => (some (bt739.1, bt739.2)))
theorem impl_LookupPlain.mono : ∀ a0 a1 k, LeO (impl_LookupPlain.f k a0 a1) (impl_LookupPlain.f (k + 1) a0 a1) := by
  intro a0 a1 k
  unfold impl_LookupPlain.f
  have m0_ := @bsoncore_Document_Lookup.mono; exact HW.mo
theorem impl_LookupPlain.calls (ρ : Nat → Addr) (k : Nat) (A0 : Option Addr) (c0 : Nat) (l0 : List Int) (A1 : Option Addr) (c1 : Nat) (l1 : List ByteArray) (r1 : Int) (r2 : List Int) (w : World) (hL : Er.LaidE ρ w) (hr0 : Kd.C (Kd.int .u8) w A0 l0.length l0) (hc0 : l0.length ≤ c0) (hr1 : Kd.C Kd.string w A1 l1.length l1) (hc1 : l1.length ≤ c1) (h : impl_LookupPlain.f k l0 l1 = some (r1, r2)) :
    Calls Tryz.prog 19 #[.slice A0 l0.length c0, .slice A1 l1.length c1] w fun e w' => ∃ v1_ : Value, e = .returned (.agg #[.int .i64 r1, v1_]) ∧ Kd.R (Kd.int .u8) 5 w' w.heap.size (fun _ => True) v1_ r2 ∧ Below w.heap.size w w' := by
  have hu25 := Tryz.underlying25; have HR0 := Aside0.mk hr0; have HC0 := Aside0.mk hc0; clear hr0 hc0; have HR1 := Aside0.mk hr1; have HC1 := Aside0.mk hc1; clear hr1 hc1; have HB := Aside0.mk (Below.refl w.heap.size w); have HL_ := Aside0.mk hL; clear hL; have H : ((bsoncore_Document_Lookup.f k l0 l1).bind fun bt735 => ((impl_raw.f bt735.1 bt735.2).bind fun bt739 => (some (bt739.1, bt739.2)))) = some (r1, r2) := h; clear h; replace H := Option.bind_eq_some_iff.mp H; obtain ⟨⟨t735, t736⟩, A30, H⟩ := H; replace H : ((impl_raw.f t735 t736).bind fun bt739 => (some (bt739.1, bt739.2))) = some (r1, r2) := H; have A3 := Aside0.mk A30; clear A30; replace H := Option.bind_eq_some_iff.mp H; obtain ⟨⟨t739, t740⟩, A40, H⟩ := H; replace H : (some (t739, t740)) = some (r1, r2) := H; have A4 := Aside0.mk A40; clear A40
  as_aux_lemma =>
    simp only [Option.some.injEq, Prod.mk.injEq] at H
    obtain ⟨rfl, rfl⟩ := H
    go_enter Tryz.func19, Tryz.ntmps19
    go_wp2_with (first | ((with_reducible refine gate_dst (N := 4) rfl ?_); refine box_event ?hg (N := 4) ?hd (cs := #[.int .i64 0, .slice none 0 0]) (t := 25) ?hr ?_; (case hd => rfl); (case hg => rfl); (case hr => first | (go_simp; done) | (go_simp; rfl)); intro gb734 hg w5 hbox hb; have BK734 := Aside0.mk (hbox); have GW734 := Aside0.mk ((by rw [hg]; exact (below_size HW.zb) : w.heap.size ≤ gb734)); have GE734 := Aside0.mk ((by rw [hg]; exact (below_size HW.zb) : w.heap.size ≤ gb734)); replace HB := Aside0.mk (below_step HW.zb hb); clear hb hbox hg) | ((with_reducible refine gate_callee (f := 36) rfl ?_); refine HW.gz (some 7) rfl rfl Tryz.func36 (by kernel_rfl) rfl #[.slice A0 l0.length c0, .slice A1 l1.length c1] rfl ?_; (with_reducible refine (bsoncore_Document_Lookup.calls ρ k (fun k_ => k_ < w.heap.size) _ _ l0 _ _ l1 t735 t736 _ ?aLD ?side1 ?side2 ?side3 A3.out).mono ?_); (case aLD => exact Er.LaidE.below HL_.out (by repeat (first | (with_reducible first | exact HB.out | apply below_alloc | apply pw_below_drewN | apply below_drew1 | refine below_set ?_ GE734.out) | exact HB.out))); (case side1 => exact Kd.V_mk HC0.out (Kd.F_below (Kd.C_F (Kd.heap_int .u8) HR0.out) HW.zb)); (case side2 => repeat (first | exact (Kd.C_below HR1.out HB.out) | (with_reducible refine Kd.C_alloc ?_ _) | (with_reducible refine Kd.C_drewN ?_ _) | (with_reducible refine Kd.C_drew ?_))); (case side3 => exact HC1.out); rintro e w6 ⟨v737, rfl, ho0, hb⟩; refine ⟨_, rfl, ?_⟩; have HO738 := Aside0.mk (Kd.V_lower (Kd.V_mono (ok' := fun k_ => k_ ≠ gb734) ho0 (fun k_ hk_ => Or.elim hk_ (fun hs_ => fun e_ => Nat.not_le.2 hs_ (by rw [e_]; exact GW734.out)) (fun hn_ => (Kd.freshB (g := gb734) (o := .cells #[.int .i64 0, .slice none 0 0] 25 (0, 0)) (HW.zB BK734.out) k_ hn_)))) (below_size HW.zb)); replace BK734 := Aside0.mk (blk_below (HW.zB BK734.out) hb); replace HB := Aside0.mk (below_step HW.zb hb); (try clear hb); (try clear ho0); obtain ⟨Ao7, co7, eo7⟩ := Kd.V_slice HO738.out; subst eo7) | ((with_reducible refine gate_callee (f := 26) rfl ?_); refine HW.gz (some 8) rfl rfl Tryz.func26 (by kernel_rfl) rfl #[.agg #[.int .u8 t735, .slice Ao7 t736.length co7]] rfl ?_; (with_reducible refine (impl_raw.calls t735 _ _ t736 t739 t740 _ ?side1 ?side2 A4.out).mono ?_); (case side1 => repeat (first | exact (Kd.V_reads' HO738.out).2.2 | (with_reducible refine Kd.C_alloc ?_ _) | (with_reducible refine Kd.C_drewN ?_ _) | (with_reducible refine Kd.C_drew ?_))); (case side2 => exact (Kd.V_reads' HO738.out).2.1); rintro e w8 ⟨v741, rfl, ho0, hb⟩; refine ⟨_, rfl, ?_⟩; have HO742 := Aside0.mk (Kd.R_lower ho0 (below_size HW.zb)); replace BK734 := Aside0.mk (blk_below (HW.zB BK734.out) hb); replace HB := Aside0.mk (below_step HW.zb hb); (try clear hb); (try clear ho0); obtain ⟨hcz9_0, hcz9_1, hfz10_0, hfz10_1⟩ := HW.k2f BK734.out; obtain ⟨Ao11, co11, eo11⟩ := Kd.R_slice HO742.out; subst eo11))
    refine bodyPost_ret (results_cell_row rfl _ _ gb734 25 #[.int .i64 t739, .slice Ao11 t740.length co11] (0, 0) _ rfl (by (with_reducible repeat (first | refine blk_drewN ?_ _ | refine blk_drew ?_ | refine blk_alloc ?_ _)); refine blk_put (cs := #[.int .i64 t739, .slice none 0 0]) ?_ 1 _ rfl; (with_reducible repeat (first | refine blk_drewN ?_ _ | refine blk_drew ?_ | refine blk_alloc ?_ _)); refine blk_put (cs := #[.int .i64 0, .slice none 0 0]) ?_ 0 _ rfl; exact HW.zB BK734.out) Tryz.underlying25 rfl (by kernel_rfl)) rfl ?_
    exact ⟨_, rfl, by (with_reducible repeat (first | apply Kd.R_alloc | apply Kd.R_drewN | apply Kd.R_drew)); exact Kd.R_mono (Kd.R_far (p := ⟨gb734, 1, none⟩) (Kd.R_far (p := ⟨gb734, 0, none⟩) (Kd.R_types HO742.out BK734.out (by decide)) (fun _ hk => hk.2) (.int .i64 t739)) (fun _ hk => hk.2) (.slice Ao11 t740.length co11)) (fun _ hk => trivial), HW.zb⟩
end Go.Proofs.YtbfhpjkahobgnaaGreatDoor.PLo
