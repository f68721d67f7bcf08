/- Printed by a program of this session (a turned copy of the printer of the kit): contracts of functions of the translation, each with the Lean function that it computes. Conditions: as each theorem states them. -/
import Derived.Test.YtanecebppagakaaGreatDoorPAhx0
import Derived.Test.YtanecebppagakaaGreatDoorPAhx1
namespace Go.Proofs.YtanecebppagakaaGreatDoor.PAh
open Go.RowKit Go.Proofs.YtanecebppagakaaGreatDoorW.PrintWords Go.Proofs.YtanecebppagakaaGreatDoorW.PrintLast Go.Proofs.YtanecebppagakaaGreatDoorW.PrintMore
attribute [local go_sem] max2_int min2_int max_two min_two max_three min_three max_four min_four   -- for this text's walks alone
set_option linter.unusedVariables false
set_option linter.unusedSimpArgs false

/-! ### impl_raw: function 90 -/
def impl_raw.f (a0_0 : Int) (l0_1 : List Int) : Option (Int × List Int) := (impl_own.f l0_1).bind fun t196 => (some (wrap64 (a0_0), t196))
def impl_raw.T1 : Bool × List (List Nat × List Nat) := (true, [([], []), ([0], [0]), ([1], [1]), ([], []), ([3], [3]), ([4], [4]), ([2, 5], [2, 5]), ([6, 5, 0, 1, 2, 3, 4, 5, 6], [6])])
def impl_raw.B1 : List Nat := [0, 1, 3, 0, 8, 24, 63, 127]
theorem impl_raw.tab1 : rtab .any (opsOf Tryz.f90 1) = impl_raw.T1 := by kernel_rfl
theorem impl_raw.bits1 : waitsOk impl_raw.T1.2 impl_raw.B1 = true := by kernel_rfl
set_option maxHeartbeats 8000000 in
set_option maxRecDepth 100000 in
theorem impl_raw.calls (a0_0 : Int) (A0_1 : Option Addr) (c0_1 : Nat) (l0_1 : List Int) (r1 : Int) (r2 : List Int) (w : World) (hr0_1 : Kd.C (Kd.int .u8) w A0_1 l0_1.length l0_1) (hc0_1 : l0_1.length ≤ c0_1) (h : impl_raw.f a0_0 l0_1 = some (r1, r2)) :
    Calls Tryz.prog 90 #[.agg #[.int .u8 a0_0, .slice A0_1 l0_1.length c0_1]] w fun e w' => ∃ v1_ : Value, e = .returned (.agg #[.int .i64 r1, v1_]) ∧ Kd.R (Kd.int .u8) 5 w' w.heap.size (fun _ => True) v1_ r2 ∧ Below w.heap.size w w' := by
  have hu101 := Tryz.underlying101
  have hu38 := Tryz.underlying38
  have HR0_1 := Aside0.mk hr0_1
  have HC0_1 := Aside0.mk hc0_1
  clear hr0_1 hc0_1
  have HB := Aside0.mk (Below.refl w.heap.size w)
  have H : ((impl_own.f l0_1).bind fun t196 => (some (wrap64 (a0_0), t196))) = some (r1, r2) := h
  clear h
  replace H := Option.bind_eq_some_iff.mp H
  obtain ⟨t196, A20, H⟩ := H
  replace H : (some (wrap64 (a0_0), t196)) = some (r1, r2) := H
  have A2 := Aside0.mk A20
  clear A20
  as_aux_lemma =>
    simp only [Option.some.injEq, Prod.mk.injEq] at H
    obtain ⟨rfl, rfl⟩ := H
    go_enter Tryz.func90, Tryz.ntmps90
    try go_wp2_with (first | ((with_reducible refine gate_dst (N := 1) rfl ?_); refine box_event ?hg (N := 1) ?hd (cs := #[.int .u8 a0_0, .slice A0_1 l0_1.length c0_1]) (t := 101) ?hr ?_; (case hd => rfl); (case hg => rfl); (case hr => first | (go_simp; done) | (go_simp; rfl)); intro gb194 hg w3 hbox hb; have n0_ := Aside0.mk (below_step HW.zb hb); have n1_ := Aside0.mk (hbox); have n3_ := Aside0.mk ((by rw [hg]; exact (below_size HW.zb) : w.heap.size ≤ gb194)); clear HB; have HB := n0_; have BK194 := n1_; have GE194 := n3_; clear n0_ n1_ n3_; clear hb hbox hg) | ((with_reducible refine gate_dst (N := 2) rfl ?_); refine box_event ?hg (N := 2) ?hd (cs := #[.int .i64 0, .slice none 0 0]) (t := 38) ?hr ?_; (case hd => rfl); (case hg => rfl); (case hr => first | (go_simp; done) | (go_simp; rfl)); intro gb195 hg w4 hbox hb; have n0_ := Aside0.mk (blk_below (g := gb194) (o := .cells #[.int .u8 a0_0, .slice A0_1 l0_1.length c0_1] 101 (0, 0)) (HW.zB BK194.out) hb); have n1_ := Aside0.mk (below_step HW.zb hb); have n2_ := Aside0.mk (hbox); have n4_ := Aside0.mk ((by rw [hg]; exact (below_size HW.zb) : w.heap.size ≤ gb195)); have n5_ := Aside0.mk ((by rw [hg]; exact Nat.ne_of_lt (blk_lt (g := gb194) (o := .cells #[.int .u8 a0_0, .slice A0_1 l0_1.length c0_1] 101 (0, 0)) (HW.zB BK194.out)) : gb194 ≠ gb195)); have n6_ := Aside0.mk ((by rw [hg]; exact Nat.ne_of_gt (blk_lt (g := gb194) (o := .cells #[.int .u8 a0_0, .slice A0_1 l0_1.length c0_1] 101 (0, 0)) (HW.zB BK194.out)) : gb195 ≠ gb194)); clear BK194; clear HB; have BK194 := n0_; have HB := n1_; have BK195 := n2_; have GE195 := n4_; have NB194_195 := n5_; have NB195_194 := n6_; clear n0_ n1_ n2_ n4_ n5_ n6_; clear hb hbox hg))
    have n0_ := Aside0.mk (blk_drew BK194.out)
    have n1_ := Aside0.mk (blk_drew BK195.out)
    have n2_ := Aside0.mk (below_drew1 HB.out)
    clear BK194
    clear BK195
    clear HB
    have BK194 := n0_
    have BK195 := n1_
    have HB := n2_
    clear n0_ n1_ n2_
    refine start_ (n := 8) (S := fun w' => w'.cell? ⟨gb194, 0, none⟩ = some (.int .u8 a0_0) ∧ w'.cell? ⟨gb194, 1, none⟩ = some (.slice A0_1 l0_1.length c0_1)) (ds := []) #[false, false, false, false, false, false, false, false] (by kernel_rfl) rfl rfl ⟨(blk_cell BK194.out 0).trans rfl, (blk_cell BK194.out 1).trans rfl⟩ (fun hHeld => ?_); refine with_tabW impl_raw.tab1 impl_raw.bits1 (fun HT_ HW_ => ?_)
    generalize w4.drew = w5 at BK194 BK195 HB hHeld ⊢
    refine HW.pz (i := 0) (N := some 3) #[true, false, false, false, false, false, false, false] ?_ (hc := any_of HT_.out (by kernel_rfl))
    refine HW.pz (i := 3) (N := some 6) #[true, false, false, true, false, false, false, false] ?_ (hc := any_of HT_.out (by kernel_rfl))
    refine take_ (i := 1) (N := some 4) (v := ?_) (a' := ?_) #[true, true, false, true, false, false, false, false] rfl rfl (take_ofW HT_.out HW_.out (by kernel_rfl)) (fun _ _ _ h => h) (Or.inl ⟨by rfl, ?_⟩) hHeld ?_ ?_
    rotate_left
    · rintro w' ⟨s0, s1⟩
      go_simp
      with_reducible rfl
    rotate_left
    · simp only [Act.put, List.setIfInBounds_toArray, List.set_cons_zero, List.set_cons_succ, i64_w, i32_w]
      rfl
    refine HW.pz (i := 2) (N := some 5) #[true, true, true, true, false, false, false, false] ?_ (hc := any_of HT_.out (by kernel_rfl))
    refine take_ (i := 4) (N := some 7) (v := ?_) (a' := ?_) #[true, true, true, true, true, false, false, false] rfl rfl (take_ofW HT_.out HW_.out (by kernel_rfl)) (fun _ _ _ h => h) (Or.inl ⟨by rfl, ?_⟩) hHeld ?_ ?_
    rotate_left
    · rintro w' ⟨s0, s1⟩
      go_simp
      with_reducible rfl
    rotate_left
    · simp only [Act.put, List.setIfInBounds_toArray, List.set_cons_zero, List.set_cons_succ, i64_w, i32_w]
      rfl
    refine one_ (i := 5) (N := some 8) #[true, true, true, true, true, true, false, false] rfl rfl (one_of HT_.out (by kernel_rfl)) (by decide) (fun K hK => ?_)
    refine goes_ Tryz.func53 (by kernel_rfl) rfl #[.slice A0_1 l0_1.length c0_1] (by rfl) rfl rfl (by (try simp only [List.map_toArray, List.map_cons, List.map_nil]); first | done | rfl | (simp only [List.length_drop, List.length_take]; rfl)) ?_
    with_reducible refine (impl_own.calls _ _ l0_1 t196 _ ?side1 ?side2 A2.out).mono ?_
    (case side1 => repeat (first | exact (Kd.C_below HR0_1.out HB.out) | (with_reducible refine Kd.C_alloc ?_ _) | (with_reducible refine Kd.C_drewN ?_ _) | (with_reducible refine Kd.C_drew ?_)))
    (case side2 => exact HC0_1.out)
    rintro e w6 ⟨v197, rfl, ho0, hb⟩
    refine ⟨_, rfl, ?_⟩
    have n0_ := Aside0.mk (Kd.R_lower ho0 (below_size HW.zb))
    have n1_ := Aside0.mk (blk_below (g := gb194) (o := .cells #[.int .u8 a0_0, .slice A0_1 l0_1.length c0_1] 101 (0, 0)) (HW.zB BK194.out) hb)
    have n2_ := Aside0.mk (blk_below (g := gb195) (o := .cells #[.int .i64 0, .slice none 0 0] 38 (0, 0)) (HW.zB BK195.out) hb)
    have n3_ := Aside0.mk (below_step HW.zb hb)
    clear BK194
    clear BK195
    clear HB
    have HO198 := n0_
    have BK194 := n1_
    have BK195 := n2_
    have HB := n3_
    clear n0_ n1_ n2_ n3_
    (try clear hb)
    (try clear hb2)
    (try clear hk)
    (try clear hi)
    (try clear ho0)
    obtain ⟨Ao7, co7, eo7⟩ := Kd.R_slice HO198.out
    (first | subst eo7 | (injection eo7 with f1_ f2_ f3_; have f4_ := f1_.symm; have f5_ := f3_.symm; clear f1_ f2_ f3_; subst f4_; subst f5_))
    refine hK.out _ _ ⟨(blk_cell BK194.out 0).trans rfl, (blk_cell BK194.out 1).trans rfl⟩ (fun hHeld => ?_)
    clear hK K
    refine HW.nz (N := (some 8)) ?_
    refine HW.pz (i := 6) (N := some 9) #[true, true, true, true, true, true, true, false] ?_ (hc := any_of HT_.out (by kernel_rfl))
    refine one_ (i := 7) (N := none) #[true, true, true, true, true, true, true, true] rfl rfl (one_of HT_.out (by kernel_rfl)) (by decide) (fun K hK => ?_)
    have hs8 : w6.cell? ⟨gb195, 0, none⟩ = some (.int .i64 0) := (blk_cell BK195.out 0).trans rfl
    have hfs8 := blk_frozen BK195.out 0
    have hns8_0 := NB194_195.out
    have hms8_0 := NB195_194.out
    have hs9 : w6.cell? ⟨gb195, 1, none⟩ = some (.slice none 0 0) := (blk_cell BK195.out 1).trans rfl
    have hfs9 := blk_frozen BK195.out 1
    have hns9_0 := NB194_195.out
    have hms9_0 := NB195_194.out
    refine skip_ (w1 := ?_) (by rfl) rfl ?_ ?_
    rotate_left
    · go_simp
      rfl
    refine hK.out _ _ ⟨((cell_far (p := ⟨gb195, _, none⟩) NB194_195.out _).trans (((cell_far (p := ⟨gb195, _, none⟩) NB194_195.out _).trans (hHeld.1)))), ((cell_far (p := ⟨gb195, _, none⟩) NB194_195.out _).trans (((cell_far (p := ⟨gb195, _, none⟩) NB194_195.out _).trans (hHeld.2))))⟩ (fun hHeld => ?_)
    clear hK K
    refine done_ (done_of HT_.out (by kernel_rfl)) ?_
    try go_wp2
    refine bodyPost_ret (results_cell_row rfl _ _ gb195 38 #[.int .i64 (wrap64 (a0_0)), .slice Ao7 t196.length co7] (0, 0) _ rfl (by (with_reducible repeat (first | refine blk_drewN ?_ _ | refine blk_drew ?_ | refine blk_alloc ?_ _)); refine blk_put (cs := #[.int .i64 (wrap64 (a0_0)), .slice none 0 0]) ?_ 1 _ rfl; (with_reducible repeat (first | refine blk_drewN ?_ _ | refine blk_drew ?_ | refine blk_alloc ?_ _)); refine blk_put (cs := #[.int .i64 0, .slice none 0 0]) ?_ 0 _ rfl; (with_reducible repeat (first | refine blk_drewN ?_ _ | refine blk_drew ?_ | refine blk_alloc ?_ _)); exact BK195.out) Tryz.underlying38 rfl (by kernel_rfl)) rfl ?_
    exact ⟨_, by first | rfl | (simp [errW_none, errW_some] <;> rfl) | (simp [*, errW_none, errW_some] <;> rfl), by (with_reducible repeat (first | apply Kd.R_alloc | apply Kd.R_drewN | apply Kd.R_drew)); exact Kd.R_mono (Kd.R_far (p := ⟨gb195, 1, none⟩) (Kd.R_far (p := ⟨gb195, 0, none⟩) (Kd.R_types HO198.out BK195.out (by decide)) (fun _ hk => hk.2) (.int .i64 (wrap64 (a0_0)))) (fun _ hk => hk.2) (.slice Ao7 t196.length co7)) (fun _ hk => trivial), HW.zb⟩

-- NOT PRINTED: function 167 (reflectlite_TypeOf)

-- NOT PRINTED: function 168 (errors_is)

-- NOT PRINTED: function 118 (errors_Is)

/-! ### impl_code: function 92 -/
def impl_code.f (a0 : Option Int) : Option (Int) := if a0.isNone = true then (some 0) else (none)
set_option maxHeartbeats 8000000 in
set_option maxRecDepth 100000 in
theorem impl_code.calls (a0 : Option Int) (r : Int) (w : World) (h : impl_code.f a0 = some r) :
    Calls Tryz.prog 92 #[errW a0] w fun e w' => e = .returned (.int .i64 r) ∧ Below w.heap.size w w' := by
  have hu177 := Tryz.underlying177
  have hu181 := Tryz.underlying181
  have hu150 := Tryz.underlying150
  have HB := Aside0.mk (Below.refl w.heap.size w)
  have H : (if a0.isNone = true then (some 0) else (none)) = some r := h
  clear h
  rcases a0 with _ | q199
  rotate_left
  · have H1 : (none) = some r := by rw [if_neg (show ¬ (some q199).isNone = true by simp)] at H; exact H
    clear H
    have H := H1
    clear H1
    simp only [errW_none, errW_some]
    exact absurd H (by simp)
  have H1 : (some 0) = some r := by rw [if_pos (show (none : Option Int).isNone = true by rfl)] at H; exact H
  clear H
  have H := H1
  clear H1
  simp only [errW_none, errW_some]
  as_aux_lemma =>
    obtain rfl := Option.some.inj H
    go_enter Tryz.func92, Tryz.ntmps92
    go_wp2
    go_ret
    exact ⟨by first | rfl | (simp [errW_none, errW_some] <;> rfl) | (simp [*, errW_none, errW_some] <;> rfl), HW.zb⟩

/-! ### bsoncore_ReadLength: function 113 -/
def bsoncore_ReadLength.f (l0 : List Int) : Option (Int × List Int × Bool) := (binaryutil_ReadI32.f l0).bind fun bt200 => (if bt200.1 < 0 then (some (bt200.1, bt200.2.1, false)) else (some (bt200.1, bt200.2.1, bt200.2.2)))
set_option maxHeartbeats 8000000 in
set_option maxRecDepth 100000 in
theorem bsoncore_ReadLength.calls (P0_ : Nat → Prop) (A0 : Option Addr) (c0 : Nat) (l0 : List Int) (r1 : Int) (r2 : List Int) (r3 : Bool) (w : World) (hs0 : Kd.V (Kd.int .u8) 5 w w.heap.size (fun k_ => P0_ k_) (.slice A0 l0.length c0) l0) (h : bsoncore_ReadLength.f l0 = some (r1, r2, r3)) :
    Calls Tryz.prog 113 #[.slice A0 l0.length c0] w fun e w' => ∃ v1_ : Value, e = .returned (.tuple #[.int .i32 r1, v1_, .bool r3]) ∧ Kd.V (Kd.int .u8) 5 w' w.heap.size (fun k_ => (P0_ k_ ∨ w.heap.size ≤ k_)) v1_ r2 ∧ Below w.heap.size w w' := by
  have HO0 := Aside0.mk (show Kd.V (Kd.int .u8) 5 w w.heap.size (fun k_ => (P0_ k_ ∨ w.heap.size ≤ k_)) (.slice A0 l0.length c0) l0 from Kd.V_mono hs0 (fun k_ hk => .inl hk))
  have HB := Aside0.mk (Below.refl w.heap.size w)
  have H : ((binaryutil_ReadI32.f l0).bind fun bt200 => (if bt200.1 < 0 then (some (bt200.1, bt200.2.1, false)) else (some (bt200.1, bt200.2.1, bt200.2.2)))) = some (r1, r2, r3) := h
  clear h
  replace H := Option.bind_eq_some_iff.mp H
  obtain ⟨⟨t200, t201, t204⟩, A20, H⟩ := H
  replace H : (if t200 < 0 then (some (t200, t201, false)) else (some (t200, t201, t204))) = some (r1, r2, r3) := H
  have A2 := Aside0.mk A20
  clear A20
  by_cases c3 : t200 < 0
  · rw [if_pos c3] at H
    have c3b0 : decide (t200 < 0) = true := decide_eq_true c3
    clear c3
    as_aux_lemma =>
      simp only [Option.some.injEq, Prod.mk.injEq] at H
      obtain ⟨rfl, rfl, rfl⟩ := H
      go_enter Tryz.func113, Tryz.ntmps113
      go_wp2_with (first | ((with_reducible refine gate_callee (f := 115) rfl ?_); refine HW.gz (some 9) rfl rfl Tryz.func115 (by kernel_rfl) rfl #[.slice A0 l0.length c0] rfl ?_; (with_reducible refine (binaryutil_ReadI32.calls (fun k_ => (P0_ k_ ∨ w.heap.size ≤ k_)) _ _ l0 t200 t201 t204 _ ?side1 A2.out).mono ?_); (case side1 => exact HO0.out); rintro e w4 ⟨v202, rfl, ho0, hb⟩; refine ⟨_, rfl, ?_⟩; have n0_ := Aside0.mk (Kd.V_below (HW.zV HO0.out) hb); have n1_ := Aside0.mk (Kd.V_lower (Kd.V_mono (ok' := fun k_ => (P0_ k_ ∨ w.heap.size ≤ k_)) ho0 (fun k_ hk_ => Or.elim hk_ (fun hs_ => hs_) (fun hn_ => (.inr (Nat.le_trans (below_size HW.zb) hn_))))) (below_size HW.zb)); have n2_ := Aside0.mk (below_step HW.zb hb); clear HO0; clear HB; have HO0 := n0_; have HO203 := n1_; have HB := n2_; clear n0_ n1_ n2_; (try clear hb); (try clear hb2); (try clear hk); (try clear hi); (try clear ho0)))
      go_ret3
      exact ⟨_, by first | rfl | (simp [errW_none, errW_some] <;> rfl) | (simp [*, errW_none, errW_some] <;> rfl), HW.zV HO203.out, HW.zb⟩
  rw [if_neg c3] at H
  have c3b0 : decide (t200 < 0) = false := decide_eq_false c3
  clear c3
  as_aux_lemma =>
    simp only [Option.some.injEq, Prod.mk.injEq] at H
    obtain ⟨rfl, rfl, rfl⟩ := H
    go_enter Tryz.func113, Tryz.ntmps113
    go_wp2_with (first | ((with_reducible refine gate_callee (f := 115) rfl ?_); refine HW.gz (some 9) rfl rfl Tryz.func115 (by kernel_rfl) rfl #[.slice A0 l0.length c0] rfl ?_; (with_reducible refine (binaryutil_ReadI32.calls (fun k_ => (P0_ k_ ∨ w.heap.size ≤ k_)) _ _ l0 t200 t201 t204 _ ?side1 A2.out).mono ?_); (case side1 => exact HO0.out); rintro e w5 ⟨v202, rfl, ho0, hb⟩; refine ⟨_, rfl, ?_⟩; have n1_ := Aside0.mk (Kd.V_lower (Kd.V_mono (ok' := fun k_ => (P0_ k_ ∨ w.heap.size ≤ k_)) ho0 (fun k_ hk_ => Or.elim hk_ (fun hs_ => hs_) (fun hn_ => (.inr (Nat.le_trans (below_size HW.zb) hn_))))) (below_size HW.zb)); have n2_ := Aside0.mk (below_step HW.zb hb); clear HB; have HO203 := n1_; have HB := n2_; clear n1_ n2_; (try clear hb); (try clear hb2); (try clear hk); (try clear hi); (try clear ho0)))
    go_ret3
    exact ⟨_, by first | rfl | (simp [errW_none, errW_some] <;> rfl) | (simp [*, errW_none, errW_some] <;> rfl), HW.zV HO203.out, HW.zb⟩

end Go.Proofs.YtanecebppagakaaGreatDoor.PAh
