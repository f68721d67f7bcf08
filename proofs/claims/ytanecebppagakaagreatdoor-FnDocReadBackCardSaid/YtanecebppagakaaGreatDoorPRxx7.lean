import Derived.Test.YtanecebppagakaaGreatDoorPRxx0
import Derived.Test.YtanecebppagakaaGreatDoorPRxx1
import Derived.Test.YtanecebppagakaaGreatDoorPRxx2
import Derived.Test.YtanecebppagakaaGreatDoorPRxx4
namespace Go.Proofs.YtanecebppagakaaGreatDoor.PRx
open Go.Proofs.YtanecebppagakaaGreatDoor.HW (tt ff)
open Go.RowKit Go.Proofs.YtanecebppagakaaGreatDoorW.PrintWords Go.Proofs.YtanecebppagakaaGreatDoorW.PrintLast Go.Proofs.YtanecebppagakaaGreatDoorW.PrintMore
attribute [local go_sem] max2_int min2_int max_two min_two max_three min_three max_four min_four
set_option linter.unusedVariables false
set_option maxHeartbeats 8000000
set_option maxRecDepth 100000
set_option linter.unusedSimpArgs false
def impl_raw.f (a0_0 : Int) (l0_1 : List Int) : Option (Int × List Int) := (impl_own.f l0_1).bind fun t364 => (some (wrap64 (a0_0), t364))
def impl_raw.T1 : Bool × List (List Nat × List Nat) := (true, [([], []), ([0], [0]), ([1], [1]), ([], []), ([3], [3]), ([4], [4]), ([2, 5], [2, 5]), ([6, 5, 0, 1, 2, 3, 4, 5, 6], [6])])
def impl_raw.B1 : List Nat := [0, 1, 3, 0, 8, 24, 63, 127]
theorem impl_raw.tab1 : rtab .any (opsOf Tryz.f90 1) = impl_raw.T1 := by kernel_rfl
theorem impl_raw.bits1 : waitsOk impl_raw.T1.2 impl_raw.B1 = true := by kernel_rfl
theorem impl_raw.calls (a0_0 : Int) (A0_1 : Option Addr) (c0_1 : Nat) (l0_1 : List Int) (r1 : Int) (r2 : List Int) (w : World) (hr0_1 : Kd.C (Kd.int .u8) w A0_1 l0_1.length l0_1) (hc0_1 : l0_1.length ≤ c0_1) (h : impl_raw.f a0_0 l0_1 = some (r1, r2)) :
    Calls Tryz.prog 90 #[.agg #[.int .u8 a0_0, .slice A0_1 l0_1.length c0_1]] w fun e w' => ∃ v1_ : Value, e = .returned (.agg #[.int .i64 r1, v1_]) ∧ Kd.R (Kd.int .u8) 5 w' w.heap.size (fun _ => True) v1_ r2 ∧ Below w.heap.size w w' := by
  have hu101 := Tryz.underlying101; have hu38 := Tryz.underlying38; have HR0_1 := Aside0.mk hr0_1; have HC0_1 := Aside0.mk hc0_1; clear hr0_1 hc0_1; have HB := Aside0.mk (Below.refl w.heap.size w); have H : ((impl_own.f l0_1).bind fun t364 => (some (wrap64 (a0_0), t364))) = some (r1, r2) := h; clear h; replace H := Option.bind_eq_some_iff.mp H; obtain ⟨t364, A20, H⟩ := H; replace H : (some (wrap64 (a0_0), t364)) = some (r1, r2) := H; have A2 := Aside0.mk A20; clear A20
  as_aux_lemma =>
    simp only [Option.some.injEq, Prod.mk.injEq] at H
    obtain ⟨rfl, rfl⟩ := H
    go_enter Tryz.func90, Tryz.ntmps90
    try go_wp2_with (first | ((with_reducible refine gate_dst (N := 1) rfl ?_); refine box_event ?hg (N := 1) ?hd (cs := #[.int .u8 a0_0, .slice A0_1 l0_1.length c0_1]) (t := 101) ?hr ?_; (case hd => rfl); (case hg => rfl); (case hr => first | (go_simp; done) | (go_simp; rfl)); intro gb362 hg w3 hbox hb; have n0_ := Aside0.mk (below_step HW.zb hb); have n1_ := Aside0.mk (hbox); have n3_ := Aside0.mk ((by rw [hg]; exact (below_size HW.zb) : w.heap.size ≤ gb362)); clear HB; have HB := n0_; have BK362 := n1_; have GE362 := n3_; clear n0_ n1_ n3_; clear hb hbox hg) | ((with_reducible refine gate_dst (N := 2) rfl ?_); refine box_event ?hg (N := 2) ?hd (cs := #[.int .i64 0, .slice none 0 0]) (t := 38) ?hr ?_; (case hd => rfl); (case hg => rfl); (case hr => first | (go_simp; done) | (go_simp; rfl)); intro gb363 hg w4 hbox hb; have n0_ := Aside0.mk (blk_below (HW.zB BK362.out) hb); have n1_ := Aside0.mk (below_step HW.zb hb); have n2_ := Aside0.mk (hbox); have n4_ := Aside0.mk ((by rw [hg]; exact (below_size HW.zb) : w.heap.size ≤ gb363)); have n5_ := Aside0.mk ((by rw [hg]; exact Nat.ne_of_lt (blk_lt (g := gb362) (o := .cells #[.int .u8 a0_0, .slice A0_1 l0_1.length c0_1] 101 (0, 0)) (HW.zB BK362.out)) : gb362 ≠ gb363)); have n6_ := Aside0.mk ((by rw [hg]; exact Nat.ne_of_gt (blk_lt (g := gb362) (o := .cells #[.int .u8 a0_0, .slice A0_1 l0_1.length c0_1] 101 (0, 0)) (HW.zB BK362.out)) : gb363 ≠ gb362)); clear BK362; clear HB; have BK362 := n0_; have HB := n1_; have BK363 := n2_; have GE363 := n4_; have NB362_363 := n5_; have NB363_362 := n6_; clear n0_ n1_ n2_ n4_ n5_ n6_; clear hb hbox hg))
    replace BK362 := Aside0.mk (blk_drew BK362.out); replace BK363 := Aside0.mk (blk_drew BK363.out); replace HB := Aside0.mk (below_drew1 HB.out)
    refine start_ (n := 8) (S := fun w' => w'.cell? ⟨gb362, 0, none⟩ = some (.int .u8 a0_0) ∧ w'.cell? ⟨gb362, 1, none⟩ = some (.slice A0_1 l0_1.length c0_1)) (ds := []) #[ff,ff,ff,ff,ff,ff,ff,ff] (by kernel_rfl) rfl rfl (HW.k2 BK362.out) (fun hHeld => ?_); refine with_tabW impl_raw.tab1 impl_raw.bits1 (fun HT_ HW_ => ?_)
    generalize w4.drew = w5 at BK362 BK363 HB hHeld ⊢
    refine HW.pz (i := 0) (N := some 3) #[tt,ff,ff,ff,ff,ff,ff,ff] ?_ (hc := any_of HT_.out (by kernel_rfl))
    refine HW.pz (i := 3) (N := some 6) #[tt,ff,ff,tt,ff,ff,ff,ff] ?_ (hc := any_of HT_.out (by kernel_rfl))
    refine take_ (i := 1) (N := some 4) (v := ?_) (a' := ?_) #[tt,tt,ff,tt,ff,ff,ff,ff] rfl rfl (take_ofW HT_.out HW_.out (by kernel_rfl)) (fun _ _ _ h => h) (Or.inl ⟨by rfl, ?_⟩) hHeld ?_ ?_
    rotate_left
    · rintro w' ⟨s0, s1⟩
      go_simp
      with_reducible rfl
    rotate_left
    · exact HW.pt
    refine HW.pz (i := 2) (N := some 5) #[tt,tt,tt,tt,ff,ff,ff,ff] ?_ (hc := any_of HT_.out (by kernel_rfl))
    refine take_ (i := 4) (N := some 7) (v := ?_) (a' := ?_) #[tt,tt,tt,tt,tt,ff,ff,ff] rfl rfl (take_ofW HT_.out HW_.out (by kernel_rfl)) (fun _ _ _ h => h) (Or.inl ⟨by rfl, ?_⟩) hHeld ?_ ?_
    rotate_left
    · rintro w' ⟨s0, s1⟩
      go_simp
      with_reducible rfl
    rotate_left
    · exact HW.pt
    refine one_ (i := 5) (N := some 8) #[tt,tt,tt,tt,tt,tt,ff,ff] rfl rfl (one_of HT_.out (by kernel_rfl)) (by decide) (fun K hK => ?_)
    refine goes_ Tryz.func53 (by kernel_rfl) rfl #[.slice A0_1 l0_1.length c0_1] (by rfl) rfl rfl HW.mt ?_
    with_reducible refine (impl_own.calls _ _ l0_1 t364 _ ?side1 ?side2 A2.out).mono ?_
    (case side1 => repeat (first | exact (Kd.C_below HR0_1.out HB.out) | (with_reducible refine Kd.C_alloc ?_ _) | (with_reducible refine Kd.C_drewN ?_ _) | (with_reducible refine Kd.C_drew ?_)))
    (case side2 => exact HC0_1.out)
    rintro e w6 ⟨v365, rfl, ho0, hb⟩
    refine ⟨_, rfl, ?_⟩
    have HO366 := Aside0.mk (Kd.R_lower ho0 (below_size HW.zb)); replace BK362 := Aside0.mk (blk_below (HW.zB BK362.out) hb); replace BK363 := Aside0.mk (blk_below (HW.zB BK363.out) hb); replace HB := Aside0.mk (below_step HW.zb hb)
    (try clear hb)
    (try clear ho0)
    obtain ⟨Ao7, co7, eo7⟩ := Kd.R_slice HO366.out
    (first | subst eo7 | (injection eo7 with f1_ f2_ f3_; have f4_ := f1_.symm; have f5_ := f3_.symm; clear f1_ f2_ f3_; subst f4_; subst f5_))
    refine hK.out _ _ (HW.k2 BK362.out) (fun hHeld => ?_)
    clear hK K
    refine HW.nz (N := (some 8)) ?_
    refine HW.pz (i := 6) (N := some 9) #[tt,tt,tt,tt,tt,tt,tt,ff] ?_ (hc := any_of HT_.out (by kernel_rfl))
    refine one_ (i := 7) (N := none) #[tt,tt,tt,tt,tt,tt,tt,tt] rfl rfl (one_of HT_.out (by kernel_rfl)) (by decide) (fun K hK => ?_)
    have hs8 : w6.cell? ⟨gb363, 0, none⟩ = some (.int .i64 0) := (blk_cell BK363.out 0).trans rfl; have hfs8 := blk_frozen BK363.out 0; have hns8_0 := NB362_363.out; have hms8_0 := NB363_362.out; have hs9 : w6.cell? ⟨gb363, 1, none⟩ = some (.slice none 0 0) := (blk_cell BK363.out 1).trans rfl; have hfs9 := blk_frozen BK363.out 1; have hns9_0 := NB362_363.out; have hms9_0 := NB363_362.out
    refine skip_ (w1 := ?_) (by rfl) rfl ?_ ?_
    rotate_left
    · go_simp
      rfl
    refine hK.out _ _ ⟨((cell_far (p := ⟨gb363, _, none⟩) NB362_363.out _).trans (((cell_far (p := ⟨gb363, _, none⟩) NB362_363.out _).trans (hHeld.1)))), ((cell_far (p := ⟨gb363, _, none⟩) NB362_363.out _).trans (((cell_far (p := ⟨gb363, _, none⟩) NB362_363.out _).trans (hHeld.2))))⟩ (fun hHeld => ?_)
    clear hK K
    refine done_ (done_of HT_.out (by kernel_rfl)) ?_
    try go_wp2
    refine bodyPost_ret (results_cell_row rfl _ _ gb363 38 #[.int .i64 (wrap64 (a0_0)), .slice Ao7 t364.length co7] (0, 0) _ rfl (by (with_reducible repeat (first | refine blk_drewN ?_ _ | refine blk_drew ?_ | refine blk_alloc ?_ _)); refine blk_put (cs := #[.int .i64 (wrap64 (a0_0)), .slice none 0 0]) ?_ 1 _ rfl; (with_reducible repeat (first | refine blk_drewN ?_ _ | refine blk_drew ?_ | refine blk_alloc ?_ _)); refine blk_put (cs := #[.int .i64 0, .slice none 0 0]) ?_ 0 _ rfl; exact HW.zB BK363.out) Tryz.underlying38 rfl (by kernel_rfl)) rfl ?_
    exact ⟨_, rfl, by (with_reducible repeat (first | apply Kd.R_alloc | apply Kd.R_drewN | apply Kd.R_drew)); exact Kd.R_mono (Kd.R_far (p := ⟨gb363, 1, none⟩) (Kd.R_far (p := ⟨gb363, 0, none⟩) (Kd.R_types HO366.out BK363.out (by decide)) (fun _ hk => hk.2) (.int .i64 (wrap64 (a0_0)))) (fun _ hk => hk.2) (.slice Ao7 t364.length co7)) (fun _ hk => trivial), HW.zb⟩
def impl_code.f (a0 : Option Int) : Option (Int) := if a0.isNone = true then (some 0) else (none)
theorem impl_code.calls (a0 : Option Int) (r : Int) (w : World) (h : impl_code.f a0 = some r) :
    Calls Tryz.prog 92 #[errW a0] w fun e w' => e = .returned (.int .i64 r) ∧ Below w.heap.size w w' := by
  have hu177 := Tryz.underlying177; have hu181 := Tryz.underlying181; have hu150 := Tryz.underlying150; have HB := Aside0.mk (Below.refl w.heap.size w); have H : (if a0.isNone = true then (some 0) else (none)) = some r := h; clear h
  rcases a0 with _ | q367
  rotate_left
  · have H1 : (none) = some r := by rw [if_neg (show ¬ (some q367).isNone = true by simp)] at H; exact H
    clear H; have H := H1; clear H1
    simp only [errW_none, errW_some]
    exact absurd H (by simp)
  have H1 : (some 0) = some r := by rw [if_pos (show (none : Option Int).isNone = true by rfl)] at H; exact H
  clear H; have H := H1; clear H1
  simp only [errW_none, errW_some]
  as_aux_lemma =>
    obtain rfl := Option.some.inj H
    go_enter Tryz.func92, Tryz.ntmps92
    go_wp2
    go_ret
    exact ⟨rfl, HW.zb⟩
mutual
def bsoncore_ReadElement.l0 : Nat → List Int → Int → Int → Option (List Int × List Int × Bool)
  | 0, _, _, _ => none
  | k + 1, x0, x5, x6 => if x6 < (x0.length : Int) then (if 0 ≤ x6 then (bsoncore_ReadElement.j1 k x0 x5 x6 ((rd x0 x6) != 0)) else (none)) else (bsoncore_ReadElement.j1 k x0 x5 x6 false)
def bsoncore_ReadElement.j1 : Nat → List Int → Int → Int → Bool → Option (List Int × List Int × Bool)
  | 0, _, _, _, _ => none
  | k + 1, x0, x5, x6, x27 => if x27 = true then (bsoncore_ReadElement.l0 k x0 x5 (wrap64 (x6 + 1))) else (if x6 ≥ (x0.length : Int) then (some (([] : List Int), x0, false)) else (if 0 ≤ (wrap64 (x6 + 1)) then (if (wrap64 (x6 + 1)) ≤ (x0.length : Int) then ((bsoncore_valueLength.f k (x0.drop ((wrap64 (x6 + 1)) : Int).toNat) x5).bind fun bt375 => (if bt375.2 = true then (if (wrap64 ((wrap64 (x6 + 1)) + (wrap64 (bt375.1)))) > (x0.length : Int) then (some (([] : List Int), x0, false)) else (if 0 ≤ (wrap64 ((wrap64 (x6 + 1)) + (wrap64 (bt375.1)))) then (if (wrap64 ((wrap64 (x6 + 1)) + (wrap64 (bt375.1)))) ≤ (x0.length : Int) then (some ((x0.take ((wrap64 ((wrap64 (x6 + 1)) + (wrap64 (bt375.1)))) : Int).toNat), (x0.drop ((wrap64 ((wrap64 (x6 + 1)) + (wrap64 (bt375.1)))) : Int).toNat), true)) else (none)) else (none))) else (some (([] : List Int), x0, false)))) else (none)) else (none)))
end
def bsoncore_ReadElement.f (k : Nat) (l0 : List Int) : Option (List Int × List Int × Bool) := if (l0.length : Int) < 1 then (some (([] : List Int), l0, false)) else (if 0 < (l0.length : Int) then (bsoncore_ReadElement.l0 k l0 (rd l0 0) 1) else (none))
theorem bsoncore_ReadElement.mono_l : ∀ k, (∀ y0 y1 y2, LeO (bsoncore_ReadElement.l0 k y0 y1 y2) (bsoncore_ReadElement.l0 (k + 1) y0 y1 y2)) ∧ (∀ y0 y1 y2 y3, LeO (bsoncore_ReadElement.j1 k y0 y1 y2 y3) (bsoncore_ReadElement.j1 (k + 1) y0 y1 y2 y3))
  | 0 => ⟨fun _ _ _ r h => by simp [bsoncore_ReadElement.l0] at h, fun _ _ _ _ r h => by simp [bsoncore_ReadElement.j1] at h⟩
  | k + 1 => by
    obtain ⟨ih0, ih1⟩ := bsoncore_ReadElement.mono_l k
    refine ⟨?_, ?_⟩
    · intro y0 y1 y2
      unfold bsoncore_ReadElement.l0
      have m0_ := @ih0; have m1_ := @ih1; have m2_ := @bsoncore_valueLength.mono; exact HW.mo
    · intro y0 y1 y2 y3
      unfold bsoncore_ReadElement.j1
      have m0_ := @ih0; have m1_ := @ih1; have m2_ := @bsoncore_valueLength.mono; exact HW.mo
theorem bsoncore_ReadElement.mono : ∀ a0 k, LeO (bsoncore_ReadElement.f k a0) (bsoncore_ReadElement.f (k + 1) a0) := by
  intro a0 k
  obtain ⟨ih0, ih1⟩ := bsoncore_ReadElement.mono_l k
  unfold bsoncore_ReadElement.f
  have m0_ := @ih0; have m1_ := @ih1; have m2_ := @bsoncore_valueLength.mono; exact HW.mo
theorem bsoncore_ReadElement.calls (k : Nat) (P0_ : Nat → Prop) (A0 : Option Addr) (c0 : Nat) (l0 : List Int) (r1 : List Int) (r2 : List Int) (r3 : Bool) (w : World) (hs0 : Kd.V (Kd.int .u8) 5 w w.heap.size (fun k_ => P0_ k_) (.slice A0 l0.length c0) l0) (h : bsoncore_ReadElement.f k l0 = some (r1, r2, r3)) :
    Calls Tryz.prog 91 #[.slice A0 l0.length c0] w fun e w' => ∃ v0_ v1_ : Value, e = .returned (.tuple #[v0_, v1_, .bool r3]) ∧ Kd.V (Kd.int .u8) 5 w' w.heap.size (fun k_ => (P0_ k_ ∨ w.heap.size ≤ k_)) v0_ r1 ∧ Kd.V (Kd.int .u8) 5 w' w.heap.size (fun k_ => (P0_ k_ ∨ w.heap.size ≤ k_)) v1_ r2 ∧ Below w.heap.size w w' := by
  have HO0 := Aside0.mk (show Kd.V (Kd.int .u8) 5 w w.heap.size (fun k_ => (P0_ k_ ∨ w.heap.size ≤ k_)) (.slice A0 l0.length c0) l0 from Kd.V_mono hs0 (fun k_ hk => .inl hk)); have HB := Aside0.mk (Below.refl w.heap.size w); have H : (if (l0.length : Int) < 1 then (some (([] : List Int), l0, false)) else (if 0 < (l0.length : Int) then (bsoncore_ReadElement.l0 k l0 (rd l0 0) 1) else (none))) = some (r1, r2, r3) := h; clear h
  by_cases c2 : (l0.length : Int) < 1
  · rw [if_pos c2] at H
    have c2b0 : decide ((l0.length : Int) < 1) = true := decide_eq_true c2
    have c2b1 : decide (l0.length < 1) = true := decide_eq_true (by omega)
    clear c2
    as_aux_lemma =>
      simp only [Option.some.injEq, Prod.mk.injEq] at H
      obtain ⟨rfl, rfl, rfl⟩ := H
      go_enter Tryz.func91, Tryz.ntmps91
      go_wp2
      repeat (go_quiet (fail); try go_wp2)
      go_ret3
      exact ⟨_, _, rfl, Kd.V_nil _ _ _ _ _, HW.zV HO0.out, HW.zb⟩
  rw [if_neg c2] at H; have c2b0 : decide ((l0.length : Int) < 1) = false := decide_eq_false c2
  have c2b1 : decide (l0.length < 1) = false := decide_eq_false (by omega)
  clear c2
  by_cases c3 : 0 < (l0.length : Int)
  rotate_left
  · rw [if_neg c3] at H
    exact absurd H (by simp)
  rw [if_pos c3] at H; have c3b0 : decide (0 < (l0.length : Int)) = true := decide_eq_true c3
  have c3b1 : decide (0 < l0.length) = true := decide_eq_true (by omega)
  clear c3; have H' := Aside0.mk H; clear H
  have p368 : 0 ≤ (0 : Int) := (by omega)
  have q368 : 0 < (l0.length : Int) := HW.od
  obtain ⟨ad368, e368, hx368_0⟩ := Kd.at_int (Kd.V_reads' HO0.out).2.2 0 p368 q368
  cases e368
  have qi368 : (0 < l0.length) = True := eq_true (by omega)
  (try rw [show ((0 : Int)).toNat = 0 from rfl] at hx368_0)
  (try rw [Addr.add_zero'] at hx368_0)
  replace p368 := eq_true p368; replace q368 := eq_true q368
  go_enter Tryz.func91, Tryz.ntmps91
  go_wp2
  repeat (go_quiet (fail); try go_wp2)
  go_loopg [6] k (fun kq v6 w' => ∃ (x6_1 : Int), v6 = .int .i64 x6_1 ∧ Aside0 (bsoncore_ReadElement.l0 kq l0 (rd l0 0) x6_1 = some (r1, r2, r3)) ∧ Aside0 (kq ≤ k) ∧ Aside0 (Kd.V (Kd.int .u8) 5 w' w.heap.size (fun k_ => (P0_ k_ ∨ w.heap.size ≤ k_)) (.slice (some ad368) l0.length c0) l0) ∧ Aside0 (Below w.heap.size w w'))
  case atStart => exact ⟨(1), HW.rs, H', ⟨Nat.le_refl _⟩, ⟨HW.zV HO0.out⟩, ⟨HW.zb⟩⟩
  case round =>
    clear H'
    (try clear c2); (try clear c2b0); (try clear c2b1); (try clear p2); (try clear c3); (try clear c3b0); (try clear c3b1); (try clear p3); (try clear q3); (try clear hx3); (try clear qi3); (try clear hx368_0); (try clear p368); (try clear q368)
    obtain ⟨x6_1, rfl, HA, HK1, HO_0, HB⟩ := hrel
    cases gk with
    | zero => exact absurd HA.out (by simp [bsoncore_ReadElement.l0])
    | succ k1 =>
      have H := HA.out; clear HA
      simp only [bsoncore_ReadElement.l0] at H
      have HC4 := Aside0.mk H; clear H
      go_upto_region 5 with (fail)
      repeat (go_quiet (fail); go_upto_region 5 with (fail))
      go_cut [27] (fun v27 wc => ∃ (kq : Nat) (x27_3 : Bool), v27 = .bool x27_3 ∧ Aside0 (bsoncore_ReadElement.j1 kq l0 (rd l0 0) x6_1 x27_3 = some (r1, r2, r3)) ∧ Aside0 (kq ≤ k1) ∧ Aside0 (Kd.V (Kd.int .u8) 5 wc w.heap.size (fun k_ => (P0_ k_ ∨ w.heap.size ≤ k_)) (.slice (some ad368) l0.length c0) l0) ∧ Aside0 (Below w.heap.size w wc))
      case first =>
        have H := HC4.out; clear HC4
        by_cases c5 : x6_1 < (l0.length : Int)
        rotate_left
        · rw [if_neg c5] at H
          have c5b0 : decide (x6_1 < (l0.length : Int)) = false := decide_eq_false c5; clear c5
          (first | rw [c5b0] | (simp only [i64_w, i32_w]; rw [c5b0]) | skip)
          as_aux_lemma =>
            have H' := Aside0.mk H; clear H
            go_wp2
            repeat (go_quiet (fail); try go_wp2)
            go_meet
            case rel => exact ⟨_, (false), HW.rs, H', ⟨by have := HK1.out; first | omega | exact Nat.le_refl _⟩, ⟨HW.zV HO_0.out⟩, ⟨HW.zb⟩⟩
        rw [if_pos c5] at H; have c5b0 : decide (x6_1 < (l0.length : Int)) = true := decide_eq_true c5; clear c5
        (first | rw [c5b0] | (simp only [i64_w, i32_w]; rw [c5b0]) | skip)
        by_cases c6 : 0 ≤ x6_1
        rotate_left
        · rw [if_neg c6] at H
          exact absurd H (by simp)
        rw [if_pos c6] at H; have c6b0 : decide (0 ≤ x6_1) = true := decide_eq_true c6; clear c6
        as_aux_lemma =>
          have H' := Aside0.mk H; clear H
          have p369 : 0 ≤ (x6_1 : Int) := HW.od
          have q369 : x6_1 < (l0.length : Int) := HW.od
          obtain ⟨ad369, e369, hx369_0⟩ := Kd.at_int (Kd.V_reads' HO_0.out).2.2 x6_1 p369 q369
          obtain rfl : ad368 = ad369 := (by injection e369)
          replace p369 := eq_true p369; replace q369 := eq_true q369
          go_wp2
          repeat (go_quiet (fail); try go_wp2)
          go_meet
          case rel => exact ⟨_, (((rd l0 x6_1) != 0)), HW.rs, H', ⟨by have := HK1.out; first | omega | exact Nat.le_refl _⟩, ⟨HW.zV HO_0.out⟩, ⟨HW.zb⟩⟩
      case rest =>
        clear HC4
        (try clear c2); (try clear c2b0); (try clear c2b1); (try clear p2); (try clear c3); (try clear c3b0); (try clear c3b1); (try clear p3); (try clear q3); (try clear hx3); (try clear qi3); (try clear c5); (try clear c5b0); (try clear c6); (try clear c6b0); (try clear hx368_0); (try clear hx369_0); (try clear p2); (try clear p3); (try clear p368); (try clear p369); (try clear q3); (try clear q368); (try clear q369)
        obtain ⟨kq, x27_3, rfl, HA, HJ3, HO_0, HB⟩ := hcut
        cases kq with
        | zero => exact absurd HA.out (by simp [bsoncore_ReadElement.j1])
        | succ kj3 =>
          have H := HA.out; clear HA
          simp only [bsoncore_ReadElement.j1] at H
          by_cases c7 : x27_3 = true
          · subst c7
            have H1 : (bsoncore_ReadElement.l0 kj3 l0 (rd l0 0) (wrap64 (x6_1 + 1))) = some (r1, r2, r3) := by rw [if_pos rfl] at H; exact H
            clear H; have H := H1; clear H1
            as_aux_lemma =>
              have H' := Aside0.mk H; clear H
              go_wp2
              repeat (go_quiet (fail); try go_wp2)
              go_roundg kj3
              case measure => have := HK1.out; have := HJ3.out; omega
              case rel => exact ⟨(wrap64 (x6_1 + 1)), HW.rs, H', ⟨by have := HK1.out; have := HJ3.out; omega⟩, ⟨HW.zV HO_0.out⟩, ⟨HW.zb⟩⟩
          replace c7 := Bool.eq_false_iff.mpr c7; subst c7
          have H1 : (if x6_1 ≥ (l0.length : Int) then (some (([] : List Int), l0, false)) else (if 0 ≤ (wrap64 (x6_1 + 1)) then (if (wrap64 (x6_1 + 1)) ≤ (l0.length : Int) then ((bsoncore_valueLength.f kj3 (l0.drop ((wrap64 (x6_1 + 1)) : Int).toNat) (rd l0 0)).bind fun bt375 => (if bt375.2 = true then (if (wrap64 ((wrap64 (x6_1 + 1)) + (wrap64 (bt375.1)))) > (l0.length : Int) then (some (([] : List Int), l0, false)) else (if 0 ≤ (wrap64 ((wrap64 (x6_1 + 1)) + (wrap64 (bt375.1)))) then (if (wrap64 ((wrap64 (x6_1 + 1)) + (wrap64 (bt375.1)))) ≤ (l0.length : Int) then (some ((l0.take ((wrap64 ((wrap64 (x6_1 + 1)) + (wrap64 (bt375.1)))) : Int).toNat), (l0.drop ((wrap64 ((wrap64 (x6_1 + 1)) + (wrap64 (bt375.1)))) : Int).toNat), true)) else (none)) else (none))) else (some (([] : List Int), l0, false)))) else (none)) else (none))) = some (r1, r2, r3) := by rw [if_neg (show ¬ (false = true) by decide)] at H; exact H
          clear H; have H := H1; clear H1
          by_cases c8 : x6_1 ≥ (l0.length : Int)
          · rw [if_pos c8] at H
            have c8b0 : decide ((l0.length : Int) ≤ x6_1) = true := decide_eq_true c8; clear c8
            as_aux_lemma =>
              simp only [Option.some.injEq, Prod.mk.injEq] at H
              obtain ⟨rfl, rfl, rfl⟩ := H
              go_wp2
              repeat (go_quiet (fail); try go_wp2)
              go_ret3
              exact ⟨_, _, rfl, Kd.V_nil _ _ _ _ _, HW.zV HO_0.out, HW.zb⟩
          rw [if_neg c8] at H; have c8b0 : decide ((l0.length : Int) ≤ x6_1) = false := decide_eq_false c8; clear c8; obtain ⟨ji9, hji9⟩ : ∃ j_ : Int, (wrap64 (x6_1 + 1)) = j_ := ⟨_, rfl⟩
          replace H : (if 0 ≤ (ji9) then (if (ji9) ≤ (l0.length : Int) then ((bsoncore_valueLength.f kj3 (l0.drop ((ji9) : Int).toNat) (rd l0 0)).bind fun bt375 => (if bt375.2 = true then (if (wrap64 ((ji9) + (wrap64 (bt375.1)))) > (l0.length : Int) then (some (([] : List Int), l0, false)) else (if 0 ≤ (wrap64 ((ji9) + (wrap64 (bt375.1)))) then (if (wrap64 ((ji9) + (wrap64 (bt375.1)))) ≤ (l0.length : Int) then (some ((l0.take ((wrap64 ((ji9) + (wrap64 (bt375.1)))) : Int).toNat), (l0.drop ((wrap64 ((ji9) + (wrap64 (bt375.1)))) : Int).toNat), true)) else (none)) else (none))) else (some (([] : List Int), l0, false)))) else (none)) else (none)) = some (r1, r2, r3) := by first | (rw [hji9] at H; exact H) | (simp only [hji9] at H ⊢; exact H)
          have hji9w : (IntKind.i64.wrap (x6_1 + 1)) = ji9 := (i64_w _).trans hji9
          by_cases c10 : 0 ≤ (ji9)
          rotate_left
          · rw [if_neg c10] at H
            exact absurd H (by simp)
          rw [if_pos c10] at H; have c10b0 := eq_true c10; have c10b1 : decide (0 ≤ (ji9)) = true := decide_eq_true c10; clear c10
          by_cases c11 : (ji9) ≤ (l0.length : Int)
          rotate_left
          · rw [if_neg c11] at H
            exact absurd H (by simp)
          rw [if_pos c11] at H; have c11b0 := eq_true c11; have c11b1 : decide ((ji9) ≤ (l0.length : Int)) = true := decide_eq_true c11; clear c11; obtain ⟨y370, hy370⟩ : ∃ y_ : List Int, y_ = (l0.drop ((ji9) : Int).toNat) := ⟨_, rfl⟩
          replace H : ((bsoncore_valueLength.f kj3 y370 (rd l0 0)).bind fun bt375 => (if bt375.2 = true then (if (wrap64 ((ji9) + (wrap64 (bt375.1)))) > (l0.length : Int) then (some (([] : List Int), l0, false)) else (if 0 ≤ (wrap64 ((ji9) + (wrap64 (bt375.1)))) then (if (wrap64 ((ji9) + (wrap64 (bt375.1)))) ≤ (l0.length : Int) then (some ((l0.take ((wrap64 ((ji9) + (wrap64 (bt375.1)))) : Int).toNat), (l0.drop ((wrap64 ((ji9) + (wrap64 (bt375.1)))) : Int).toNat), true)) else (none)) else (none))) else (some (([] : List Int), l0, false)))) = some (r1, r2, r3) := by (try rw [hy370]); exact HW.rp
          have Ny370 := Aside0.mk hy370; clear hy370; replace H := Option.bind_eq_some_iff.mp H; obtain ⟨⟨t375, t376⟩, A120, H⟩ := H; replace H : (if t376 = true then (if (wrap64 ((ji9) + (wrap64 (t375)))) > (l0.length : Int) then (some (([] : List Int), l0, false)) else (if 0 ≤ (wrap64 ((ji9) + (wrap64 (t375)))) then (if (wrap64 ((ji9) + (wrap64 (t375)))) ≤ (l0.length : Int) then (some ((l0.take ((wrap64 ((ji9) + (wrap64 (t375)))) : Int).toNat), (l0.drop ((wrap64 ((ji9) + (wrap64 (t375)))) : Int).toNat), true)) else (none)) else (none))) else (some (([] : List Int), l0, false))) = some (r1, r2, r3) := H; have A12 := Aside0.mk A120; clear A120
          by_cases c13 : t376 = true
          rotate_left
          · replace c13 := Bool.eq_false_iff.mpr c13
            subst c13
            have H1 : (some (([] : List Int), l0, false)) = some (r1, r2, r3) := by rw [if_neg (show ¬ (false = true) by decide)] at H; exact H
            clear H; have H := H1; clear H1
            as_aux_lemma =>
              simp only [Option.some.injEq, Prod.mk.injEq] at H
              obtain ⟨rfl, rfl, rfl⟩ := H
              have q26 : ((ji9) : Int) ≤ ((l0.length : Int) : Int) := HW.od
              obtain ⟨i026, hi026, _, hsz26, _⟩ := info_parts info5; have hroom26 : l0.length ≤ c0 := (Kd.V_reads' HO_0.out).2.1; have hC26 : Kd.F (Kd.int .u8) _ _ (some ad368) l0.length l0 := (Kd.V_at (base := w.heap.size) HO_0.out).2.2
              have q026 : (0 : Int) ≤ ((ji9) : Int) := HW.od
              have hcut26 := cut_from (P := Tryz.prog) 22 5 .i64 Tryz.underlying22 hi026 1 hsz26 (some ad368) l0.length c0 (ji9) q026 q26
              have hr26 := Kd.F_cut (m := ((ji9) : Int).toNat) (c := c0) hC26 (by omega) hroom26
              obtain ⟨A26, hA26⟩ : ∃ A1, A1 = (if c0 = ((ji9) : Int).toNat then (some ad368) else ((some ad368) : Option Addr).map (·.add (((ji9) : Int).toNat * 1))) := ⟨_, rfl⟩; obtain ⟨c26, hc26⟩ : ∃ c1, c1 = c0 - ((ji9) : Int).toNat := ⟨_, rfl⟩
              have hy26 : y370.length = l0.length - ((ji9) : Int).toNat := (by rw [Ny370.out, List.length_drop] <;> omega)
              rw [show (l0).drop ((ji9) : Int).toNat = y370 from Ny370.out.symm] at hr26
              replace hr26 : Kd.F (Kd.int .u8) _ _ A26 y370.length y370 := (by rw [hA26]; exact hr26)
              rw [← hy26, ← hA26, ← hc26] at hcut26
              have HO374 := Aside0.mk (show Kd.V (Kd.int .u8) 5 _ w.heap.size _ (.slice A26 y370.length c26) y370 from Kd.V_mk (by rw [hy26, hc26]; exact Nat.sub_le_sub_right hroom26 _) hr26)
              have HC374 := Aside0.mk (show y370.length ≤ c26 from by rw [hy26, hc26]; exact Nat.sub_le_sub_right hroom26 _)
              clear hr26 hC26 hroom26 hi026 hsz26 hc26; have KY26 := Aside0.mk hy26; have KA26 := Aside0.mk hA26; clear hy26 hA26; replace q26 := eq_true q26
              go_wp2_with (first | (go_at_call 107; (with_reducible refine (bsoncore_valueLength.calls kj3 _ _ y370 (rd l0 0) t375 false _ ?side1 ?side2 A12.out).mono ?_); (case side1 => repeat (first | exact (Kd.V_reads' HO374.out).2.2 | (with_reducible refine Kd.C_alloc ?_ _) | (with_reducible refine Kd.C_drewN ?_ _) | (with_reducible refine Kd.C_drew ?_))); (case side2 => exact (Kd.V_reads' HO374.out).2.1); rintro e w27 ⟨rfl, hb⟩; replace HO_0 := Aside0.mk (Kd.V_below (HW.zV HO_0.out) hb); replace HO374 := Aside0.mk (Kd.V_below (HW.zV HO374.out) hb); replace HB := Aside0.mk (below_step HW.zb hb); (try clear hb)))
              repeat (go_quiet (fail); try go_wp2)
              go_ret3
              exact ⟨_, _, by first | rfl | (simp [errW_none, errW_some] <;> rfl) | (simp only [← hji9]; first | rfl | (simp [errW_none, errW_some] <;> rfl)) | (simp [*, errW_none, errW_some] <;> rfl), Kd.V_nil _ _ _ _ _, HW.zV HO_0.out, HW.zb⟩
          subst c13
          have H1 : (if (wrap64 ((ji9) + (wrap64 (t375)))) > (l0.length : Int) then (some (([] : List Int), l0, false)) else (if 0 ≤ (wrap64 ((ji9) + (wrap64 (t375)))) then (if (wrap64 ((ji9) + (wrap64 (t375)))) ≤ (l0.length : Int) then (some ((l0.take ((wrap64 ((ji9) + (wrap64 (t375)))) : Int).toNat), (l0.drop ((wrap64 ((ji9) + (wrap64 (t375)))) : Int).toNat), true)) else (none)) else (none))) = some (r1, r2, r3) := by rw [if_pos rfl] at H; exact H
          clear H; have H := H1; clear H1
          by_cases c14 : (wrap64 ((ji9) + (wrap64 (t375)))) > (l0.length : Int)
          · rw [if_pos c14] at H
            have c14b0 : decide ((l0.length : Int) < (wrap64 ((ji9) + (wrap64 (t375))))) = true := decide_eq_true c14; clear c14
            as_aux_lemma =>
              simp only [Option.some.injEq, Prod.mk.injEq] at H
              obtain ⟨rfl, rfl, rfl⟩ := H
              have q15 : ((ji9) : Int) ≤ ((l0.length : Int) : Int) := HW.od
              obtain ⟨i015, hi015, _, hsz15, _⟩ := info_parts info5; have hroom15 : l0.length ≤ c0 := (Kd.V_reads' HO_0.out).2.1; have hC15 : Kd.F (Kd.int .u8) _ _ (some ad368) l0.length l0 := (Kd.V_at (base := w.heap.size) HO_0.out).2.2
              have q015 : (0 : Int) ≤ ((ji9) : Int) := HW.od
              have hcut15 := cut_from (P := Tryz.prog) 22 5 .i64 Tryz.underlying22 hi015 1 hsz15 (some ad368) l0.length c0 (ji9) q015 q15
              have hr15 := Kd.F_cut (m := ((ji9) : Int).toNat) (c := c0) hC15 (by omega) hroom15
              obtain ⟨A15, hA15⟩ : ∃ A1, A1 = (if c0 = ((ji9) : Int).toNat then (some ad368) else ((some ad368) : Option Addr).map (·.add (((ji9) : Int).toNat * 1))) := ⟨_, rfl⟩; obtain ⟨c15, hc15⟩ : ∃ c1, c1 = c0 - ((ji9) : Int).toNat := ⟨_, rfl⟩
              have hy15 : y370.length = l0.length - ((ji9) : Int).toNat := (by rw [Ny370.out, List.length_drop] <;> omega)
              rw [show (l0).drop ((ji9) : Int).toNat = y370 from Ny370.out.symm] at hr15
              replace hr15 : Kd.F (Kd.int .u8) _ _ A15 y370.length y370 := (by rw [hA15]; exact hr15)
              rw [← hy15, ← hA15, ← hc15] at hcut15
              have HO374 := Aside0.mk (show Kd.V (Kd.int .u8) 5 _ w.heap.size _ (.slice A15 y370.length c15) y370 from Kd.V_mk (by rw [hy15, hc15]; exact Nat.sub_le_sub_right hroom15 _) hr15)
              have HC374 := Aside0.mk (show y370.length ≤ c15 from by rw [hy15, hc15]; exact Nat.sub_le_sub_right hroom15 _)
              clear hr15 hC15 hroom15 hi015 hsz15 hc15; have KY15 := Aside0.mk hy15; have KA15 := Aside0.mk hA15; clear hy15 hA15; replace q15 := eq_true q15
              go_wp2_with (first | (go_at_call 107; (with_reducible refine (bsoncore_valueLength.calls kj3 _ _ y370 (rd l0 0) t375 true _ ?side1 ?side2 A12.out).mono ?_); (case side1 => repeat (first | exact (Kd.V_reads' HO374.out).2.2 | (with_reducible refine Kd.C_alloc ?_ _) | (with_reducible refine Kd.C_drewN ?_ _) | (with_reducible refine Kd.C_drew ?_))); (case side2 => exact (Kd.V_reads' HO374.out).2.1); rintro e w16 ⟨rfl, hb⟩; replace HO_0 := Aside0.mk (Kd.V_below (HW.zV HO_0.out) hb); replace HO374 := Aside0.mk (Kd.V_below (HW.zV HO374.out) hb); replace HB := Aside0.mk (below_step HW.zb hb); (try clear hb)))
              repeat (go_quiet (fail); try go_wp2)
              go_ret3
              exact ⟨_, _, by first | rfl | (simp [errW_none, errW_some] <;> rfl) | (simp only [← hji9]; first | rfl | (simp [errW_none, errW_some] <;> rfl)) | (simp [*, errW_none, errW_some] <;> rfl), Kd.V_nil _ _ _ _ _, HW.zV HO_0.out, HW.zb⟩
          rw [if_neg c14] at H; have c14b0 : decide ((l0.length : Int) < (wrap64 ((ji9) + (wrap64 (t375))))) = false := decide_eq_false c14; clear c14; obtain ⟨ji17, hji17⟩ : ∃ j_ : Int, (wrap64 ((ji9) + (wrap64 (t375)))) = j_ := ⟨_, rfl⟩
          replace H : (if 0 ≤ (ji17) then (if (ji17) ≤ (l0.length : Int) then (some ((l0.take ((ji17) : Int).toNat), (l0.drop ((ji17) : Int).toNat), true)) else (none)) else (none)) = some (r1, r2, r3) := by first | (rw [hji17] at H; exact H) | (simp only [hji17] at H ⊢; exact H)
          (try rw [hji17] at c14b0)
          (try rw [hji17] at A12)
          have hji17w : (IntKind.i64.wrap ((ji9) + (wrap64 (t375)))) = ji17 := (i64_w _).trans hji17
          by_cases c18 : 0 ≤ (ji17)
          rotate_left
          · rw [if_neg c18] at H
            exact absurd H (by simp)
          rw [if_pos c18] at H; have c18b0 := eq_true c18; have c18b1 : decide (0 ≤ (ji17)) = true := decide_eq_true c18; clear c18
          by_cases c19 : (ji17) ≤ (l0.length : Int)
          rotate_left
          · rw [if_neg c19] at H
            exact absurd H (by simp)
          rw [if_pos c19] at H; have c19b0 := eq_true c19; have c19b1 : decide ((ji17) ≤ (l0.length : Int)) = true := decide_eq_true c19; clear c19; obtain ⟨y377, hy377⟩ : ∃ y_ : List Int, y_ = (l0.take ((ji17) : Int).toNat) := ⟨_, rfl⟩
          replace H : (some (y377, (l0.drop ((ji17) : Int).toNat), true)) = some (r1, r2, r3) := by (try rw [hy377]); exact HW.rp
          have Ny377 := Aside0.mk hy377; clear hy377
          have c20b0 := eq_true (HW.od : 0 ≤ (ji17))
          have c21b0 := eq_true (HW.od : (ji17) ≤ (l0.length : Int))
          obtain ⟨y382, hy382⟩ : ∃ y_ : List Int, y_ = (l0.drop ((ji17) : Int).toNat) := ⟨_, rfl⟩
          replace H : (some (y377, y382, true)) = some (r1, r2, r3) := by (try rw [hy382]); exact HW.rp
          have Ny382 := Aside0.mk hy382; clear hy382
          as_aux_lemma =>
            simp only [Option.some.injEq, Prod.mk.injEq] at H
            obtain ⟨rfl, rfl, rfl⟩ := H
            have q22 : ((ji9) : Int) ≤ ((l0.length : Int) : Int) := HW.od
            obtain ⟨i022, hi022, _, hsz22, _⟩ := info_parts info5; have hroom22 : l0.length ≤ c0 := (Kd.V_reads' HO_0.out).2.1; have hC22 : Kd.F (Kd.int .u8) _ _ (some ad368) l0.length l0 := (Kd.V_at (base := w.heap.size) HO_0.out).2.2
            have q022 : (0 : Int) ≤ ((ji9) : Int) := HW.od
            have hcut22 := cut_from (P := Tryz.prog) 22 5 .i64 Tryz.underlying22 hi022 1 hsz22 (some ad368) l0.length c0 (ji9) q022 q22
            have hr22 := Kd.F_cut (m := ((ji9) : Int).toNat) (c := c0) hC22 (by omega) hroom22
            obtain ⟨A22, hA22⟩ : ∃ A1, A1 = (if c0 = ((ji9) : Int).toNat then (some ad368) else ((some ad368) : Option Addr).map (·.add (((ji9) : Int).toNat * 1))) := ⟨_, rfl⟩; obtain ⟨c22, hc22⟩ : ∃ c1, c1 = c0 - ((ji9) : Int).toNat := ⟨_, rfl⟩
            have hy22 : y370.length = l0.length - ((ji9) : Int).toNat := (by rw [Ny370.out, List.length_drop] <;> omega)
            rw [show (l0).drop ((ji9) : Int).toNat = y370 from Ny370.out.symm] at hr22
            replace hr22 : Kd.F (Kd.int .u8) _ _ A22 y370.length y370 := (by rw [hA22]; exact hr22)
            rw [← hy22, ← hA22, ← hc22] at hcut22
            have HO374 := Aside0.mk (show Kd.V (Kd.int .u8) 5 _ w.heap.size _ (.slice A22 y370.length c22) y370 from Kd.V_mk (by rw [hy22, hc22]; exact Nat.sub_le_sub_right hroom22 _) hr22)
            have HC374 := Aside0.mk (show y370.length ≤ c22 from by rw [hy22, hc22]; exact Nat.sub_le_sub_right hroom22 _)
            clear hr22 hC22 hroom22 hi022 hsz22 hc22; have KY22 := Aside0.mk hy22; have KA22 := Aside0.mk hA22; clear hy22 hA22; replace q22 := eq_true q22
            go_wp2_with (first | (go_at_call 107; (with_reducible refine (bsoncore_valueLength.calls kj3 _ _ y370 (rd l0 0) t375 true _ ?side1 ?side2 A12.out).mono ?_); (case side1 => repeat (first | exact (Kd.V_reads' HO374.out).2.2 | (with_reducible refine Kd.C_alloc ?_ _) | (with_reducible refine Kd.C_drewN ?_ _) | (with_reducible refine Kd.C_drew ?_))); (case side2 => exact (Kd.V_reads' HO374.out).2.1); rintro e w23 ⟨rfl, hb⟩; replace HO_0 := Aside0.mk (Kd.V_below (HW.zV HO_0.out) hb); replace HO374 := Aside0.mk (Kd.V_below (HW.zV HO374.out) hb); replace HB := Aside0.mk (below_step HW.zb hb); (try clear hb); have q24 : ((ji17) : Int) ≤ ((l0.length : Int) : Int) := HW.od; obtain ⟨i024, hi024, _, hsz24, _⟩ := info_parts info5; have hroom24 : l0.length ≤ c0 := (Kd.V_reads' HO_0.out).2.1; have hC24 : Kd.F (Kd.int .u8) _ _ (some ad368) l0.length l0 := (Kd.V_at (base := w.heap.size) HO_0.out).2.2; have hcut24 := cut_to (P := Tryz.prog) 22 5 .i64 Tryz.underlying22 hi024 (some ad368) l0.length c0 (ji17) (HW.od) q24 hroom24; have hr24 := Kd.F_take (m := ((ji17) : Int).toNat) hC24 (by omega); have hy24 : y377.length = ((ji17) : Int).toNat := (by rw [Ny377.out, List.length_take]; omega); rw [← Ny377.out] at hr24; rw [← hy24] at hcut24; have HO381 := Aside0.mk (show Kd.V (Kd.int .u8) 5 _ w.heap.size _ (.slice (some ad368) y377.length c0) y377 from Kd.V_mk (by omega) hr24); have HC381 := Aside0.mk (show y377.length ≤ c0 from by omega); clear hr24 hC24 hroom24 hi024 hsz24; have KY24 := Aside0.mk hy24; clear hy24; replace q24 := eq_true q24; have q25 : ((ji17) : Int) ≤ ((l0.length : Int) : Int) := HW.od; obtain ⟨i025, hi025, _, hsz25, _⟩ := info_parts info5; have hroom25 : l0.length ≤ c0 := (Kd.V_reads' HO_0.out).2.1; have hC25 : Kd.F (Kd.int .u8) _ _ (some ad368) l0.length l0 := (Kd.V_at (base := w.heap.size) HO_0.out).2.2; have q025 : (0 : Int) ≤ ((ji17) : Int) := HW.od; have hcut25 := cut_from (P := Tryz.prog) 22 5 .i64 Tryz.underlying22 hi025 1 hsz25 (some ad368) l0.length c0 (ji17) q025 q25; have hr25 := Kd.F_cut (m := ((ji17) : Int).toNat) (c := c0) hC25 (by omega) hroom25; obtain ⟨A25, hA25⟩ : ∃ A1, A1 = (if c0 = ((ji17) : Int).toNat then (some ad368) else ((some ad368) : Option Addr).map (·.add (((ji17) : Int).toNat * 1))) := ⟨_, rfl⟩; obtain ⟨c25, hc25⟩ : ∃ c1, c1 = c0 - ((ji17) : Int).toNat := ⟨_, rfl⟩; have hy25 : y382.length = l0.length - ((ji17) : Int).toNat := (by rw [Ny382.out, List.length_drop] <;> omega); rw [show (l0).drop ((ji17) : Int).toNat = y382 from Ny382.out.symm] at hr25; replace hr25 : Kd.F (Kd.int .u8) _ _ A25 y382.length y382 := (by rw [hA25]; exact hr25); rw [← hy25, ← hA25, ← hc25] at hcut25; have HO386 := Aside0.mk (show Kd.V (Kd.int .u8) 5 _ w.heap.size _ (.slice A25 y382.length c25) y382 from Kd.V_mk (by rw [hy25, hc25]; exact Nat.sub_le_sub_right hroom25 _) hr25); have HC386 := Aside0.mk (show y382.length ≤ c25 from by rw [hy25, hc25]; exact Nat.sub_le_sub_right hroom25 _); clear hr25 hC25 hroom25 hi025 hsz25 hc25; have KY25 := Aside0.mk hy25; have KA25 := Aside0.mk hA25; clear hy25 hA25; replace q25 := eq_true q25))
            repeat (go_quiet (fail); try go_wp2)
            go_ret3
            exact ⟨_, _, by first | rfl | (simp [errW_none, errW_some] <;> rfl) | (simp only [← hji9, ← hji17]; first | rfl | (simp [errW_none, errW_some] <;> rfl)) | (simp [*, errW_none, errW_some] <;> rfl), HW.zV HO381.out, HW.zV HO386.out, HW.zb⟩
def bsoncore_Element_KeyBytesErr.f (l0 : List Int) : Option (List Int × Option Int) := if (l0.length : Int) = 0 then (none) else (if 1 ≤ (l0.length : Int) then ((bytes_IndexByte.f (l0.drop 1) 0).bind fun t393 => (if t393 = (-1) then (none) else (if 1 ≤ (wrap64 (t393 + 1)) then (if (wrap64 (t393 + 1)) ≤ (l0.length : Int) then (some (((l0.take ((wrap64 (t393 + 1)) : Int).toNat).drop 1), none)) else (none)) else (none)))) else (none))
theorem bsoncore_Element_KeyBytesErr.calls (P0_ : Nat → Prop) (A0 : Option Addr) (c0 : Nat) (l0 : List Int) (r1 : List Int) (r2 : Option Int) (w : World) (hs0 : Kd.V (Kd.int .u8) 5 w w.heap.size (fun k_ => P0_ k_) (.slice A0 l0.length c0) l0) (h : bsoncore_Element_KeyBytesErr.f l0 = some (r1, r2)) :
    Calls Tryz.prog 169 #[.slice A0 l0.length c0] w fun e w' => ∃ v0_ : Value, e = .returned (.tuple #[v0_, errW r2]) ∧ Kd.V (Kd.int .u8) 5 w' w.heap.size (fun k_ => (P0_ k_ ∨ w.heap.size ≤ k_)) v0_ r1 ∧ Below w.heap.size w w' := by
  have hu150 := Tryz.underlying150; have HO0 := Aside0.mk (show Kd.V (Kd.int .u8) 5 w w.heap.size (fun k_ => (P0_ k_ ∨ w.heap.size ≤ k_)) (.slice A0 l0.length c0) l0 from Kd.V_mono hs0 (fun k_ hk => .inl hk)); have HB := Aside0.mk (Below.refl w.heap.size w); have H : (if (l0.length : Int) = 0 then (none) else (if 1 ≤ (l0.length : Int) then ((bytes_IndexByte.f (l0.drop 1) 0).bind fun t393 => (if t393 = (-1) then (none) else (if 1 ≤ (wrap64 (t393 + 1)) then (if (wrap64 (t393 + 1)) ≤ (l0.length : Int) then (some (((l0.take ((wrap64 (t393 + 1)) : Int).toNat).drop 1), none)) else (none)) else (none)))) else (none))) = some (r1, r2) := h; clear h
  by_cases c2 : (l0.length : Int) = 0
  · rw [if_pos c2] at H
    exact absurd H (by simp)
  rw [if_neg c2] at H; have c2b0 : ((l0.length : Int) == 0) = false := beq_eq_false_iff_ne.mpr c2; have c2b1 : ((l0.length : Int) != 0) = true := bne_iff_ne.mpr c2
  have c2b2 : ¬ (l0 = []) := fun h_ => c2 (by rw [h_]; rfl)
  by_cases c3 : 1 ≤ (l0.length : Int)
  rotate_left
  · rw [if_neg c3] at H
    exact absurd H (by simp)
  rw [if_pos c3] at H; have c3b0 := eq_true c3; have c3b1 : decide (1 ≤ (l0.length : Int)) = true := decide_eq_true c3; clear c3; obtain ⟨y388, hy388⟩ : ∃ y_ : List Int, y_ = (l0.drop 1) := ⟨_, rfl⟩
  replace H : ((bytes_IndexByte.f y388 0).bind fun t393 => (if t393 = (-1) then (none) else (if 1 ≤ (wrap64 (t393 + 1)) then (if (wrap64 (t393 + 1)) ≤ (l0.length : Int) then (some (((l0.take ((wrap64 (t393 + 1)) : Int).toNat).drop 1), none)) else (none)) else (none)))) = some (r1, r2) := by (try rw [hy388]); exact HW.rp
  have Ny388 := Aside0.mk hy388; clear hy388; replace H := Option.bind_eq_some_iff.mp H; obtain ⟨t393, A40, H⟩ := H; replace H : (if t393 = (-1) then (none) else (if 1 ≤ (wrap64 (t393 + 1)) then (if (wrap64 (t393 + 1)) ≤ (l0.length : Int) then (some (((l0.take ((wrap64 (t393 + 1)) : Int).toNat).drop 1), none)) else (none)) else (none))) = some (r1, r2) := H; have A4 := Aside0.mk A40; clear A40
  by_cases c5 : t393 = (-1)
  · rw [if_pos c5] at H
    exact absurd H (by simp)
  rw [if_neg c5] at H; have c5b0 : (t393 == (-1)) = false := beq_eq_false_iff_ne.mpr c5; have c5b1 : (t393 != (-1)) = true := bne_iff_ne.mpr c5
  by_cases c6 : 1 ≤ (wrap64 (t393 + 1))
  rotate_left
  · rw [if_neg c6] at H
    exact absurd H (by simp)
  rw [if_pos c6] at H; have c6b0 := eq_true c6; have c6b1 : decide (1 ≤ (wrap64 (t393 + 1))) = true := decide_eq_true c6
  by_cases c7 : (wrap64 (t393 + 1)) ≤ (l0.length : Int)
  rotate_left
  · rw [if_neg c7] at H
    exact absurd H (by simp)
  rw [if_pos c7] at H; have c7b0 := eq_true c7; have c7b1 : decide ((wrap64 (t393 + 1)) ≤ (l0.length : Int)) = true := decide_eq_true c7; obtain ⟨y394, hy394⟩ : ∃ y_ : List Int, y_ = ((l0.take ((wrap64 (t393 + 1)) : Int).toNat).drop 1) := ⟨_, rfl⟩
  replace H : (some (y394, none)) = some (r1, r2) := by (try rw [hy394]); exact HW.rp
  have Ny394 := Aside0.mk hy394; clear hy394
  as_aux_lemma =>
    simp only [Option.some.injEq, Prod.mk.injEq] at H
    obtain ⟨rfl, rfl⟩ := H
    have q8 : (1 : Int) ≤ ((l0.length : Int) : Int) := HW.od
    obtain ⟨i08, hi08, _, hsz8, _⟩ := info_parts info5; have hroom8 : l0.length ≤ c0 := (Kd.V_reads' HO0.out).2.1; have hC8 : Kd.F (Kd.int .u8) _ _ A0 l0.length l0 := (Kd.V_at (base := w.heap.size) HO0.out).2.2
    have hcut8 := cut_from (P := Tryz.prog) 145 5 .i64 Tryz.underlying145 hi08 1 hsz8 A0 l0.length c0 1 (by omega) q8
    have hr8 := Kd.F_cut (m := (1 : Int).toNat) (c := c0) hC8 (by omega) hroom8
    obtain ⟨A8, hA8⟩ : ∃ A1, A1 = (if c0 = (1 : Int).toNat then A0 else (A0 : Option Addr).map (·.add ((1 : Int).toNat * 1))) := ⟨_, rfl⟩; obtain ⟨c8, hc8⟩ : ∃ c1, c1 = c0 - (1 : Int).toNat := ⟨_, rfl⟩
    have hy8 : y388.length = l0.length - (1 : Int).toNat := (by rw [Ny388.out, List.length_drop] <;> omega)
    rw [show (l0).drop (1 : Int).toNat = y388 from Ny388.out.symm] at hr8
    replace hr8 : Kd.F (Kd.int .u8) _ _ A8 y388.length y388 := (by rw [hA8]; exact hr8)
    rw [← hy8, ← hA8, ← hc8] at hcut8
    have HO392 := Aside0.mk (show Kd.V (Kd.int .u8) 5 _ w.heap.size _ (.slice A8 y388.length c8) y388 from Kd.V_mk (by rw [hy8, hc8]; exact Nat.sub_le_sub_right hroom8 _) hr8)
    have HC392 := Aside0.mk (show y388.length ≤ c8 from by rw [hy8, hc8]; exact Nat.sub_le_sub_right hroom8 _)
    clear hr8 hC8 hroom8 hi08 hsz8 hc8; have KY8 := Aside0.mk hy8; have KA8 := Aside0.mk hA8; clear hy8 hA8; replace q8 := eq_true q8
    go_enter Tryz.func169, Tryz.ntmps169
    go_wp2_with (first | ((with_reducible refine gate_callee (f := 129) rfl ?_); refine HW.gz (some 11) rfl rfl Tryz.func129 (by kernel_rfl) rfl #[.slice A8 y388.length c8, .int .u8 0] rfl ?_; (with_reducible refine (bytes_IndexByte.calls _ _ y388 0 t393 _ ?side1 ?side2 A4.out).mono ?_); (case side1 => repeat (first | exact (Kd.V_reads' HO392.out).2.2 | (with_reducible refine Kd.C_alloc ?_ _) | (with_reducible refine Kd.C_drewN ?_ _) | (with_reducible refine Kd.C_drew ?_))); (case side2 => exact (Kd.V_reads' HO392.out).2.1); rintro e w' ⟨rfl, ⟨nd, rfl⟩⟩; refine ⟨_, rfl, ?_⟩; have q9 : ((wrap64 (t393 + 1)) : Int) ≤ ((l0.length : Int) : Int) := HW.od; obtain ⟨i09, hi09, _, hsz9, _⟩ := info_parts info5; have hroom9 : l0.length ≤ c0 := (Kd.V_reads' HO0.out).2.1; have hC9 : Kd.F (Kd.int .u8) _ _ A0 l0.length l0 := (Kd.V_at (base := w.heap.size) HO0.out).2.2; have ql9 : (1 : Int) ≤ ((wrap64 (t393 + 1)) : Int) := HW.od; have hcut9 := cut_mid (P := Tryz.prog) 145 5 .i64 .i64 Tryz.underlying145 hi09 1 hsz9 A0 l0.length c0 1 (wrap64 (t393 + 1)) (by omega) ql9 q9 hroom9; have hr9 := Kd.F_mid (lo := (1 : Int).toNat) (hi := ((wrap64 (t393 + 1)) : Int).toNat) (c := c0) hC9 (by omega) (by omega) hroom9; obtain ⟨A9, hA9⟩ : ∃ A1, A1 = (if c0 = (1 : Int).toNat then A0 else (A0 : Option Addr).map (·.add ((1 : Int).toNat * 1))) := ⟨_, rfl⟩; obtain ⟨c9, hc9⟩ : ∃ c1, c1 = c0 - (1 : Int).toNat := ⟨_, rfl⟩; have hy9 : y394.length = ((wrap64 (t393 + 1)) : Int).toNat - (1 : Int).toNat := (by rw [Ny394.out, List.length_drop, List.length_take] <;> omega); rw [show ((l0).take ((wrap64 (t393 + 1)) : Int).toNat).drop (1 : Int).toNat = y394 from Ny394.out.symm] at hr9; replace hr9 : Kd.F (Kd.int .u8) _ _ A9 y394.length y394 := (by rw [hA9]; exact hr9); rw [← hy9, ← hA9, ← hc9] at hcut9; have HO398 := Aside0.mk (show Kd.V (Kd.int .u8) 5 _ w.heap.size _ (.slice A9 y394.length c9) y394 from Kd.V_mk (by rw [hy9, hc9]; exact Nat.sub_le_sub_right (Nat.le_trans (by omega) hroom9) _) hr9); have HC398 := Aside0.mk (show y394.length ≤ c9 from by rw [hy9, hc9]; exact Nat.sub_le_sub_right (Nat.le_trans (by omega) hroom9) _); clear hr9 hC9 hroom9 hi09 hsz9 hc9; have KY9 := Aside0.mk hy9; have KA9 := Aside0.mk hA9; clear hy9 hA9; replace q9 := eq_true q9))
    go_ret2
    exact ⟨_, rfl, HW.zV HO398.out, HW.zb⟩
def bsoncore_Element_KeyBytes.f (l0 : List Int) : Option (List Int) := (bsoncore_Element_KeyBytesErr.f l0).bind fun bt399 => (some bt399.1)
theorem bsoncore_Element_KeyBytes.calls (P0_ : Nat → Prop) (A0 : Option Addr) (c0 : Nat) (l0 : List Int) (r : List Int) (w : World) (hs0 : Kd.V (Kd.int .u8) 5 w w.heap.size (fun k_ => P0_ k_) (.slice A0 l0.length c0) l0) (h : bsoncore_Element_KeyBytes.f l0 = some r) :
    Calls Tryz.prog 120 #[.slice A0 l0.length c0] w fun e w' => ∃ v0_ : Value, e = .returned (v0_) ∧ Kd.V (Kd.int .u8) 5 w' w.heap.size (fun k_ => (P0_ k_ ∨ w.heap.size ≤ k_)) v0_ r ∧ Below w.heap.size w w' := by
  have HO0 := Aside0.mk (show Kd.V (Kd.int .u8) 5 w w.heap.size (fun k_ => (P0_ k_ ∨ w.heap.size ≤ k_)) (.slice A0 l0.length c0) l0 from Kd.V_mono hs0 (fun k_ hk => .inl hk)); have HB := Aside0.mk (Below.refl w.heap.size w); have H : ((bsoncore_Element_KeyBytesErr.f l0).bind fun bt399 => (some bt399.1)) = some r := h; clear h; replace H := Option.bind_eq_some_iff.mp H; obtain ⟨⟨t399, t402⟩, A20, H⟩ := H; replace H : (some t399) = some r := H; have A2 := Aside0.mk A20; clear A20
  as_aux_lemma =>
    obtain rfl := Option.some.inj H
    go_enter Tryz.func120, Tryz.ntmps120
    go_wp2_with (first | ((with_reducible refine gate_callee (f := 169) rfl ?_); refine HW.gz (some 7) rfl rfl Tryz.func169 (by kernel_rfl) rfl #[.slice A0 l0.length c0] rfl ?_; (with_reducible refine (bsoncore_Element_KeyBytesErr.calls (fun k_ => (P0_ k_ ∨ w.heap.size ≤ k_)) _ _ l0 t399 t402 _ ?side1 A2.out).mono ?_); (case side1 => exact HO0.out); rintro e w3 ⟨v400, rfl, ho0, hb⟩; refine ⟨_, rfl, ?_⟩; have HO401 := Aside0.mk (Kd.V_lower (Kd.V_mono (ok' := fun k_ => (P0_ k_ ∨ w.heap.size ≤ k_)) ho0 (fun k_ hk_ => Or.elim hk_ (fun hs_ => hs_) (fun hn_ => (.inr (Nat.le_trans (below_size HW.zb) hn_))))) (below_size HW.zb)); replace HB := Aside0.mk (below_step HW.zb hb); (try clear hb); (try clear ho0); (try simp only [errW_none, errW_some])))
    go_ret
    exact ⟨_, rfl, HW.zV HO401.out, HW.zb⟩
end Go.Proofs.YtanecebppagakaaGreatDoor.PRx
