import Derived.Test.YtanecebppagakaaGreatDoorPRxx0
import Derived.Test.YtanecebppagakaaGreatDoorPRxx10
import Derived.Test.YtanecebppagakaaGreatDoorPRxx12
namespace Go.Proofs.YtanecebppagakaaGreatDoor.PRx
open Go.Proofs.YtanecebppagakaaGreatDoor.HW (tt ff)
open Go.RowKit Go.Proofs.YtanecebppagakaaGreatDoorW.PrintWords Go.Proofs.YtanecebppagakaaGreatDoorW.PrintLast Go.Proofs.YtanecebppagakaaGreatDoorW.PrintMore
attribute [local go_sem] max2_int min2_int max_two min_two max_three min_three max_four min_four
set_option linter.unusedVariables false
set_option maxHeartbeats 8000000
set_option maxRecDepth 100000
set_option linter.unusedSimpArgs false
def spec_DocRight.f (a0_0 : Int) (a0_1 : ByteArray) (a0_2 : ByteArray) (a0_3 : Int) (a0_4 : Int) (a0_5 : Int) (l0_6 : List Int) (l0_7 : List (S95)) : Option (Bool) := (spec_docRight.f a0_0 a0_1 a0_2 a0_3 a0_4 a0_5 l0_6 l0_7 200).bind fun t620 => (some t620)
theorem spec_DocRight.calls (a0_0 : Int) (a0_1 : ByteArray) (a0_2 : ByteArray) (a0_3 : Int) (a0_4 : Int) (a0_5 : Int) (A0_6 : Option Addr) (c0_6 : Nat) (l0_6 : List Int) (A0_7 : Option Addr) (c0_7 : Nat) (l0_7 : List (S95)) (r : Bool) (w : World) (hr0_6 : Kd.C (Kd.int .u8) w A0_6 l0_6.length l0_6) (hc0_6 : l0_6.length ≤ c0_6) (hr0_7 : Kd.C k95 w A0_7 l0_7.length l0_7) (hc0_7 : l0_7.length ≤ c0_7) (h : spec_DocRight.f a0_0 a0_1 a0_2 a0_3 a0_4 a0_5 l0_6 l0_7 = some r) :
    Calls Tryz.prog 66 #[.agg #[.int .i64 a0_0, .string a0_1, .string a0_2, .int .i64 a0_3, .int .u64 a0_4, .int .u64 a0_5, .slice A0_6 l0_6.length c0_6, .slice A0_7 l0_7.length c0_7]] w fun e w' => e = .returned (.bool r) ∧ Below w.heap.size w w' := by
  have hu44 := Tryz.underlying44; have HR0_6 := Aside0.mk hr0_6; have HC0_6 := Aside0.mk hc0_6; clear hr0_6 hc0_6; have HR0_7 := Aside0.mk hr0_7; have HC0_7 := Aside0.mk hc0_7; clear hr0_7 hc0_7; have HB := Aside0.mk (Below.refl w.heap.size w); have H : ((spec_docRight.f a0_0 a0_1 a0_2 a0_3 a0_4 a0_5 l0_6 l0_7 200).bind fun t620 => (some t620)) = some r := h; clear h; replace H := Option.bind_eq_some_iff.mp H; obtain ⟨t620, A20, H⟩ := H; replace H : (some t620) = some r := H; have A2 := Aside0.mk A20; clear A20
  as_aux_lemma =>
    obtain rfl := Option.some.inj H
    go_enter Tryz.func66, Tryz.ntmps66
    go_wp2_with (first | ((with_reducible refine gate_dst (N := 1) rfl ?_); refine box_event ?hg (N := 1) ?hd (cs := #[.int .i64 a0_0, .string a0_1, .string a0_2, .int .i64 a0_3, .int .u64 a0_4, .int .u64 a0_5, .slice A0_6 l0_6.length c0_6, .slice A0_7 l0_7.length c0_7]) (t := 44) ?hr ?_; (case hd => rfl); (case hg => rfl); (case hr => first | (go_simp; done) | (go_simp; rfl)); intro gb619 hg w3 hbox hb; have n0_ := Aside0.mk (below_step HW.zb hb); have n1_ := Aside0.mk (hbox); have n3_ := Aside0.mk ((by rw [hg]; exact (below_size HW.zb) : w.heap.size ≤ gb619)); clear HB; have HB := n0_; have BK619 := n1_; have GE619 := n3_; clear n0_ n1_ n3_; clear hb hbox hg; obtain ⟨hcz4_0, hcz4_1, hcz4_2, hcz4_3, hcz4_4, hcz4_5, hcz4_6, hcz4_7⟩ := HW.k8 BK619.out) | ((with_reducible refine gate_callee (f := 109) rfl ?_); refine HW.gz (some 4) rfl rfl Tryz.func109 (by kernel_rfl) rfl #[.agg #[.int .i64 a0_0, .string a0_1, .string a0_2, .int .i64 a0_3, .int .u64 a0_4, .int .u64 a0_5, .slice A0_6 l0_6.length c0_6, .slice A0_7 l0_7.length c0_7], .int .i64 200] rfl ?_; (with_reducible refine (spec_docRight.calls a0_0 a0_1 a0_2 a0_3 a0_4 a0_5 _ _ l0_6 _ _ l0_7 200 t620 _ ?side1 ?side2 ?side3 ?side4 A2.out).mono ?_); (case side1 => repeat (first | exact (Kd.C_below HR0_6.out HB.out) | (with_reducible refine Kd.C_alloc ?_ _) | (with_reducible refine Kd.C_drewN ?_ _) | (with_reducible refine Kd.C_drew ?_))); (case side2 => exact HC0_6.out); (case side3 => repeat (first | exact (Kd.C_below HR0_7.out HB.out) | (with_reducible refine Kd.C_alloc ?_ _) | (with_reducible refine Kd.C_drewN ?_ _) | (with_reducible refine Kd.C_drew ?_))); (case side4 => exact HC0_7.out); rintro e w5 ⟨rfl, hb⟩; refine ⟨_, rfl, ?_⟩; have n1_ := Aside0.mk (below_step HW.zb hb); clear HB; have HB := n1_; clear n1_; (try clear hb)))
    go_ret
    exact ⟨rfl, HW.zb⟩
mutual
def laws_docBytes.l0 : Nat → Int → Int → Int → ByteArray → ByteArray → Int → Int → Int → List Int → List (S95) → Option (Int)
  | 0, _, _, _, _, _, _, _, _, _, _ => none
  | k + 1, x3, x4, x622000, x622001, x622002, x622003, x622004, x622005, x622006, x622007 => if x4 < (x622007.length : Int) then (if 0 ≤ x4 then ((laws_docBytes.f k ((rd_T95 x622007 x4).f1.f0) ((rd_T95 x622007 x4).f1.f1) ((rd_T95 x622007 x4).f1.f2) ((rd_T95 x622007 x4).f1.f3) ((rd_T95 x622007 x4).f1.f4) ((rd_T95 x622007 x4).f1.f5) ((rd_T95 x622007 x4).f1.f6) ((rd_T95 x622007 x4).f1.f7)).bind fun t624 => (laws_docBytes.l0 k (wrap64 ((wrap64 (x3 + (((rd_T95 x622007 x4).f0).size : Int))) + t624)) (wrap64 (x4 + 1)) x622000 x622001 x622002 x622003 x622004 x622005 x622006 x622007)) else (none)) else (some x3)
def laws_docBytes.f : Nat → Int → ByteArray → ByteArray → Int → Int → Int → List Int → List (S95) → Option (Int)
  | 0, _, _, _, _, _, _, _, _ => none
  | k + 1, a0_0, a0_1, a0_2, a0_3, a0_4, a0_5, l0_6, l0_7 => laws_docBytes.l0 k (wrap64 ((wrap64 ((a0_1.size : Int) + (a0_2.size : Int))) + (l0_6.length : Int))) 0 a0_0 a0_1 a0_2 a0_3 a0_4 a0_5 l0_6 l0_7
end
theorem laws_docBytes.mono_l : ∀ k, (∀ y0 y1 y2 y3 y4 y5 y6 y7, LeO (laws_docBytes.f k y0 y1 y2 y3 y4 y5 y6 y7) (laws_docBytes.f (k + 1) y0 y1 y2 y3 y4 y5 y6 y7)) ∧ (∀ y0 y1 y2 y3 y4 y5 y6 y7 y8 y9, LeO (laws_docBytes.l0 k y0 y1 y2 y3 y4 y5 y6 y7 y8 y9) (laws_docBytes.l0 (k + 1) y0 y1 y2 y3 y4 y5 y6 y7 y8 y9))
  | 0 => ⟨fun _ _ _ _ _ _ _ _ r h => by simp [laws_docBytes.f] at h, fun _ _ _ _ _ _ _ _ _ _ r h => by simp [laws_docBytes.l0] at h⟩
  | k + 1 => by
    obtain ⟨ih0, ih1⟩ := laws_docBytes.mono_l k
    refine ⟨?_, ?_⟩
    · intro y0 y1 y2 y3 y4 y5 y6 y7
      unfold laws_docBytes.f
      have m0_ := @ih0; have m1_ := @ih1; exact HW.mo
    · intro y0 y1 y2 y3 y4 y5 y6 y7 y8 y9
      unfold laws_docBytes.l0
      have m0_ := @ih0; have m1_ := @ih1; exact HW.mo
theorem laws_docBytes.mono : ∀ a0 a1 a2 a3 a4 a5 a6 a7 k, LeO (laws_docBytes.f k a0 a1 a2 a3 a4 a5 a6 a7) (laws_docBytes.f (k + 1) a0 a1 a2 a3 a4 a5 a6 a7) := by
  intro a0 a1 a2 a3 a4 a5 a6 a7 k
  obtain ⟨ih0, ih1⟩ := laws_docBytes.mono_l k
  exact ih0 a0 a1 a2 a3 a4 a5 a6 a7
def laws_docBytes.T5 : Bool × List (List Nat × List Nat) := (true, [([], []), ([], []), ([1], [1]), ([], []), ([2, 3], [2, 3]), ([4], [4]), ([5], [5]), ([6], [6]), ([0, 7], [0, 7]), ([], []), ([9], [9]), ([], []), ([10, 11], [10, 11]), ([12], [12]), ([13], [13]), ([14], [14]), ([8, 15], [8, 15]), ([16, 15, 0, 1, 2, 3, 4, 5, 6, 7, 8, 9, 10, 11, 12, 13, 14, 15, 16], [0, 16])])
def laws_docBytes.B5 : List Nat := [0, 0, 2, 0, 14, 30, 62, 126, 255, 0, 512, 0, 3584, 7680, 15872, 32256, 65535, 131071]
theorem laws_docBytes.tab5 : rtab .any (opsOf Tryz.f67 5) = laws_docBytes.T5 := by kernel_rfl
theorem laws_docBytes.bits5 : waitsOk laws_docBytes.T5.2 laws_docBytes.B5 = true := by kernel_rfl
theorem laws_docBytes.calls (k : Nat) : ∀ (a0_0 : Int) (a0_1 : ByteArray) (a0_2 : ByteArray) (a0_3 : Int) (a0_4 : Int) (a0_5 : Int) (A0_6 : Option Addr) (c0_6 : Nat) (l0_6 : List Int) (A0_7 : Option Addr) (c0_7 : Nat) (l0_7 : List (S95)) (r : Int) (w : World) (hr0_6 : Kd.C (Kd.int .u8) w A0_6 l0_6.length l0_6) (hc0_6 : l0_6.length ≤ c0_6) (hr0_7 : Kd.C k95 w A0_7 l0_7.length l0_7) (hc0_7 : l0_7.length ≤ c0_7) (h : laws_docBytes.f k a0_0 a0_1 a0_2 a0_3 a0_4 a0_5 l0_6 l0_7 = some r),
    Calls Tryz.prog 67 #[.agg #[.int .i64 a0_0, .string a0_1, .string a0_2, .int .i64 a0_3, .int .u64 a0_4, .int .u64 a0_5, .slice A0_6 l0_6.length c0_6, .slice A0_7 l0_7.length c0_7]] w fun e w' => e = .returned (.int .i64 r) ∧ Below w.heap.size w w' := by
  induction k using Nat.strongRecOn with
  | _ k ih =>
  intro a0_0 a0_1 a0_2 a0_3 a0_4 a0_5 A0_6 c0_6 l0_6 A0_7 c0_7 l0_7 r w hr0_6 hc0_6 hr0_7 hc0_7 h
  cases k with
  | zero => exact absurd h (by simp [laws_docBytes.f])
  | succ k =>
  simp only [laws_docBytes.f] at h
  have hu44 := Tryz.underlying44; have HR0_6 := Aside0.mk hr0_6; have HC0_6 := Aside0.mk hc0_6; clear hr0_6 hc0_6; have HR0_7 := Aside0.mk hr0_7; have HC0_7 := Aside0.mk hc0_7; clear hr0_7 hc0_7; have HB := Aside0.mk (Below.refl w.heap.size w); have H : (laws_docBytes.l0 k (wrap64 ((wrap64 ((a0_1.size : Int) + (a0_2.size : Int))) + (l0_6.length : Int))) 0 a0_0 a0_1 a0_2 a0_3 a0_4 a0_5 l0_6 l0_7) = some r := h; clear h; have H' := Aside0.mk H; clear H
  go_enter Tryz.func67, Tryz.ntmps67
  go_wp2_with (first | ((with_reducible refine gate_dst (N := 1) rfl ?_); refine box_event ?hg (N := 1) ?hd (cs := #[.int .i64 a0_0, .string a0_1, .string a0_2, .int .i64 a0_3, .int .u64 a0_4, .int .u64 a0_5, .slice A0_6 l0_6.length c0_6, .slice A0_7 l0_7.length c0_7]) (t := 44) ?hr ?_; (case hd => rfl); (case hg => rfl); (case hr => first | (go_simp; done) | (go_simp; rfl)); intro gb621 hg w2 hbox hb; have n0_ := Aside0.mk (below_step HW.zb hb); have n1_ := Aside0.mk (hbox); have n3_ := Aside0.mk ((by rw [hg]; exact (below_size HW.zb) : w.heap.size ≤ gb621)); clear HB; have HB := n0_; have BK621 := n1_; have GE621 := n3_; clear n0_ n1_ n3_; clear hb hbox hg; obtain ⟨hcz3_0, hcz3_1, hcz3_2, hcz3_3, hcz3_4, hcz3_5, hcz3_6, hcz3_7⟩ := HW.k8 BK621.out))
  go_loopg [3, 4] k (fun kq v3 v4 w' => ∃ (x3_1 : Int) (x4_1 : Int), v3 = .int .i64 x3_1 ∧ v4 = .int .i64 x4_1 ∧ Aside0 (laws_docBytes.l0 kq x3_1 x4_1 a0_0 a0_1 a0_2 a0_3 a0_4 a0_5 l0_6 l0_7 = some r) ∧ Aside0 (kq ≤ k) ∧ Aside0 (w'.heap[gb621]? = some (.cells #[.int .i64 a0_0, .string a0_1, .string a0_2, .int .i64 a0_3, .int .u64 a0_4, .int .u64 a0_5, (.slice A0_6 l0_6.length c0_6), (.slice A0_7 l0_7.length c0_7)] 44 (0, 0))) ∧ Aside0 (Below w.heap.size w w'))
  case atStart => exact ⟨(wrap64 ((wrap64 ((a0_1.size : Int) + (a0_2.size : Int))) + (l0_6.length : Int))), (0), (by first | rfl | (simp; done) | (simp [*]; done)), HW.rs, H', ⟨Nat.le_refl _⟩, ⟨by (with_reducible repeat (first | refine blk_drewN ?_ _ | refine blk_drew ?_ | refine blk_alloc ?_ _)); exact BK621.out⟩, ⟨HW.zb⟩⟩
  case round =>
    clear H'
    (try clear p2); (try clear hcz3_0 hcz3_1 hcz3_2 hcz3_3 hcz3_4 hcz3_5 hcz3_6 hcz3_7)
    obtain ⟨x3_1, x4_1, rfl, rfl, HA, HK1, BK621, HB⟩ := hrel
    cases gk with
    | zero => exact absurd HA.out (by simp [laws_docBytes.l0])
    | succ k1 =>
      have H := HA.out; clear HA
      simp only [laws_docBytes.l0] at H
      by_cases c4 : x4_1 < (l0_7.length : Int)
      rotate_left
      · rw [if_neg c4] at H
        have c4b0 : decide (x4_1 < (l0_7.length : Int)) = false := decide_eq_false c4; clear c4
        as_aux_lemma =>
          obtain rfl := Option.some.inj H; obtain ⟨hcz10_0, hcz10_1, hcz10_2, hcz10_3, hcz10_4, hcz10_5, hcz10_6, hcz10_7⟩ := HW.k8 BK621.out
          go_wp2
          go_ret
          exact ⟨rfl, HW.zb⟩
      rw [if_pos c4] at H; have c4b0 : decide (x4_1 < (l0_7.length : Int)) = true := decide_eq_true c4; clear c4
      by_cases c5 : 0 ≤ x4_1
      rotate_left
      · rw [if_neg c5] at H
        exact absurd H (by simp)
      rw [if_pos c5] at H; have c5b0 : decide (0 ≤ x4_1) = true := decide_eq_true c5; clear c5; replace H := Option.bind_eq_some_iff.mp H; obtain ⟨t624, A60, H⟩ := H; replace H : (laws_docBytes.l0 k1 (wrap64 ((wrap64 (x3_1 + (((rd_T95 l0_7 x4_1).f0).size : Int))) + t624)) (wrap64 (x4_1 + 1)) a0_0 a0_1 a0_2 a0_3 a0_4 a0_5 l0_6 l0_7) = some r := H; have A6 := Aside0.mk A60; clear A60
      as_aux_lemma =>
        have H' := Aside0.mk H; clear H; obtain ⟨hcz7_0, hcz7_1, hcz7_2, hcz7_3, hcz7_4, hcz7_5, hcz7_6, hcz7_7⟩ := HW.k8 BK621.out
        try go_wp2
        replace BK621 := Aside0.mk (blk_drew BK621.out); replace HB := Aside0.mk (below_drew1 HB.out)
        have p622 : 0 ≤ (x4_1 : Int) := HW.od
        have q622 : x4_1 < (l0_7.length : Int) := HW.od
        obtain ⟨ad622, A622_7, c622_7, A622_8, c622_8, e622, hx622_0, hx622_1, hx622_2, hx622_3, hx622_4, hx622_5, hx622_6, hx622_7, hx622_8, hl622_7, hi622_7, hl622_8, hi622_8⟩ := at_T95 HR0_7.out x4_1 p622 q622; have hw622_8 := hx622_8; have hw622_7 := hx622_7; have hw622_6 := hx622_6; have hw622_5 := hx622_5; have hw622_4 := hx622_4; have hw622_3 := hx622_3; have hw622_2 := hx622_2; have hw622_1 := hx622_1; have hw622_0 := hx622_0
        cases e622
        replace hx622_0 := (HB.out.cell (World.block_lt_of_cell? w _ hx622_0)).trans hx622_0; replace hx622_1 := (HB.out.cell (World.block_lt_of_cell? w _ hx622_1)).trans hx622_1; replace hx622_2 := (HB.out.cell (World.block_lt_of_cell? w _ hx622_2)).trans hx622_2; replace hx622_3 := (HB.out.cell (World.block_lt_of_cell? w _ hx622_3)).trans hx622_3; replace hx622_4 := (HB.out.cell (World.block_lt_of_cell? w _ hx622_4)).trans hx622_4; replace hx622_5 := (HB.out.cell (World.block_lt_of_cell? w _ hx622_5)).trans hx622_5; replace hx622_6 := (HB.out.cell (World.block_lt_of_cell? w _ hx622_6)).trans hx622_6; replace hx622_7 := (HB.out.cell (World.block_lt_of_cell? w _ hx622_7)).trans hx622_7; replace hx622_8 := (HB.out.cell (World.block_lt_of_cell? w _ hx622_8)).trans hx622_8; have HR622_7 := Aside0.mk hi622_7; have HC622_7 := Aside0.mk hl622_7; clear hi622_7 hl622_7; have HR622_8 := Aside0.mk hi622_8; have HC622_8 := Aside0.mk hl622_8; clear hi622_8 hl622_8; replace p622 := eq_true p622; replace q622 := eq_true q622
        have p623 : 0 ≤ (x4_1 : Int) := HW.od
        have q623 : x4_1 < (l0_7.length : Int) := HW.od
        obtain ⟨ad623, A623_7, c623_7, A623_8, c623_8, e623, hx623_0, hx623_1, hx623_2, hx623_3, hx623_4, hx623_5, hx623_6, hx623_7, hx623_8, hl623_7, hi623_7, hl623_8, hi623_8⟩ := at_T95 HR0_7.out x4_1 p623 q623; have hw623_8 := hx623_8; have hw623_7 := hx623_7; have hw623_6 := hx623_6; have hw623_5 := hx623_5; have hw623_4 := hx623_4; have hw623_3 := hx623_3; have hw623_2 := hx623_2; have hw623_1 := hx623_1; have hw623_0 := hx623_0
        obtain rfl : ad622 = ad623 := (by injection e623)
        replace hx623_0 := (HB.out.cell (World.block_lt_of_cell? w _ hx623_0)).trans hx623_0; replace hx623_1 := (HB.out.cell (World.block_lt_of_cell? w _ hx623_1)).trans hx623_1; replace hx623_2 := (HB.out.cell (World.block_lt_of_cell? w _ hx623_2)).trans hx623_2; replace hx623_3 := (HB.out.cell (World.block_lt_of_cell? w _ hx623_3)).trans hx623_3; replace hx623_4 := (HB.out.cell (World.block_lt_of_cell? w _ hx623_4)).trans hx623_4; replace hx623_5 := (HB.out.cell (World.block_lt_of_cell? w _ hx623_5)).trans hx623_5; replace hx623_6 := (HB.out.cell (World.block_lt_of_cell? w _ hx623_6)).trans hx623_6; replace hx623_7 := (HB.out.cell (World.block_lt_of_cell? w _ hx623_7)).trans hx623_7; replace hx623_8 := (HB.out.cell (World.block_lt_of_cell? w _ hx623_8)).trans hx623_8; have HR623_7 := Aside0.mk hi623_7; have HC623_7 := Aside0.mk hl623_7; clear hi623_7 hl623_7; have HR623_8 := Aside0.mk hi623_8; have HC623_8 := Aside0.mk hl623_8; clear hi623_8 hl623_8; replace p623 := eq_true p623; replace q623 := eq_true q623; have ea_ := Option.some.inj (hx622_7.symm.trans hx623_7); injection ea_ with ea_ en_ ec_; subst ea_; subst ec_; clear en_; have ea_ := Option.some.inj (hx622_8.symm.trans hx623_8); injection ea_ with ea_ en_ ec_; subst ea_; subst ec_; clear en_
        refine start_ (n := 18) (S := fun w' => w'.cell? ⟨gb621, 0, none⟩ = some (.int .i64 a0_0) ∧ w'.cell? ⟨gb621, 1, none⟩ = some (.string a0_1) ∧ w'.cell? ⟨gb621, 2, none⟩ = some (.string a0_2) ∧ w'.cell? ⟨gb621, 3, none⟩ = some (.int .i64 a0_3) ∧ w'.cell? ⟨gb621, 4, none⟩ = some (.int .u64 a0_4) ∧ w'.cell? ⟨gb621, 5, none⟩ = some (.int .u64 a0_5) ∧ w'.cell? ⟨gb621, 6, none⟩ = some (.slice A0_6 l0_6.length c0_6) ∧ w'.cell? ⟨gb621, 7, none⟩ = some (.slice (some ad622) l0_7.length c0_7) ∧ w'.cell? (ad622.add ((x4_1).toNat * 9)) = some (.string ((rd_T95 l0_7 x4_1).f0)) ∧ w'.cell? ⟨(ad622.add ((x4_1).toNat * 9)).block, (ad622.add ((x4_1).toNat * 9)).off + 1, none⟩ = some (.int .i64 ((rd_T95 l0_7 x4_1).f1.f0)) ∧ w'.cell? ⟨(ad622.add ((x4_1).toNat * 9)).block, (ad622.add ((x4_1).toNat * 9)).off + 2, none⟩ = some (.string ((rd_T95 l0_7 x4_1).f1.f1)) ∧ w'.cell? ⟨(ad622.add ((x4_1).toNat * 9)).block, (ad622.add ((x4_1).toNat * 9)).off + 3, none⟩ = some (.string ((rd_T95 l0_7 x4_1).f1.f2)) ∧ w'.cell? ⟨(ad622.add ((x4_1).toNat * 9)).block, (ad622.add ((x4_1).toNat * 9)).off + 4, none⟩ = some (.int .i64 ((rd_T95 l0_7 x4_1).f1.f3)) ∧ w'.cell? ⟨(ad622.add ((x4_1).toNat * 9)).block, (ad622.add ((x4_1).toNat * 9)).off + 5, none⟩ = some (.int .u64 ((rd_T95 l0_7 x4_1).f1.f4)) ∧ w'.cell? ⟨(ad622.add ((x4_1).toNat * 9)).block, (ad622.add ((x4_1).toNat * 9)).off + 6, none⟩ = some (.int .u64 ((rd_T95 l0_7 x4_1).f1.f5)) ∧ w'.cell? ⟨(ad622.add ((x4_1).toNat * 9)).block, (ad622.add ((x4_1).toNat * 9)).off + 7, none⟩ = some (.slice A622_7 ((rd_T95 l0_7 x4_1).f1.f6).length c622_7) ∧ w'.cell? ⟨(ad622.add ((x4_1).toNat * 9)).block, (ad622.add ((x4_1).toNat * 9)).off + 8, none⟩ = some (.slice A622_8 ((rd_T95 l0_7 x4_1).f1.f7).length c622_8) ∧ w'.cell? (ad622.add ((x4_1).toNat * 9)) = some (.string ((rd_T95 l0_7 x4_1).f0)) ∧ w'.cell? ⟨(ad622.add ((x4_1).toNat * 9)).block, (ad622.add ((x4_1).toNat * 9)).off + 1, none⟩ = some (.int .i64 ((rd_T95 l0_7 x4_1).f1.f0)) ∧ w'.cell? ⟨(ad622.add ((x4_1).toNat * 9)).block, (ad622.add ((x4_1).toNat * 9)).off + 2, none⟩ = some (.string ((rd_T95 l0_7 x4_1).f1.f1)) ∧ w'.cell? ⟨(ad622.add ((x4_1).toNat * 9)).block, (ad622.add ((x4_1).toNat * 9)).off + 3, none⟩ = some (.string ((rd_T95 l0_7 x4_1).f1.f2)) ∧ w'.cell? ⟨(ad622.add ((x4_1).toNat * 9)).block, (ad622.add ((x4_1).toNat * 9)).off + 4, none⟩ = some (.int .i64 ((rd_T95 l0_7 x4_1).f1.f3)) ∧ w'.cell? ⟨(ad622.add ((x4_1).toNat * 9)).block, (ad622.add ((x4_1).toNat * 9)).off + 5, none⟩ = some (.int .u64 ((rd_T95 l0_7 x4_1).f1.f4)) ∧ w'.cell? ⟨(ad622.add ((x4_1).toNat * 9)).block, (ad622.add ((x4_1).toNat * 9)).off + 6, none⟩ = some (.int .u64 ((rd_T95 l0_7 x4_1).f1.f5)) ∧ w'.cell? ⟨(ad622.add ((x4_1).toNat * 9)).block, (ad622.add ((x4_1).toNat * 9)).off + 7, none⟩ = some (.slice A622_7 ((rd_T95 l0_7 x4_1).f1.f6).length c622_7) ∧ w'.cell? ⟨(ad622.add ((x4_1).toNat * 9)).block, (ad622.add ((x4_1).toNat * 9)).off + 8, none⟩ = some (.slice A622_8 ((rd_T95 l0_7 x4_1).f1.f7).length c622_8)) (ds := []) #[ff,ff,ff,ff,ff,ff,ff,ff,ff,ff,ff,ff,ff,ff,ff,ff,ff,ff] (by kernel_rfl) rfl rfl ⟨(blk_cell BK621.out 0).trans rfl, (blk_cell BK621.out 1).trans rfl, (blk_cell BK621.out 2).trans rfl, (blk_cell BK621.out 3).trans rfl, (blk_cell BK621.out 4).trans rfl, (blk_cell BK621.out 5).trans rfl, (blk_cell BK621.out 6).trans rfl, (blk_cell BK621.out 7).trans rfl, ((HB.out.cell (World.block_lt_of_cell? w _ hw622_0)).trans hw622_0), ((HB.out.cell (World.block_lt_of_cell? w _ hw622_1)).trans hw622_1), ((HB.out.cell (World.block_lt_of_cell? w _ hw622_2)).trans hw622_2), ((HB.out.cell (World.block_lt_of_cell? w _ hw622_3)).trans hw622_3), ((HB.out.cell (World.block_lt_of_cell? w _ hw622_4)).trans hw622_4), ((HB.out.cell (World.block_lt_of_cell? w _ hw622_5)).trans hw622_5), ((HB.out.cell (World.block_lt_of_cell? w _ hw622_6)).trans hw622_6), ((HB.out.cell (World.block_lt_of_cell? w _ hw622_7)).trans hw622_7), ((HB.out.cell (World.block_lt_of_cell? w _ hw622_8)).trans hw622_8), ((HB.out.cell (World.block_lt_of_cell? w _ hw623_0)).trans hw623_0), ((HB.out.cell (World.block_lt_of_cell? w _ hw623_1)).trans hw623_1), ((HB.out.cell (World.block_lt_of_cell? w _ hw623_2)).trans hw623_2), ((HB.out.cell (World.block_lt_of_cell? w _ hw623_3)).trans hw623_3), ((HB.out.cell (World.block_lt_of_cell? w _ hw623_4)).trans hw623_4), ((HB.out.cell (World.block_lt_of_cell? w _ hw623_5)).trans hw623_5), ((HB.out.cell (World.block_lt_of_cell? w _ hw623_6)).trans hw623_6), ((HB.out.cell (World.block_lt_of_cell? w _ hw623_7)).trans hw623_7), ((HB.out.cell (World.block_lt_of_cell? w _ hw623_8)).trans hw623_8)⟩ (fun hHeld => ?_); refine with_tabW laws_docBytes.tab5 laws_docBytes.bits5 (fun HT_ HW_ => ?_)
        generalize wr.drew = w8 at BK621 HB HR622_7 HR622_8 HR623_7 HR623_8 hx622_0 hx622_1 hx622_2 hx622_3 hx622_4 hx622_5 hx622_6 hx622_7 hx622_8 hx623_0 hx623_1 hx623_2 hx623_3 hx623_4 hx623_5 hx623_6 hx623_7 hx623_8 hHeld ⊢
        refine HW.pz (i := 0) (N := some 23) #[tt,ff,ff,ff,ff,ff,ff,ff,ff,ff,ff,ff,ff,ff,ff,ff,ff,ff] ?_ (hc := any_of HT_.out (by kernel_rfl))
        refine HW.pz (i := 1) (N := some 24) #[tt,tt,ff,ff,ff,ff,ff,ff,ff,ff,ff,ff,ff,ff,ff,ff,ff,ff] ?_ (hc := any_of HT_.out (by kernel_rfl))
        refine HW.pz (i := 3) (N := some 26) #[tt,tt,ff,tt,ff,ff,ff,ff,ff,ff,ff,ff,ff,ff,ff,ff,ff,ff] ?_ (hc := any_of HT_.out (by kernel_rfl))
        refine HW.pz (i := 9) (N := some 32) #[tt,tt,ff,tt,ff,ff,ff,ff,ff,tt,ff,ff,ff,ff,ff,ff,ff,ff] ?_ (hc := any_of HT_.out (by kernel_rfl))
        refine HW.pz (i := 11) (N := some 34) #[tt,tt,ff,tt,ff,ff,ff,ff,ff,tt,ff,tt,ff,ff,ff,ff,ff,ff] ?_ (hc := any_of HT_.out (by kernel_rfl))
        refine take_ (i := 2) (N := some 25) (v := ?_) (a' := ?_) #[tt,tt,tt,tt,ff,ff,ff,ff,ff,tt,ff,tt,ff,ff,ff,ff,ff,ff] rfl rfl (take_ofW HT_.out HW_.out (by kernel_rfl)) (fun _ _ _ h => h) (Or.inl ⟨by rfl, ?_⟩) hHeld ?_ ?_
        rotate_left
        · rintro w' ⟨s0, s1, s2, s3, s4, s5, s6, s7, s8, s9, s10, s11, s12, s13, s14, s15, s16, s17, s18, s19, s20, s21, s22, s23, s24, s25⟩
          go_simp
          with_reducible rfl
        rotate_left
        · exact HW.pt
        refine HW.pz (i := 4) (N := some 27) #[tt,tt,tt,tt,tt,ff,ff,ff,ff,tt,ff,tt,ff,ff,ff,ff,ff,ff] ?_ (hc := any_of HT_.out (by kernel_rfl))
        refine HW.pz (i := 5) (N := some 28) #[tt,tt,tt,tt,tt,tt,ff,ff,ff,tt,ff,tt,ff,ff,ff,ff,ff,ff] ?_ (hc := any_of HT_.out (by kernel_rfl))
        refine take_ (i := 6) (N := some 29) (v := ?_) (a' := ?_) #[tt,tt,tt,tt,tt,tt,tt,ff,ff,tt,ff,tt,ff,ff,ff,ff,ff,ff] rfl rfl (take_ofW HT_.out HW_.out (by kernel_rfl)) (fun _ _ _ h => h) (Or.inl ⟨by rfl, ?_⟩) hHeld ?_ ?_
        rotate_left
        · rintro w' ⟨s0, s1, s2, s3, s4, s5, s6, s7, s8, s9, s10, s11, s12, s13, s14, s15, s16, s17, s18, s19, s20, s21, s22, s23, s24, s25⟩
          go_simp
          with_reducible rfl
        rotate_left
        · exact HW.pt
        refine HW.pz (i := 7) (N := some 30) #[tt,tt,tt,tt,tt,tt,tt,tt,ff,tt,ff,tt,ff,ff,ff,ff,ff,ff] ?_ (hc := any_of HT_.out (by kernel_rfl))
        refine HW.pz (i := 8) (N := some 31) #[tt,tt,tt,tt,tt,tt,tt,tt,tt,tt,ff,tt,ff,ff,ff,ff,ff,ff] ?_ (hc := any_of HT_.out (by kernel_rfl))
        refine take_ (i := 10) (N := some 33) (v := ?_) (a' := ?_) #[tt,tt,tt,tt,tt,tt,tt,tt,tt,tt,tt,tt,ff,ff,ff,ff,ff,ff] rfl rfl (take_ofW HT_.out HW_.out (by kernel_rfl)) (fun _ _ _ h => h) (Or.inl ⟨by rfl, ?_⟩) hHeld ?_ ?_
        rotate_left
        · rintro w' ⟨s0, s1, s2, s3, s4, s5, s6, s7, s8, s9, s10, s11, s12, s13, s14, s15, s16, s17, s18, s19, s20, s21, s22, s23, s24, s25⟩
          go_simp
          with_reducible rfl
        rotate_left
        · exact HW.pt
        refine HW.pz (i := 12) (N := some 35) #[tt,tt,tt,tt,tt,tt,tt,tt,tt,tt,tt,tt,tt,ff,ff,ff,ff,ff] ?_ (hc := any_of HT_.out (by kernel_rfl))
        refine HW.pz (i := 13) (N := some 36) #[tt,tt,tt,tt,tt,tt,tt,tt,tt,tt,tt,tt,tt,tt,ff,ff,ff,ff] ?_ (hc := any_of HT_.out (by kernel_rfl))
        refine take_ (i := 14) (N := some 37) (v := ?_) (a' := ?_) #[tt,tt,tt,tt,tt,tt,tt,tt,tt,tt,tt,tt,tt,tt,tt,ff,ff,ff] rfl rfl (take_ofW HT_.out HW_.out (by kernel_rfl)) (fun _ _ _ h => h) (Or.inl ⟨by rfl, ?_⟩) hHeld ?_ ?_
        rotate_left
        · rintro w' ⟨s0, s1, s2, s3, s4, s5, s6, s7, s8, s9, s10, s11, s12, s13, s14, s15, s16, s17, s18, s19, s20, s21, s22, s23, s24, s25⟩
          go_simp
          with_reducible rfl
        rotate_left
        · exact HW.pt
        refine one_ (i := 15) (N := some 38) #[tt,tt,tt,tt,tt,tt,tt,tt,tt,tt,tt,tt,tt,tt,tt,tt,ff,ff] rfl rfl (one_of HT_.out (by kernel_rfl)) (by decide) (fun K hK => ?_)
        refine goes_ Tryz.func67 (by kernel_rfl) rfl #[.agg #[.int .i64 ((rd_T95 l0_7 x4_1).f1.f0), .string ((rd_T95 l0_7 x4_1).f1.f1), .string ((rd_T95 l0_7 x4_1).f1.f2), .int .i64 ((rd_T95 l0_7 x4_1).f1.f3), .int .u64 ((rd_T95 l0_7 x4_1).f1.f4), .int .u64 ((rd_T95 l0_7 x4_1).f1.f5), .slice A622_7 ((rd_T95 l0_7 x4_1).f1.f6).length c622_7, .slice A622_8 ((rd_T95 l0_7 x4_1).f1.f7).length c622_8]] (by rfl) rfl rfl HW.mt ?_
        with_reducible refine (ih k1 (by have := HK1.out; omega) ((rd_T95 l0_7 x4_1).f1.f0) ((rd_T95 l0_7 x4_1).f1.f1) ((rd_T95 l0_7 x4_1).f1.f2) ((rd_T95 l0_7 x4_1).f1.f3) ((rd_T95 l0_7 x4_1).f1.f4) ((rd_T95 l0_7 x4_1).f1.f5) _ _ ((rd_T95 l0_7 x4_1).f1.f6) _ _ ((rd_T95 l0_7 x4_1).f1.f7) t624 _ ?side1 ?side2 ?side3 ?side4 A6.out).mono ?_
        (case side1 => repeat (first | exact (Kd.C_below HR623_7.out HB.out) | (with_reducible refine Kd.C_alloc ?_ _) | (with_reducible refine Kd.C_drewN ?_ _) | (with_reducible refine Kd.C_drew ?_)))
        (case side2 => exact HC623_7.out)
        (case side3 => repeat (first | exact (Kd.C_below HR623_8.out HB.out) | (with_reducible refine Kd.C_alloc ?_ _) | (with_reducible refine Kd.C_drewN ?_ _) | (with_reducible refine Kd.C_drew ?_)))
        (case side4 => exact HC623_8.out)
        rintro e w9 ⟨rfl, hb⟩
        refine ⟨_, rfl, ?_⟩
        replace BK621 := Aside0.mk (blk_below (HW.zB BK621.out) hb); replace HB := Aside0.mk (below_step HW.zb hb)
        (try clear hb)
        (try clear hk)
        refine hK.out _ _ ⟨(blk_cell BK621.out 0).trans rfl, (blk_cell BK621.out 1).trans rfl, (blk_cell BK621.out 2).trans rfl, (blk_cell BK621.out 3).trans rfl, (blk_cell BK621.out 4).trans rfl, (blk_cell BK621.out 5).trans rfl, (blk_cell BK621.out 6).trans rfl, (blk_cell BK621.out 7).trans rfl, ((HB.out.cell (World.block_lt_of_cell? w _ hw622_0)).trans hw622_0), ((HB.out.cell (World.block_lt_of_cell? w _ hw622_1)).trans hw622_1), ((HB.out.cell (World.block_lt_of_cell? w _ hw622_2)).trans hw622_2), ((HB.out.cell (World.block_lt_of_cell? w _ hw622_3)).trans hw622_3), ((HB.out.cell (World.block_lt_of_cell? w _ hw622_4)).trans hw622_4), ((HB.out.cell (World.block_lt_of_cell? w _ hw622_5)).trans hw622_5), ((HB.out.cell (World.block_lt_of_cell? w _ hw622_6)).trans hw622_6), ((HB.out.cell (World.block_lt_of_cell? w _ hw622_7)).trans hw622_7), ((HB.out.cell (World.block_lt_of_cell? w _ hw622_8)).trans hw622_8), ((HB.out.cell (World.block_lt_of_cell? w _ hw623_0)).trans hw623_0), ((HB.out.cell (World.block_lt_of_cell? w _ hw623_1)).trans hw623_1), ((HB.out.cell (World.block_lt_of_cell? w _ hw623_2)).trans hw623_2), ((HB.out.cell (World.block_lt_of_cell? w _ hw623_3)).trans hw623_3), ((HB.out.cell (World.block_lt_of_cell? w _ hw623_4)).trans hw623_4), ((HB.out.cell (World.block_lt_of_cell? w _ hw623_5)).trans hw623_5), ((HB.out.cell (World.block_lt_of_cell? w _ hw623_6)).trans hw623_6), ((HB.out.cell (World.block_lt_of_cell? w _ hw623_7)).trans hw623_7), ((HB.out.cell (World.block_lt_of_cell? w _ hw623_8)).trans hw623_8)⟩ (fun hHeld => ?_)
        clear hK K
        refine HW.nz (N := (some 38)) ?_
        refine HW.pz (i := 16) (N := some 39) #[tt,tt,tt,tt,tt,tt,tt,tt,tt,tt,tt,tt,tt,tt,tt,tt,tt,ff] ?_ (hc := any_of HT_.out (by kernel_rfl))
        refine HW.pz (i := 17) (N := some 3) #[tt,tt,tt,tt,tt,tt,tt,tt,tt,tt,tt,tt,tt,tt,tt,tt,tt,tt] ?_ (hc := any_of HT_.out (by kernel_rfl))
        refine done_ (done_of HT_.out (by kernel_rfl)) ?_
        try go_wp2
        go_roundg k1
        case measure => have := HK1.out; omega
        case rel => exact ⟨(wrap64 ((wrap64 (x3_1 + (((rd_T95 l0_7 x4_1).f0).size : Int))) + t624)), (wrap64 (x4_1 + 1)), (by first | rfl | (simp; done) | (simp [*]; done)), HW.rs, H', ⟨by have := HK1.out; omega⟩, ⟨by (with_reducible repeat (first | refine blk_drewN ?_ _ | refine blk_drew ?_ | refine blk_alloc ?_ _)); exact BK621.out⟩, ⟨HW.zb⟩⟩
def laws_docFine.f (k : Nat) (a0_0 : Int) (a0_1 : ByteArray) (a0_2 : ByteArray) (a0_3 : Int) (a0_4 : Int) (a0_5 : Int) (l0_6 : List Int) (l0_7 : List (S95)) : Option (Bool) := (laws_docCount.f k a0_0 a0_1 a0_2 a0_3 a0_4 a0_5 l0_6 l0_7 300).bind fun t626 => (if t626 ≤ 300 then ((spec_DocRight.f a0_0 a0_1 a0_2 a0_3 a0_4 a0_5 l0_6 l0_7).bind fun t627 => (if t627 = true then ((laws_docBytes.f k a0_0 a0_1 a0_2 a0_3 a0_4 a0_5 l0_6 l0_7).bind fun t628 => (some (decide (t628 ≤ 5000)))) else (some false))) else (some false))
theorem laws_docFine.mono : ∀ a0 a1 a2 a3 a4 a5 a6 a7 k, LeO (laws_docFine.f k a0 a1 a2 a3 a4 a5 a6 a7) (laws_docFine.f (k + 1) a0 a1 a2 a3 a4 a5 a6 a7) := by
  intro a0 a1 a2 a3 a4 a5 a6 a7 k
  unfold laws_docFine.f
  have m0_ := @laws_docBytes.mono; have m1_ := @laws_docCount.mono; exact HW.mo
theorem laws_docFine.calls (k : Nat) (a0_0 : Int) (a0_1 : ByteArray) (a0_2 : ByteArray) (a0_3 : Int) (a0_4 : Int) (a0_5 : Int) (A0_6 : Option Addr) (c0_6 : Nat) (l0_6 : List Int) (A0_7 : Option Addr) (c0_7 : Nat) (l0_7 : List (S95)) (r : Bool) (w : World) (hr0_6 : Kd.C (Kd.int .u8) w A0_6 l0_6.length l0_6) (hc0_6 : l0_6.length ≤ c0_6) (hr0_7 : Kd.C k95 w A0_7 l0_7.length l0_7) (hc0_7 : l0_7.length ≤ c0_7) (h : laws_docFine.f k a0_0 a0_1 a0_2 a0_3 a0_4 a0_5 l0_6 l0_7 = some r) :
    Calls Tryz.prog 32 #[.agg #[.int .i64 a0_0, .string a0_1, .string a0_2, .int .i64 a0_3, .int .u64 a0_4, .int .u64 a0_5, .slice A0_6 l0_6.length c0_6, .slice A0_7 l0_7.length c0_7]] w fun e w' => e = .returned (.bool r) ∧ Below w.heap.size w w' := by
  have hu44 := Tryz.underlying44; have HR0_6 := Aside0.mk hr0_6; have HC0_6 := Aside0.mk hc0_6; clear hr0_6 hc0_6; have HR0_7 := Aside0.mk hr0_7; have HC0_7 := Aside0.mk hc0_7; clear hr0_7 hc0_7; have HB := Aside0.mk (Below.refl w.heap.size w); have H : ((laws_docCount.f k a0_0 a0_1 a0_2 a0_3 a0_4 a0_5 l0_6 l0_7 300).bind fun t626 => (if t626 ≤ 300 then ((spec_DocRight.f a0_0 a0_1 a0_2 a0_3 a0_4 a0_5 l0_6 l0_7).bind fun t627 => (if t627 = true then ((laws_docBytes.f k a0_0 a0_1 a0_2 a0_3 a0_4 a0_5 l0_6 l0_7).bind fun t628 => (some (decide (t628 ≤ 5000)))) else (some false))) else (some false))) = some r := h; clear h; replace H := Option.bind_eq_some_iff.mp H; obtain ⟨t626, A20, H⟩ := H; replace H : (if t626 ≤ 300 then ((spec_DocRight.f a0_0 a0_1 a0_2 a0_3 a0_4 a0_5 l0_6 l0_7).bind fun t627 => (if t627 = true then ((laws_docBytes.f k a0_0 a0_1 a0_2 a0_3 a0_4 a0_5 l0_6 l0_7).bind fun t628 => (some (decide (t628 ≤ 5000)))) else (some false))) else (some false)) = some r := H; have A2 := Aside0.mk A20; clear A20
  by_cases c3 : t626 ≤ 300
  rotate_left
  · rw [if_neg c3] at H
    have c3b0 : decide (t626 ≤ 300) = false := decide_eq_false c3; clear c3
    as_aux_lemma =>
      obtain rfl := Option.some.inj H
      go_enter Tryz.func32, Tryz.ntmps32
      go_wp2_with (first | ((with_reducible refine gate_dst (N := 1) rfl ?_); refine box_event ?hg (N := 1) ?hd (cs := #[.int .i64 a0_0, .string a0_1, .string a0_2, .int .i64 a0_3, .int .u64 a0_4, .int .u64 a0_5, .slice A0_6 l0_6.length c0_6, .slice A0_7 l0_7.length c0_7]) (t := 44) ?hr ?_; (case hd => rfl); (case hg => rfl); (case hr => first | (go_simp; done) | (go_simp; rfl)); intro gb625 hg w19 hbox hb; have n0_ := Aside0.mk (below_step HW.zb hb); have n1_ := Aside0.mk (hbox); have n3_ := Aside0.mk ((by rw [hg]; exact (below_size HW.zb) : w.heap.size ≤ gb625)); clear HB; have HB := n0_; have BK625 := n1_; have GE625 := n3_; clear n0_ n1_ n3_; clear hb hbox hg; obtain ⟨hcz20_0, hcz20_1, hcz20_2, hcz20_3, hcz20_4, hcz20_5, hcz20_6, hcz20_7⟩ := HW.k8 BK625.out) | ((with_reducible refine gate_callee (f := 65) rfl ?_); refine HW.gz (some 4) rfl rfl Tryz.func65 (by kernel_rfl) rfl #[.agg #[.int .i64 a0_0, .string a0_1, .string a0_2, .int .i64 a0_3, .int .u64 a0_4, .int .u64 a0_5, .slice A0_6 l0_6.length c0_6, .slice A0_7 l0_7.length c0_7], .int .i64 300] rfl ?_; (with_reducible refine (laws_docCount.calls k a0_0 a0_1 a0_2 a0_3 a0_4 a0_5 _ _ l0_6 _ _ l0_7 300 t626 _ ?side1 ?side2 ?side3 ?side4 A2.out).mono ?_); (case side1 => repeat (first | exact (Kd.C_below HR0_6.out HB.out) | (with_reducible refine Kd.C_alloc ?_ _) | (with_reducible refine Kd.C_drewN ?_ _) | (with_reducible refine Kd.C_drew ?_))); (case side2 => exact HC0_6.out); (case side3 => repeat (first | exact (Kd.C_below HR0_7.out HB.out) | (with_reducible refine Kd.C_alloc ?_ _) | (with_reducible refine Kd.C_drewN ?_ _) | (with_reducible refine Kd.C_drew ?_))); (case side4 => exact HC0_7.out); rintro e w21 ⟨rfl, hb⟩; refine ⟨_, rfl, ?_⟩; replace BK625 := Aside0.mk (blk_below (HW.zB BK625.out) hb); replace HB := Aside0.mk (below_step HW.zb hb); (try clear hb)))
      go_ret
      exact ⟨rfl, HW.zb⟩
  rw [if_pos c3] at H; have c3b0 : decide (t626 ≤ 300) = true := decide_eq_true c3; clear c3; replace H := Option.bind_eq_some_iff.mp H; obtain ⟨t627, A40, H⟩ := H; replace H : (if t627 = true then ((laws_docBytes.f k a0_0 a0_1 a0_2 a0_3 a0_4 a0_5 l0_6 l0_7).bind fun t628 => (some (decide (t628 ≤ 5000)))) else (some false)) = some r := H; have A4 := Aside0.mk A40; clear A40
  by_cases c5 : t627 = true
  rotate_left
  · replace c5 := Bool.eq_false_iff.mpr c5
    subst c5
    have H1 : (some false) = some r := by rw [if_neg (show ¬ (false = true) by decide)] at H; exact H
    clear H; have H := H1; clear H1
    as_aux_lemma =>
      obtain rfl := Option.some.inj H
      go_enter Tryz.func32, Tryz.ntmps32
      go_wp2_with (first | ((with_reducible refine gate_dst (N := 1) rfl ?_); refine box_event ?hg (N := 1) ?hd (cs := #[.int .i64 a0_0, .string a0_1, .string a0_2, .int .i64 a0_3, .int .u64 a0_4, .int .u64 a0_5, .slice A0_6 l0_6.length c0_6, .slice A0_7 l0_7.length c0_7]) (t := 44) ?hr ?_; (case hd => rfl); (case hg => rfl); (case hr => first | (go_simp; done) | (go_simp; rfl)); intro gb625 hg w14 hbox hb; have n0_ := Aside0.mk (below_step HW.zb hb); have n1_ := Aside0.mk (hbox); have n3_ := Aside0.mk ((by rw [hg]; exact (below_size HW.zb) : w.heap.size ≤ gb625)); clear HB; have HB := n0_; have BK625 := n1_; have GE625 := n3_; clear n0_ n1_ n3_; clear hb hbox hg; obtain ⟨hcz15_0, hcz15_1, hcz15_2, hcz15_3, hcz15_4, hcz15_5, hcz15_6, hcz15_7⟩ := HW.k8 BK625.out) | ((with_reducible refine gate_callee (f := 65) rfl ?_); refine HW.gz (some 4) rfl rfl Tryz.func65 (by kernel_rfl) rfl #[.agg #[.int .i64 a0_0, .string a0_1, .string a0_2, .int .i64 a0_3, .int .u64 a0_4, .int .u64 a0_5, .slice A0_6 l0_6.length c0_6, .slice A0_7 l0_7.length c0_7], .int .i64 300] rfl ?_; (with_reducible refine (laws_docCount.calls k a0_0 a0_1 a0_2 a0_3 a0_4 a0_5 _ _ l0_6 _ _ l0_7 300 t626 _ ?side1 ?side2 ?side3 ?side4 A2.out).mono ?_); (case side1 => repeat (first | exact (Kd.C_below HR0_6.out HB.out) | (with_reducible refine Kd.C_alloc ?_ _) | (with_reducible refine Kd.C_drewN ?_ _) | (with_reducible refine Kd.C_drew ?_))); (case side2 => exact HC0_6.out); (case side3 => repeat (first | exact (Kd.C_below HR0_7.out HB.out) | (with_reducible refine Kd.C_alloc ?_ _) | (with_reducible refine Kd.C_drewN ?_ _) | (with_reducible refine Kd.C_drew ?_))); (case side4 => exact HC0_7.out); rintro e w16 ⟨rfl, hb⟩; refine ⟨_, rfl, ?_⟩; replace BK625 := Aside0.mk (blk_below (HW.zB BK625.out) hb); replace HB := Aside0.mk (below_step HW.zb hb); (try clear hb); obtain ⟨hcz17_0, hcz17_1, hcz17_2, hcz17_3, hcz17_4, hcz17_5, hcz17_6, hcz17_7⟩ := HW.k8 BK625.out) | (go_at_call 66; (with_reducible refine (spec_DocRight.calls a0_0 a0_1 a0_2 a0_3 a0_4 a0_5 _ _ l0_6 _ _ l0_7 false _ ?side1 ?side2 ?side3 ?side4 A4.out).mono ?_); (case side1 => repeat (first | exact (Kd.C_below HR0_6.out HB.out) | (with_reducible refine Kd.C_alloc ?_ _) | (with_reducible refine Kd.C_drewN ?_ _) | (with_reducible refine Kd.C_drew ?_))); (case side2 => exact HC0_6.out); (case side3 => repeat (first | exact (Kd.C_below HR0_7.out HB.out) | (with_reducible refine Kd.C_alloc ?_ _) | (with_reducible refine Kd.C_drewN ?_ _) | (with_reducible refine Kd.C_drew ?_))); (case side4 => exact HC0_7.out); rintro e w18 ⟨rfl, hb⟩; replace BK625 := Aside0.mk (blk_below (HW.zB BK625.out) hb); replace HB := Aside0.mk (below_step HW.zb hb); (try clear hb)))
      go_ret
      exact ⟨rfl, HW.zb⟩
  subst c5
  have H1 : ((laws_docBytes.f k a0_0 a0_1 a0_2 a0_3 a0_4 a0_5 l0_6 l0_7).bind fun t628 => (some (decide (t628 ≤ 5000)))) = some r := by rw [if_pos rfl] at H; exact H
  clear H; have H := H1; clear H1; replace H := Option.bind_eq_some_iff.mp H; obtain ⟨t628, A60, H⟩ := H; replace H : (some (decide (t628 ≤ 5000))) = some r := H; have A6 := Aside0.mk A60; clear A60
  as_aux_lemma =>
    obtain rfl := Option.some.inj H
    go_enter Tryz.func32, Tryz.ntmps32
    go_wp2_with (first | ((with_reducible refine gate_dst (N := 1) rfl ?_); refine box_event ?hg (N := 1) ?hd (cs := #[.int .i64 a0_0, .string a0_1, .string a0_2, .int .i64 a0_3, .int .u64 a0_4, .int .u64 a0_5, .slice A0_6 l0_6.length c0_6, .slice A0_7 l0_7.length c0_7]) (t := 44) ?hr ?_; (case hd => rfl); (case hg => rfl); (case hr => first | (go_simp; done) | (go_simp; rfl)); intro gb625 hg w7 hbox hb; have n0_ := Aside0.mk (below_step HW.zb hb); have n1_ := Aside0.mk (hbox); have n3_ := Aside0.mk ((by rw [hg]; exact (below_size HW.zb) : w.heap.size ≤ gb625)); clear HB; have HB := n0_; have BK625 := n1_; have GE625 := n3_; clear n0_ n1_ n3_; clear hb hbox hg; obtain ⟨hcz8_0, hcz8_1, hcz8_2, hcz8_3, hcz8_4, hcz8_5, hcz8_6, hcz8_7⟩ := HW.k8 BK625.out) | ((with_reducible refine gate_callee (f := 65) rfl ?_); refine HW.gz (some 4) rfl rfl Tryz.func65 (by kernel_rfl) rfl #[.agg #[.int .i64 a0_0, .string a0_1, .string a0_2, .int .i64 a0_3, .int .u64 a0_4, .int .u64 a0_5, .slice A0_6 l0_6.length c0_6, .slice A0_7 l0_7.length c0_7], .int .i64 300] rfl ?_; (with_reducible refine (laws_docCount.calls k a0_0 a0_1 a0_2 a0_3 a0_4 a0_5 _ _ l0_6 _ _ l0_7 300 t626 _ ?side1 ?side2 ?side3 ?side4 A2.out).mono ?_); (case side1 => repeat (first | exact (Kd.C_below HR0_6.out HB.out) | (with_reducible refine Kd.C_alloc ?_ _) | (with_reducible refine Kd.C_drewN ?_ _) | (with_reducible refine Kd.C_drew ?_))); (case side2 => exact HC0_6.out); (case side3 => repeat (first | exact (Kd.C_below HR0_7.out HB.out) | (with_reducible refine Kd.C_alloc ?_ _) | (with_reducible refine Kd.C_drewN ?_ _) | (with_reducible refine Kd.C_drew ?_))); (case side4 => exact HC0_7.out); rintro e w9 ⟨rfl, hb⟩; refine ⟨_, rfl, ?_⟩; replace BK625 := Aside0.mk (blk_below (HW.zB BK625.out) hb); replace HB := Aside0.mk (below_step HW.zb hb); (try clear hb); obtain ⟨hcz10_0, hcz10_1, hcz10_2, hcz10_3, hcz10_4, hcz10_5, hcz10_6, hcz10_7⟩ := HW.k8 BK625.out) | (go_at_call 66; (with_reducible refine (spec_DocRight.calls a0_0 a0_1 a0_2 a0_3 a0_4 a0_5 _ _ l0_6 _ _ l0_7 true _ ?side1 ?side2 ?side3 ?side4 A4.out).mono ?_); (case side1 => repeat (first | exact (Kd.C_below HR0_6.out HB.out) | (with_reducible refine Kd.C_alloc ?_ _) | (with_reducible refine Kd.C_drewN ?_ _) | (with_reducible refine Kd.C_drew ?_))); (case side2 => exact HC0_6.out); (case side3 => repeat (first | exact (Kd.C_below HR0_7.out HB.out) | (with_reducible refine Kd.C_alloc ?_ _) | (with_reducible refine Kd.C_drewN ?_ _) | (with_reducible refine Kd.C_drew ?_))); (case side4 => exact HC0_7.out); rintro e w11 ⟨rfl, hb⟩; replace BK625 := Aside0.mk (blk_below (HW.zB BK625.out) hb); replace HB := Aside0.mk (below_step HW.zb hb); (try clear hb); obtain ⟨hcz12_0, hcz12_1, hcz12_2, hcz12_3, hcz12_4, hcz12_5, hcz12_6, hcz12_7⟩ := HW.k8 BK625.out) | (go_at_call 67; (with_reducible refine (laws_docBytes.calls k a0_0 a0_1 a0_2 a0_3 a0_4 a0_5 _ _ l0_6 _ _ l0_7 t628 _ ?side1 ?side2 ?side3 ?side4 A6.out).mono ?_); (case side1 => repeat (first | exact (Kd.C_below HR0_6.out HB.out) | (with_reducible refine Kd.C_alloc ?_ _) | (with_reducible refine Kd.C_drewN ?_ _) | (with_reducible refine Kd.C_drew ?_))); (case side2 => exact HC0_6.out); (case side3 => repeat (first | exact (Kd.C_below HR0_7.out HB.out) | (with_reducible refine Kd.C_alloc ?_ _) | (with_reducible refine Kd.C_drewN ?_ _) | (with_reducible refine Kd.C_drew ?_))); (case side4 => exact HC0_7.out); rintro e w13 ⟨rfl, hb⟩; have n1_ := Aside0.mk (below_step HW.zb hb); clear HB; have HB := n1_; clear n1_; (try clear hb)))
    go_ret
    exact ⟨rfl, HW.zb⟩
def spec_DocInt32.f (l0 : List Int) (a1 : Int) : Option (List Int) := (some (([(a1) % 256, (a1 / 256) % 256, (a1 / 65536) % 256, (a1 / 16777216) % 256] : List Int) : List Int)).bind fun y629 => (if l0.length + y629.length < 140737488355328 then (some (l0 ++ y629)) else (none))
theorem spec_DocInt32.calls (P0_ : Nat → Prop) (u9000_ : Value) (l0 : List Int) (a1 : Int) (r : List Int) (w0 w : World) (hB : Below w0.heap.size w0 w) (ho0 : Kd.R (Kd.int .u8) 5 w w0.heap.size P0_ u9000_ l0) (h : spec_DocInt32.f l0 a1 = some r) :
    Calls Tryz.prog 70 #[u9000_, .int .i64 a1] w fun e w' => ∃ v0_ : Value, e = .returned (v0_) ∧ Kd.R (Kd.int .u8) 5 w' w0.heap.size (fun k_ => (P0_ k_ ∨ w.heap.size ≤ k_)) v0_ r ∧ Below w0.heap.size w0 w' ∧ Kept w w' (fun k_ => P0_ k_) := by
  have HO0 := Aside0.mk (show Kd.R (Kd.int .u8) 5 w w0.heap.size (fun k_ => (P0_ k_ ∨ w.heap.size ≤ k_)) u9000_ l0 from Kd.R_mono ho0 (fun k_ hk => (.inl hk))); have HK := Aside0.mk (Kept.refl w (fun k_ => P0_ k_)); have HW0 := Aside0.mk hB.size; have HB := Aside0.mk hB; clear hB; have H : ((some (([(a1) % 256, (a1 / 256) % 256, (a1 / 65536) % 256, (a1 / 16777216) % 256] : List Int) : List Int)).bind fun y629 => (if l0.length + y629.length < 140737488355328 then (some (l0 ++ y629)) else (none))) = some r := h; clear h; obtain ⟨y629, hy629⟩ : ∃ y_ : List Int, y_ = (([(a1) % 256, (a1 / 256) % 256, (a1 / 65536) % 256, (a1 / 16777216) % 256] : List Int)) := ⟨_, rfl⟩
  replace H : (if l0.length + y629.length < 140737488355328 then (some (l0 ++ y629)) else (none)) = some r := by (try rw [hy629]); exact HW.rp
  have Ny629 := Aside0.mk hy629; clear hy629
  by_cases c3 : l0.length + y629.length < 140737488355328
  rotate_left
  · rw [if_neg c3] at H
    exact absurd H (by simp)
  rw [if_pos c3] at H; have LMc3 := Aside0.mk c3; clear c3; obtain ⟨y632, hy632⟩ : ∃ y_ : List Int, y_ = (l0 ++ y629) := ⟨_, rfl⟩
  replace H : (some y632) = some r := by (try rw [hy632]); exact HW.rp
  have Ny632 := Aside0.mk hy632; clear hy632
  as_aux_lemma =>
    obtain rfl := Option.some.inj H
    go_enter Tryz.func70, Tryz.ntmps70
    go_wp2_with (first | ((with_reducible refine gate_dst (N := 17) rfl ?_); refine Kd.R_lit (Kd.int .u8) _ 5 ?hg (N := 17) ?hd (xs := ([(a1) % 256, (a1 / 256) % 256, (a1 / 65536) % 256, (a1 / 16777216) % 256] : List Int)) (inner := [.int .u8 ((a1) % 256), .int .u8 ((a1 / 256) % 256), .int .u8 ((a1 / 65536) % 256), .int .u8 ((a1 / 16777216) % 256)]) (ok := fun _ => True) (okp := fun _ => True) ?hr ?hp (fun _ hk => hk) trivial (Below.refl _ _) (Nat.le_refl _) (by simp) ?_; (case hd => rfl); (case hg => rfl); (case hr => first | (go_simp; done) | (go_simp; rfl)); (case hp => exact (Reps.one (show Kd.M (Kd.int .u8) _ _ _ ((a1) % 256) [.int .u8 ((a1) % 256)] from rfl) (Reps.one (show Kd.M (Kd.int .u8) _ _ _ ((a1 / 256) % 256) [.int .u8 ((a1 / 256) % 256)] from rfl) (Reps.one (show Kd.M (Kd.int .u8) _ _ _ ((a1 / 65536) % 256) [.int .u8 ((a1 / 65536) % 256)] from rfl) (Reps.one (show Kd.M (Kd.int .u8) _ _ _ ((a1 / 16777216) % 256) [.int .u8 ((a1 / 16777216) % 256)] from rfl) (Reps.none _ _)))))); intro v630 w4 ho5 hb hg_ hnew_; clear hg_ hnew_; (first | rw [← Ny629.out] at ho5 | (simp only [Int.reduceToNat] at ho5; rw [← Ny629.out] at ho5)); have HO631 := Aside0.mk (Kd.R_lower (Kd.R_new' (Kd.R_newM (M := fun k_ => (P0_ k_ ∨ w.heap.size ≤ k_)) ho5 (HW.zk1 (w := w) (fun k_ => P0_ k_)) (fun k_ h_ => .inr h_)) (Kd.R_lt (HW.zR HO0.out))) (below_size HW.zb)); replace HO0 := Aside0.mk (Kd.R_elder' (HW.zR HO0.out) (Kd.R_base ho5) hb); replace HK := Aside0.mk (Kept.below (S := (fun k_ => P0_ k_)) HW.zk hb); replace HB := Aside0.mk (below_step HW.zb hb); clear hb ho5; obtain ⟨Ao7, co7, eo7⟩ := Kd.R_slice HO631.out; subst eo7) | ((with_reducible refine gate_builtin (b := .append) (xs := #[.tmp 5, .tmp 17]) rfl ?_); at_builtin; refine Kd.R_append_rows (Kd.int .u8) (w0 := w0) w0.heap.size rfl (.tmp 5) (.tmp 17) 22 5 (.int .u8 0) 1 rfl Tryz.underlying22 info5 rfl (by decide) (by omega) u9000_ l0 y629 _ _ _ (fun k_ => (P0_ k_ ∨ w.heap.size ≤ k_) ∧ some k_ ≠ (.slice Ao7 y629.length co7 : Value).ownBlock) (fun _ => False) rfl rfl ?aO ?aR (fun _ _ h => h) (fun _ h => h.elim) ?aF ?aB ?aS ?aL ?_; (case aR => repeat (first | exact (Kd.R_reads' HO631.out).2.2 | (with_reducible refine Kd.C_alloc ?_ _) | (with_reducible refine Kd.C_drewN ?_ _) | (with_reducible refine Kd.C_drew ?_))); (case aB => exact HW.zb); (case aF => exact (fun k_ hk => ⟨(.inr (Nat.le_trans (HW.zk1 (w := w) (fun k_ => P0_ k_)) hk)), Kd.fresh' (Kd.R_lt (HW.zR HO631.out)) k_ hk⟩)); (case aO => exact (HW.zR HO0.out)); (case aS => exact (below_size HW.zb)); (case aL => have := LMc3.out; omega); intro v633 w6 ho hb hg hat; rw [← Ny632.out] at ho; have n1_ := Aside0.mk (hb); have n2_ := Aside0.mk (Kept.of_grown (S := (fun k_ => P0_ k_)) hg HW.zk (fun k_ e_ => (HO0.out.1 k_ e_).1)); have n3_ := Aside0.mk (ho); clear HB; clear HK; clear HO0; have HB := n1_; have HK := n2_; have HO634 := n3_; clear n1_ n2_ n3_; clear ho hb hg hat))
    go_ret
    exact ⟨_, rfl, by (with_reducible repeat (first | apply Kd.R_alloc | apply Kd.R_drewN | apply Kd.R_drew)); exact Kd.R_mono HO634.out (fun _ hk => hk.1), HW.zb, HW.zk⟩
def spec_DocHead.f (a0 : Int) (a1 : ByteArray) : Option (List Int) := (some (([(a0) % 256] : List Int) : List Int)).bind fun y635 => (if y635.length + a1.size < 140737488355328 then ((some (y635 ++ bytesOf a1 : List Int)).bind fun y638 => (if y638.length < 140737488355328 then (some (y638 ++ [0])) else (none))) else (none))
theorem spec_DocHead.calls (a0 : Int) (a1 : ByteArray) (r : List Int) (w : World) (h : spec_DocHead.f a0 a1 = some r) :
    Calls Tryz.prog 37 #[.int .i64 a0, .string a1] w fun e w' => ∃ v0_ : Value, e = .returned (v0_) ∧ Kd.R (Kd.int .u8) 5 w' w.heap.size (fun _ => True) v0_ r ∧ Below w.heap.size w w' := by
  have HB := Aside0.mk (Below.refl w.heap.size w); have H : ((some (([(a0) % 256] : List Int) : List Int)).bind fun y635 => (if y635.length + a1.size < 140737488355328 then ((some (y635 ++ bytesOf a1 : List Int)).bind fun y638 => (if y638.length < 140737488355328 then (some (y638 ++ [0])) else (none))) else (none))) = some r := h; clear h; obtain ⟨y635, hy635⟩ : ∃ y_ : List Int, y_ = (([(a0) % 256] : List Int)) := ⟨_, rfl⟩
  replace H : (if y635.length + a1.size < 140737488355328 then ((some (y635 ++ bytesOf a1 : List Int)).bind fun y638 => (if y638.length < 140737488355328 then (some (y638 ++ [0])) else (none))) else (none)) = some r := by (try rw [hy635]); exact HW.rp
  have Ny635 := Aside0.mk hy635; clear hy635
  by_cases c3 : y635.length + a1.size < 140737488355328
  rotate_left
  · rw [if_neg c3] at H
    exact absurd H (by simp)
  rw [if_pos c3] at H; have LMc3 := Aside0.mk c3; clear c3; obtain ⟨y638, hy638⟩ : ∃ y_ : List Int, y_ = (y635 ++ bytesOf a1) := ⟨_, rfl⟩
  replace H : (if y638.length < 140737488355328 then (some (y638 ++ [0])) else (none)) = some r := by (try rw [hy638]); exact HW.rp
  have Ny638 := Aside0.mk hy638; clear hy638
  by_cases c4 : y638.length < 140737488355328
  rotate_left
  · rw [if_neg c4] at H
    exact absurd H (by simp)
  rw [if_pos c4] at H; have LMc4 := Aside0.mk c4; clear c4; obtain ⟨y641, hy641⟩ : ∃ y_ : List Int, y_ = (y638 ++ [0]) := ⟨_, rfl⟩
  replace H : (some y641) = some r := by (try rw [hy641]); exact HW.rp
  have Ny641 := Aside0.mk hy641; clear hy641
  as_aux_lemma =>
    obtain rfl := Option.some.inj H
    go_enter Tryz.func37, Tryz.ntmps37
    go_wp2_with (first | ((with_reducible refine gate_dst (N := 8) rfl ?_); refine Kd.R_lit (Kd.int .u8) _ 5 ?hg (N := 8) ?hd (xs := ([(a0) % 256] : List Int)) (inner := [.int .u8 ((a0) % 256)]) (ok := fun _ => True) (okp := fun _ => True) ?hr ?hp (fun _ hk => hk) trivial (Below.refl _ _) (Nat.le_refl _) (by simp) ?_; (case hd => rfl); (case hg => rfl); (case hr => first | (go_simp; done) | (go_simp; rfl)); (case hp => exact (Reps.one (show Kd.M (Kd.int .u8) _ _ _ ((a0) % 256) [.int .u8 ((a0) % 256)] from rfl) (Reps.none _ _))); intro v636 w5 ho6 hb hg_ hnew_; clear hg_ hnew_; (first | rw [← Ny635.out] at ho6 | (simp only [Int.reduceToNat] at ho6; rw [← Ny635.out] at ho6)); have HO637 := Aside0.mk (Kd.R_lower ho6 (below_size HW.zb)); replace HB := Aside0.mk (below_step HW.zb hb); clear hb ho6) | (at_builtin; refine HW.R_append_str (w0 := w) w.heap.size rfl (.tmp 8) _ 22 9 5 rfl Tryz.underlying22 Tryz.underlying9 info5 v636 y635 a1 (fun _ => True) rfl rfl ?aO ?aF ?aB ?aS ?aL ?_; (case aB => exact HW.zb); (case aF => exact (fun _ _ => trivial)); (case aO => exact (HW.zR HO637.out)); (case aS => exact (below_size HW.zb)); (case aL => have := LMc3.out; omega); intro v639 w7 ho hb hg hat; rw [← Ny638.out] at ho; have n0_ := Aside0.mk (hb); have n1_ := Aside0.mk (ho); clear HB; clear HO637; have HB := n0_; have HO640 := n1_; clear n0_ n1_; clear ho hb hg hat) | ((with_reducible refine gate_builtin (b := .append) (xs := #[.tmp 11, .tmp 12]) rfl ?_); at_builtin; refine Kd.R_append (Kd.int .u8) (w0 := w) w.heap.size rfl (.tmp 11) (.tmp 12) 22 5 (.int .u8 0) 1 rfl Tryz.underlying22 info5 rfl (by decide) (by omega) v639 y638 0 [.int .u8 0] (fun _ => True) (fun _ => False) rfl rfl ?aP (fun _ hk => hk.elim) ?aF ?aO ?aB ?aS ?aL ?_; (case aP => exact rfl); (case aB => exact HW.zb); (case aF => exact (fun _ _ => trivial)); (case aO => exact (HW.zR HO640.out)); (case aS => exact (below_size HW.zb)); (case aL => have := LMc4.out; omega); intro v642 w8 ho hb hg hat; rw [← Ny641.out] at ho; have n0_ := Aside0.mk (hb); have n1_ := Aside0.mk (ho); clear HB; clear HO640; have HB := n0_; have HO643 := n1_; clear n0_ n1_; clear ho hb hg hat))
    go_ret
    exact ⟨_, rfl, HW.zR HO643.out, HW.zb⟩
def spec_DocInt64.l0 : Nat → List Int → Int → Int → Option (List Int)
  | 0, _, _, _ => none
  | k + 1, x0, x1, x5 => if x5 < 64 then (if 0 ≤ x5 then (if x0.length < 140737488355328 then (spec_DocInt64.l0 k (x0 ++ [(shr .u64 x1 x5) % 256]) x1 (wrap64 (x5 + 8))) else (none)) else (none)) else (some x0)
def spec_DocInt64.f (k : Nat) (l0 : List Int) (a1 : Int) : Option (List Int) := spec_DocInt64.l0 k l0 a1 0
theorem spec_DocInt64.mono_l : ∀ k, (∀ y0 y1 y2, LeO (spec_DocInt64.l0 k y0 y1 y2) (spec_DocInt64.l0 (k + 1) y0 y1 y2))
  | 0 => fun _ _ _ r h => by simp [spec_DocInt64.l0] at h
  | k + 1 => by
    have ih0 := spec_DocInt64.mono_l k
    · intro y0 y1 y2
      unfold spec_DocInt64.l0
      have m0_ := @ih0; exact HW.mo
theorem spec_DocInt64.mono : ∀ a0 a1 k, LeO (spec_DocInt64.f k a0 a1) (spec_DocInt64.f (k + 1) a0 a1) := by
  intro a0 a1 k
  have ih0 := spec_DocInt64.mono_l k
  unfold spec_DocInt64.f
  have m0_ := @ih0; exact HW.mo
theorem spec_DocInt64.calls (k : Nat) (P0_ : Nat → Prop) (u9000_ : Value) (l0 : List Int) (a1 : Int) (r : List Int) (w0 w : World) (hB : Below w0.heap.size w0 w) (ho0 : Kd.R (Kd.int .u8) 5 w w0.heap.size P0_ u9000_ l0) (h : spec_DocInt64.f k l0 a1 = some r) :
    Calls Tryz.prog 68 #[u9000_, .int .u64 a1] w fun e w' => ∃ v0_ : Value, e = .returned (v0_) ∧ Kd.R (Kd.int .u8) 5 w' w0.heap.size (fun k_ => (P0_ k_ ∨ w.heap.size ≤ k_)) v0_ r ∧ Below w0.heap.size w0 w' ∧ Kept w w' (fun k_ => P0_ k_) := by
  have HO0 := Aside0.mk (show Kd.R (Kd.int .u8) 5 w w0.heap.size (fun k_ => (P0_ k_ ∨ w.heap.size ≤ k_)) u9000_ l0 from Kd.R_mono ho0 (fun k_ hk => (.inl hk))); have HK := Aside0.mk (Kept.refl w (fun k_ => P0_ k_)); have HW0 := Aside0.mk hB.size; have HB := Aside0.mk hB; clear hB; have H : (spec_DocInt64.l0 k l0 a1 0) = some r := h; clear h; have H' := Aside0.mk H; clear H
  go_enter Tryz.func68, Tryz.ntmps68
  go_wp2
  go_loopg [0, 5] k (fun kq v0 v5 w' => ∃ (x0_1 : List Int) (x5_1 : Int), v5 = .int .i64 x5_1 ∧ Aside0 (spec_DocInt64.l0 kq x0_1 a1 x5_1 = some r) ∧ Aside0 (kq ≤ k) ∧ Aside0 (Kd.R (Kd.int .u8) 5 w' w0.heap.size (fun k_ => (P0_ k_ ∨ w.heap.size ≤ k_)) v0 x0_1) ∧ Aside0 (Kept w w' (fun k_ => P0_ k_)) ∧ Aside0 (Below w0.heap.size w0 w'))
  case atStart => exact ⟨(l0), (0), HW.rs, H', ⟨Nat.le_refl _⟩, ⟨HW.zR HO0.out⟩, ⟨HW.zk⟩, ⟨HW.zb⟩⟩
  case round =>
    clear H'
    (try clear p2)
    obtain ⟨x0_1, x5_1, rfl, HA, HK1, HO_0, HK, HB⟩ := hrel
    cases gk with
    | zero => exact absurd HA.out (by simp [spec_DocInt64.l0])
    | succ k1 =>
      have H := HA.out; clear HA
      simp only [spec_DocInt64.l0] at H
      by_cases c3 : x5_1 < 64
      rotate_left
      · rw [if_neg c3] at H
        have c3b0 : decide (x5_1 < 64) = false := decide_eq_false c3; clear c3
        as_aux_lemma =>
          obtain rfl := Option.some.inj H
          go_wp2
          go_ret
          exact ⟨_, rfl, HW.zR HO_0.out, HW.zb, HW.zk⟩
      rw [if_pos c3] at H; have c3b0 : decide (x5_1 < 64) = true := decide_eq_true c3; clear c3
      by_cases c4 : 0 ≤ x5_1
      rotate_left
      · rw [if_neg c4] at H
        exact absurd H (by simp)
      rw [if_pos c4] at H; have c4b0 := eq_true c4; have c4b1 : decide (0 ≤ x5_1) = true := decide_eq_true c4; clear c4; obtain ⟨ji5, hji5⟩ : ∃ j_ : Int, (shr .u64 a1 x5_1) = j_ := ⟨_, rfl⟩
      replace H : (if x0_1.length < 140737488355328 then (spec_DocInt64.l0 k1 (x0_1 ++ [(ji5) % 256]) a1 (wrap64 (x5_1 + 8))) else (none)) = some r := by first | (rw [hji5] at H; exact H) | (simp only [hji5] at H ⊢; exact H)
      have hji5_ : (a1 / 2 ^ min x5_1.toNat 64) = ji5 := hji5; have hji5z : x5_1 ≤ 64 → (a1 / 2 ^ x5_1.toNat) = ji5 := shr_small hji5
      by_cases c6 : x0_1.length < 140737488355328
      rotate_left
      · rw [if_neg c6] at H
        exact absurd H (by simp)
      rw [if_pos c6] at H; have LMc6 := Aside0.mk c6; clear c6; obtain ⟨y644, hy644⟩ : ∃ y_ : List Int, y_ = (x0_1 ++ [(ji5) % 256]) := ⟨_, rfl⟩
      replace H : (spec_DocInt64.l0 k1 y644 a1 (wrap64 (x5_1 + 8))) = some r := by (try rw [hy644]); exact HW.rp
      have Ny644 := Aside0.mk hy644; clear hy644
      as_aux_lemma =>
        have H' := Aside0.mk H; clear H
        go_wp2_with (first | ((with_reducible refine gate_builtin (b := .append) (xs := #[.tmp 10, .tmp 15]) rfl ?_); at_builtin; refine Kd.R_append (Kd.int .u8) (w0 := w0) w0.heap.size rfl (.tmp 10) (.tmp 15) 22 5 (.int .u8 0) 1 rfl Tryz.underlying22 info5 rfl (by decide) (by omega) u0 x0_1 ((ji5) % 256) [.int .u8 ((ji5) % 256)] (fun k_ => (P0_ k_ ∨ w.heap.size ≤ k_)) (fun _ => False) rfl rfl ?aP (fun _ hk => hk.elim) ?aF ?aO ?aB ?aS ?aL ?_; (case aP => exact rfl); (case aB => exact HW.zb); (case aF => exact (fun k_ hk => (.inr (Nat.le_trans (HW.zk1 (w := w) (fun k_ => P0_ k_)) hk)))); (case aO => exact (HW.zR HO_0.out)); (case aS => exact (below_size HW.zb)); (case aL => have := LMc6.out; omega); intro v645 w7 ho hb hg hat; rw [← Ny644.out] at ho; have n0_ := Aside0.mk (hb); have n1_ := Aside0.mk (Kept.of_grown (S := (fun k_ => P0_ k_)) hg HW.zk (fun k_ e_ => (HO_0.out.1 k_ e_))); have n2_ := Aside0.mk (ho); clear HB; clear HK; clear HO_0; have HB := n0_; have HK := n1_; have HO646 := n2_; clear n0_ n1_ n2_; clear ho hb hg hat))
        go_roundg k1
        case measure => have := HK1.out; omega
        case rel => exact ⟨(y644), (wrap64 (x5_1 + 8)), HW.rs, H', ⟨by have := HK1.out; omega⟩, ⟨HW.zR HO646.out⟩, ⟨HW.zk⟩, ⟨HW.zb⟩⟩
def spec_docText.f (l0 : List Int) (a1 : ByteArray) : Option (List Int) := (spec_DocInt32.f l0 (wrap64 ((a1.size : Int) + 1))).bind fun t647 => (if t647.length + a1.size < 140737488355328 then ((some (t647 ++ bytesOf a1 : List Int)).bind fun y650 => (if y650.length < 140737488355328 then (some (y650 ++ [0])) else (none))) else (none))
theorem spec_docText.calls (P0_ : Nat → Prop) (u9000_ : Value) (l0 : List Int) (a1 : ByteArray) (r : List Int) (w0 w : World) (hB : Below w0.heap.size w0 w) (ho0 : Kd.R (Kd.int .u8) 5 w w0.heap.size P0_ u9000_ l0) (h : spec_docText.f l0 a1 = some r) :
    Calls Tryz.prog 69 #[u9000_, .string a1] w fun e w' => ∃ v0_ : Value, e = .returned (v0_) ∧ Kd.R (Kd.int .u8) 5 w' w0.heap.size (fun k_ => (P0_ k_ ∨ w.heap.size ≤ k_)) v0_ r ∧ Below w0.heap.size w0 w' ∧ Kept w w' (fun k_ => P0_ k_) := by
  have HO0 := Aside0.mk (show Kd.R (Kd.int .u8) 5 w w0.heap.size (fun k_ => (P0_ k_ ∨ w.heap.size ≤ k_)) u9000_ l0 from Kd.R_mono ho0 (fun k_ hk => (.inl hk))); have HK := Aside0.mk (Kept.refl w (fun k_ => P0_ k_)); have HW0 := Aside0.mk hB.size; have HB := Aside0.mk hB; clear hB; have H : ((spec_DocInt32.f l0 (wrap64 ((a1.size : Int) + 1))).bind fun t647 => (if t647.length + a1.size < 140737488355328 then ((some (t647 ++ bytesOf a1 : List Int)).bind fun y650 => (if y650.length < 140737488355328 then (some (y650 ++ [0])) else (none))) else (none))) = some r := h; clear h; replace H := Option.bind_eq_some_iff.mp H; obtain ⟨t647, A30, H⟩ := H; replace H : (if t647.length + a1.size < 140737488355328 then ((some (t647 ++ bytesOf a1 : List Int)).bind fun y650 => (if y650.length < 140737488355328 then (some (y650 ++ [0])) else (none))) else (none)) = some r := H; have A3 := Aside0.mk A30; clear A30
  by_cases c4 : t647.length + a1.size < 140737488355328
  rotate_left
  · rw [if_neg c4] at H
    exact absurd H (by simp)
  rw [if_pos c4] at H; have LMc4 := Aside0.mk c4; clear c4; obtain ⟨y650, hy650⟩ : ∃ y_ : List Int, y_ = (t647 ++ bytesOf a1) := ⟨_, rfl⟩
  replace H : (if y650.length < 140737488355328 then (some (y650 ++ [0])) else (none)) = some r := by (try rw [hy650]); exact HW.rp
  have Ny650 := Aside0.mk hy650; clear hy650
  by_cases c5 : y650.length < 140737488355328
  rotate_left
  · rw [if_neg c5] at H
    exact absurd H (by simp)
  rw [if_pos c5] at H; have LMc5 := Aside0.mk c5; clear c5; obtain ⟨y653, hy653⟩ : ∃ y_ : List Int, y_ = (y650 ++ [0]) := ⟨_, rfl⟩
  replace H : (some y653) = some r := by (try rw [hy653]); exact HW.rp
  have Ny653 := Aside0.mk hy653; clear hy653
  as_aux_lemma =>
    obtain rfl := Option.some.inj H; obtain ⟨Ao6, co6, eo6⟩ := Kd.R_slice HO0.out; subst eo6
    go_enter Tryz.func69, Tryz.ntmps69
    go_wp2_with (first | ((with_reducible refine gate_callee (f := 70) rfl ?_); refine HW.gz (some 9) rfl rfl Tryz.func70 (by kernel_rfl) rfl #[.slice Ao6 l0.length co6, .int .i64 (wrap64 ((a1.size : Int) + 1))] rfl ?_; (with_reducible refine (spec_DocInt32.calls (fun k_ => some k_ = (.slice Ao6 l0.length co6 : Value).ownBlock) (.slice Ao6 l0.length co6) l0 (wrap64 ((a1.size : Int) + 1)) t647 w0 _ ?side1 ?side2 A3.out).mono ?_); (case side1 => exact HW.zb); (case side2 => exact Kd.R_tight rfl HO0.out); rintro e w7 ⟨v648, rfl, ho0, hb, hkp⟩; refine ⟨_, rfl, ?_⟩; have n0_ := Aside0.mk (Kd.R_mono (ok' := fun k_ => (P0_ k_ ∨ w.heap.size ≤ k_)) ho0 (fun k_ hk_ => Or.elim hk_ (fun hs_ => (HO0.out.1 k_ (hs_).symm)) (fun hn_ => (.inr (Nat.le_trans (HW.zk1 (w := w) (fun k_ => P0_ k_)) hn_))))); have n1_ := Aside0.mk (Kept.then_ (S := (fun k_ => P0_ k_)) HW.zk hkp (fun k_ hs_ => (fun e_ => (HO0.out.1 k_ e_.symm)) hs_)); have n2_ := Aside0.mk (hb); clear HK; clear HB; clear HO0; have HO649 := n0_; have HK := n1_; have HB := n2_; clear n0_ n1_ n2_; (try clear hb); (try clear hkp); (try clear ho0)) | (at_builtin; refine HW.R_append_str (w0 := w0) w0.heap.size rfl (.tmp 10) _ 22 9 5 rfl Tryz.underlying22 Tryz.underlying9 info5 v648 t647 a1 (fun k_ => (P0_ k_ ∨ w.heap.size ≤ k_)) rfl rfl ?aO ?aF ?aB ?aS ?aL ?_; (case aB => exact HW.zb); (case aF => exact (fun k_ hk => (.inr (Nat.le_trans (HW.zk1 (w := w) (fun k_ => P0_ k_)) hk)))); (case aO => exact (HW.zR HO649.out)); (case aS => exact (below_size HW.zb)); (case aL => have := LMc4.out; omega); intro v651 w8 ho hb hg hat; rw [← Ny650.out] at ho; have n0_ := Aside0.mk (hb); have n1_ := Aside0.mk (Kept.of_grown (S := (fun k_ => P0_ k_)) hg HW.zk (fun k_ e_ => (HO649.out.1 k_ e_))); have n2_ := Aside0.mk (ho); clear HB; clear HK; clear HO649; have HB := n0_; have HK := n1_; have HO652 := n2_; clear n0_ n1_ n2_; clear ho hb hg hat) | ((with_reducible refine gate_builtin (b := .append) (xs := #[.tmp 13, .tmp 14]) rfl ?_); at_builtin; refine Kd.R_append (Kd.int .u8) (w0 := w0) w0.heap.size rfl (.tmp 13) (.tmp 14) 22 5 (.int .u8 0) 1 rfl Tryz.underlying22 info5 rfl (by decide) (by omega) v651 y650 0 [.int .u8 0] (fun k_ => (P0_ k_ ∨ w.heap.size ≤ k_)) (fun _ => False) rfl rfl ?aP (fun _ hk => hk.elim) ?aF ?aO ?aB ?aS ?aL ?_; (case aP => exact rfl); (case aB => exact HW.zb); (case aF => exact (fun k_ hk => (.inr (Nat.le_trans (HW.zk1 (w := w) (fun k_ => P0_ k_)) hk)))); (case aO => exact (HW.zR HO652.out)); (case aS => exact (below_size HW.zb)); (case aL => have := LMc5.out; omega); intro v654 w9 ho hb hg hat; rw [← Ny653.out] at ho; have n0_ := Aside0.mk (hb); have n1_ := Aside0.mk (Kept.of_grown (S := (fun k_ => P0_ k_)) hg HW.zk (fun k_ e_ => (HO652.out.1 k_ e_))); have n2_ := Aside0.mk (ho); clear HB; clear HK; clear HO652; have HB := n0_; have HK := n1_; have HO655 := n2_; clear n0_ n1_ n2_; clear ho hb hg hat))
    go_ret
    exact ⟨_, rfl, HW.zR HO655.out, HW.zb, HW.zk⟩
end Go.Proofs.YtanecebppagakaaGreatDoor.PRx
