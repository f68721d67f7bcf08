import Derived.Test.YtbfhpjkahobgnaaGreatDoorPLox0
import Derived.Test.YtbfhpjkahobgnaaGreatDoorPLox7
import Derived.Test.YtbfhpjkahobgnaaGreatDoorPLox9
namespace Go.Proofs.YtbfhpjkahobgnaaGreatDoor.PLo
open Go.Proofs.YtbfhpjkahobgnaaGreatDoor.HW (tt ff)
open Go.RowKit Go.Proofs.YtbfhpjkahobgnaaGreatDoorW.PrintWords Go.Proofs.YtbfhpjkahobgnaaGreatDoorW.PrintLast Go.Proofs.YtbfhpjkahobgnaaGreatDoorW.PrintMore
attribute [local go_sem] max2_int min2_int max_two min_two max_three min_three max_four min_four
set_option linter.unusedVariables false
set_option maxHeartbeats 8000000
set_option maxRecDepth 100000
set_option linter.unusedSimpArgs false
def spec_DocRight.f (a0_0 : Int) (a0_1 : ByteArray) (a0_2 : ByteArray) (a0_3 : Int) (a0_4 : Int) (a0_5 : Int) (l0_6 : List Int) (l0_7 : List (S73)) : Option (Bool) := (spec_docRight.f a0_0 a0_1 a0_2 a0_3 a0_4 a0_5 l0_6 l0_7 200).bind fun t468 => (some t468)
theorem spec_DocRight.calls (a0_0 : Int) (a0_1 : ByteArray) (a0_2 : ByteArray) (a0_3 : Int) (a0_4 : Int) (a0_5 : Int) (A0_6 : Option Addr) (c0_6 : Nat) (l0_6 : List Int) (A0_7 : Option Addr) (c0_7 : Nat) (l0_7 : List (S73)) (r : Bool) (w : World) (hr0_6 : Kd.C (Kd.int .u8) w A0_6 l0_6.length l0_6) (hc0_6 : l0_6.length ≤ c0_6) (hr0_7 : Kd.C k73 w A0_7 l0_7.length l0_7) (hc0_7 : l0_7.length ≤ c0_7) (h : spec_DocRight.f a0_0 a0_1 a0_2 a0_3 a0_4 a0_5 l0_6 l0_7 = some r) :
    Calls Tryz.prog 71 #[.agg #[.int .i64 a0_0, .string a0_1, .string a0_2, .int .i64 a0_3, .int .u64 a0_4, .int .u64 a0_5, .slice A0_6 l0_6.length c0_6, .slice A0_7 l0_7.length c0_7]] w fun e w' => e = .returned (.bool r) ∧ Below w.heap.size w w' := by
  have hu46 := Tryz.underlying46; have HR0_6 := Aside0.mk hr0_6; have HC0_6 := Aside0.mk hc0_6; clear hr0_6 hc0_6; have HR0_7 := Aside0.mk hr0_7; have HC0_7 := Aside0.mk hc0_7; clear hr0_7 hc0_7; have HB := Aside0.mk (Below.refl w.heap.size w); have H : ((spec_docRight.f a0_0 a0_1 a0_2 a0_3 a0_4 a0_5 l0_6 l0_7 200).bind fun t468 => (some t468)) = some r := h; clear h; replace H := Option.bind_eq_some_iff.mp H; obtain ⟨t468, A20, H⟩ := H; replace H : (some t468) = some r := H; have A2 := Aside0.mk A20; clear A20
  as_aux_lemma =>
    obtain rfl := Option.some.inj H
    go_enter Tryz.func71, Tryz.ntmps71
    go_wp2_with (first | ((with_reducible refine gate_dst (N := 1) rfl ?_); refine box_event ?hg (N := 1) ?hd (cs := #[.int .i64 a0_0, .string a0_1, .string a0_2, .int .i64 a0_3, .int .u64 a0_4, .int .u64 a0_5, .slice A0_6 l0_6.length c0_6, .slice A0_7 l0_7.length c0_7]) (t := 46) ?hr ?_; (case hd => rfl); (case hg => rfl); (case hr => first | (go_simp; done) | (go_simp; rfl)); intro gb467 hg w3 hbox hb; have BK467 := Aside0.mk (hbox); have GE467 := Aside0.mk ((by rw [hg]; exact (below_size HW.zb) : w.heap.size ≤ gb467)); replace HB := Aside0.mk (below_step HW.zb hb); clear hb hbox hg; obtain ⟨hcz4_0, hcz4_1, hcz4_2, hcz4_3, hcz4_4, hcz4_5, hcz4_6, hcz4_7⟩ := HW.k8 BK467.out) | ((with_reducible refine gate_callee (f := 123) rfl ?_); refine HW.gz (some 4) rfl rfl Tryz.func123 (by kernel_rfl) rfl #[.agg #[.int .i64 a0_0, .string a0_1, .string a0_2, .int .i64 a0_3, .int .u64 a0_4, .int .u64 a0_5, .slice A0_6 l0_6.length c0_6, .slice A0_7 l0_7.length c0_7], .int .i64 200] rfl ?_; (with_reducible refine (spec_docRight.calls a0_0 a0_1 a0_2 a0_3 a0_4 a0_5 _ _ l0_6 _ _ l0_7 200 t468 _ ?side1 ?side2 ?side3 ?side4 A2.out).mono ?_); (case side1 => repeat (first | exact (Kd.C_below HR0_6.out HB.out) | (with_reducible refine Kd.C_alloc ?_ _) | (with_reducible refine Kd.C_drewN ?_ _) | (with_reducible refine Kd.C_drew ?_))); (case side2 => exact HC0_6.out); (case side3 => repeat (first | exact (Kd.C_below HR0_7.out HB.out) | (with_reducible refine Kd.C_alloc ?_ _) | (with_reducible refine Kd.C_drewN ?_ _) | (with_reducible refine Kd.C_drew ?_))); (case side4 => exact HC0_7.out); rintro e w5 ⟨rfl, hb⟩; refine ⟨_, rfl, ?_⟩; replace HB := Aside0.mk (below_step HW.zb hb); (try clear hb)))
    go_ret
    exact ⟨rfl, HW.zb⟩
mutual
def laws_docBytes.l0 : Nat → Int → Int → Int → ByteArray → ByteArray → Int → Int → Int → List Int → List (S73) → Option (Int)
  | 0, _, _, _, _, _, _, _, _, _, _ => none
  | k + 1, x3, x4, x470000, x470001, x470002, x470003, x470004, x470005, x470006, x470007 => if x4 < (x470007.length : Int) then (if 0 ≤ x4 then ((laws_docBytes.f k ((rd_T73 x470007 x4).f1.f0) ((rd_T73 x470007 x4).f1.f1) ((rd_T73 x470007 x4).f1.f2) ((rd_T73 x470007 x4).f1.f3) ((rd_T73 x470007 x4).f1.f4) ((rd_T73 x470007 x4).f1.f5) ((rd_T73 x470007 x4).f1.f6) ((rd_T73 x470007 x4).f1.f7)).bind fun t472 => (laws_docBytes.l0 k (wrap64 ((wrap64 (x3 + (((rd_T73 x470007 x4).f0).size : Int))) + t472)) (wrap64 (x4 + 1)) x470000 x470001 x470002 x470003 x470004 x470005 x470006 x470007)) else (none)) else (some x3)
def laws_docBytes.f : Nat → Int → ByteArray → ByteArray → Int → Int → Int → List Int → List (S73) → Option (Int)
  | 0, _, _, _, _, _, _, _, _ => none
  | k + 1, a0_0, a0_1, a0_2, a0_3, a0_4, a0_5, l0_6, l0_7 => laws_docBytes.l0 k (wrap64 ((wrap64 ((a0_1.size : Int) + (a0_2.size : Int))) + (l0_6.length : Int))) 0 a0_0 a0_1 a0_2 a0_3 a0_4 a0_5 l0_6 l0_7
end
theorem laws_docBytes.mono_l : ∀ k, (∀ y0 y1 y2 y3 y4 y5 y6 y7, LeO (laws_docBytes.f k y0 y1 y2 y3 y4 y5 y6 y7) (laws_docBytes.f (k + 1) y0 y1 y2 y3 y4 y5 y6 y7)) ∧ (∀ y0 y1 y2 y3 y4 y5 y6 y7 y8 y9, LeO (laws_docBytes.l0 k y0 y1 y2 y3 y4 y5 y6 y7 y8 y9) (laws_docBytes.l0 (k + 1) y0 y1 y2 y3 y4 y5 y6 y7 y8 y9))
  | 0 => ⟨fun _ _ _ _ _ _ _ _ r h => by simp [laws_docBytes.f] at h, fun _ _ _ _ _ _ _ _ _ _ r h => by simp [laws_docBytes.l0] at h⟩
  | k + 1 => by
    obtain ⟨ih0, ih1⟩ := laws_docBytes.mono_l k
    refine ⟨?_, ?_⟩
    · intro y0 y1 y2 y3 y4 y5 y6 y7
      unfold laws_docBytes.f
      have m0_ := @ih0; have m1_ := @ih1; exact HW.mo
    · intro y0 y1 y2 y3 y4 y5 y6 y7 y8 y9
      unfold laws_docBytes.l0
      have m0_ := @ih0; have m1_ := @ih1; exact HW.mo
theorem laws_docBytes.mono : ∀ a0 a1 a2 a3 a4 a5 a6 a7 k, LeO (laws_docBytes.f k a0 a1 a2 a3 a4 a5 a6 a7) (laws_docBytes.f (k + 1) a0 a1 a2 a3 a4 a5 a6 a7) := by
  intro a0 a1 a2 a3 a4 a5 a6 a7 k
  obtain ⟨ih0, ih1⟩ := laws_docBytes.mono_l k
  exact ih0 a0 a1 a2 a3 a4 a5 a6 a7
def laws_docBytes.T5 : Bool × List (List Nat × List Nat) := (true, [([], []), ([], []), ([1], [1]), ([], []), ([2, 3], [2, 3]), ([4], [4]), ([5], [5]), ([6], [6]), ([0, 7], [0, 7]), ([], []), ([9], [9]), ([], []), ([10, 11], [10, 11]), ([12], [12]), ([13], [13]), ([14], [14]), ([8, 15], [8, 15]), ([16, 15, 0, 1, 2, 3, 4, 5, 6, 7, 8, 9, 10, 11, 12, 13, 14, 15, 16], [0, 16])])
def laws_docBytes.B5 : List Nat := [0, 0, 2, 0, 14, 30, 62, 126, 255, 0, 512, 0, 3584, 7680, 15872, 32256, 65535, 131071]
theorem laws_docBytes.tab5 : rtab .any (opsOf Tryz.f72 5) = laws_docBytes.T5 := by kernel_rfl
theorem laws_docBytes.bits5 : waitsOk laws_docBytes.T5.2 laws_docBytes.B5 = true := by kernel_rfl
theorem laws_docBytes.calls (k : Nat) : ∀ (a0_0 : Int) (a0_1 : ByteArray) (a0_2 : ByteArray) (a0_3 : Int) (a0_4 : Int) (a0_5 : Int) (A0_6 : Option Addr) (c0_6 : Nat) (l0_6 : List Int) (A0_7 : Option Addr) (c0_7 : Nat) (l0_7 : List (S73)) (r : Int) (w : World) (hr0_6 : Kd.C (Kd.int .u8) w A0_6 l0_6.length l0_6) (hc0_6 : l0_6.length ≤ c0_6) (hr0_7 : Kd.C k73 w A0_7 l0_7.length l0_7) (hc0_7 : l0_7.length ≤ c0_7) (h : laws_docBytes.f k a0_0 a0_1 a0_2 a0_3 a0_4 a0_5 l0_6 l0_7 = some r),
    Calls Tryz.prog 72 #[.agg #[.int .i64 a0_0, .string a0_1, .string a0_2, .int .i64 a0_3, .int .u64 a0_4, .int .u64 a0_5, .slice A0_6 l0_6.length c0_6, .slice A0_7 l0_7.length c0_7]] w fun e w' => e = .returned (.int .i64 r) ∧ Below w.heap.size w w' := by
  induction k using Nat.strongRecOn with
  | _ k ih =>
  intro a0_0 a0_1 a0_2 a0_3 a0_4 a0_5 A0_6 c0_6 l0_6 A0_7 c0_7 l0_7 r w hr0_6 hc0_6 hr0_7 hc0_7 h
  cases k with
  | zero => exact absurd h (by simp [laws_docBytes.f])
  | succ k =>
  simp only [laws_docBytes.f] at h
  have hu46 := Tryz.underlying46; have HR0_6 := Aside0.mk hr0_6; have HC0_6 := Aside0.mk hc0_6; clear hr0_6 hc0_6; have HR0_7 := Aside0.mk hr0_7; have HC0_7 := Aside0.mk hc0_7; clear hr0_7 hc0_7; have HB := Aside0.mk (Below.refl w.heap.size w); have H : (laws_docBytes.l0 k (wrap64 ((wrap64 ((a0_1.size : Int) + (a0_2.size : Int))) + (l0_6.length : Int))) 0 a0_0 a0_1 a0_2 a0_3 a0_4 a0_5 l0_6 l0_7) = some r := h; clear h; have H' := Aside0.mk H; clear H
  go_enter Tryz.func72, Tryz.ntmps72
  go_wp2_with (first | ((with_reducible refine gate_dst (N := 1) rfl ?_); refine box_event ?hg (N := 1) ?hd (cs := #[.int .i64 a0_0, .string a0_1, .string a0_2, .int .i64 a0_3, .int .u64 a0_4, .int .u64 a0_5, .slice A0_6 l0_6.length c0_6, .slice A0_7 l0_7.length c0_7]) (t := 46) ?hr ?_; (case hd => rfl); (case hg => rfl); (case hr => first | (go_simp; done) | (go_simp; rfl)); intro gb469 hg w2 hbox hb; have BK469 := Aside0.mk (hbox); have GE469 := Aside0.mk ((by rw [hg]; exact (below_size HW.zb) : w.heap.size ≤ gb469)); replace HB := Aside0.mk (below_step HW.zb hb); clear hb hbox hg; obtain ⟨hcz3_0, hcz3_1, hcz3_2, hcz3_3, hcz3_4, hcz3_5, hcz3_6, hcz3_7⟩ := HW.k8 BK469.out))
  go_loopg [3, 4] k (fun kq v3 v4 w' => ∃ (x3_1 : Int) (x4_1 : Int), v3 = .int .i64 x3_1 ∧ v4 = .int .i64 x4_1 ∧ Aside0 (laws_docBytes.l0 kq x3_1 x4_1 a0_0 a0_1 a0_2 a0_3 a0_4 a0_5 l0_6 l0_7 = some r) ∧ Aside0 (kq ≤ k) ∧ Aside0 (w'.heap[gb469]? = some (.cells #[.int .i64 a0_0, .string a0_1, .string a0_2, .int .i64 a0_3, .int .u64 a0_4, .int .u64 a0_5, (.slice A0_6 l0_6.length c0_6), (.slice A0_7 l0_7.length c0_7)] 46 (0, 0))) ∧ Aside0 (Below w.heap.size w w'))
  case atStart => exact ⟨(wrap64 ((wrap64 ((a0_1.size : Int) + (a0_2.size : Int))) + (l0_6.length : Int))), (0), (by first | rfl | (simp; done) | (simp [*]; done)), HW.rs, H', ⟨Nat.le_refl _⟩, ⟨by (with_reducible repeat (first | refine blk_drewN ?_ _ | refine blk_drew ?_ | refine blk_alloc ?_ _)); exact BK469.out⟩, ⟨HW.zb⟩⟩
  case round =>
    clear H'
    (try clear p2); (try clear hcz3_0 hcz3_1 hcz3_2 hcz3_3 hcz3_4 hcz3_5 hcz3_6 hcz3_7)
    obtain ⟨x3_1, x4_1, rfl, rfl, HA, HK1, BK469, HB⟩ := hrel
    cases gk with
    | zero => exact absurd HA.out (by simp [laws_docBytes.l0])
    | succ k1 =>
      have H := HA.out; clear HA
      simp only [laws_docBytes.l0] at H
      by_cases c4 : x4_1 < (l0_7.length : Int)
      rotate_left
      · rw [if_neg c4] at H
        have c4b0 : decide (x4_1 < (l0_7.length : Int)) = false := decide_eq_false c4; clear c4
        as_aux_lemma =>
          obtain rfl := Option.some.inj H; obtain ⟨hcz10_0, hcz10_1, hcz10_2, hcz10_3, hcz10_4, hcz10_5, hcz10_6, hcz10_7⟩ := HW.k8 BK469.out
          go_wp2
          go_ret
          exact ⟨rfl, HW.zb⟩
      rw [if_pos c4] at H; have c4b0 : decide (x4_1 < (l0_7.length : Int)) = true := decide_eq_true c4; clear c4
      by_cases c5 : 0 ≤ x4_1
      rotate_left
      · rw [if_neg c5] at H
        exact absurd H (by simp)
      rw [if_pos c5] at H; have c5b0 : decide (0 ≤ x4_1) = true := decide_eq_true c5; clear c5; replace H := Option.bind_eq_some_iff.mp H; obtain ⟨t472, A60, H⟩ := H; replace H : (laws_docBytes.l0 k1 (wrap64 ((wrap64 (x3_1 + (((rd_T73 l0_7 x4_1).f0).size : Int))) + t472)) (wrap64 (x4_1 + 1)) a0_0 a0_1 a0_2 a0_3 a0_4 a0_5 l0_6 l0_7) = some r := H; have A6 := Aside0.mk A60; clear A60
      as_aux_lemma =>
        have H' := Aside0.mk H; clear H; obtain ⟨hcz7_0, hcz7_1, hcz7_2, hcz7_3, hcz7_4, hcz7_5, hcz7_6, hcz7_7⟩ := HW.k8 BK469.out
        try go_wp2
        replace BK469 := Aside0.mk (blk_drew BK469.out); replace HB := Aside0.mk (below_drew1 HB.out)
        have p470 : 0 ≤ (x4_1 : Int) := HW.od
        have q470 : x4_1 < (l0_7.length : Int) := HW.od
        obtain ⟨ad470, A470_7, c470_7, A470_8, c470_8, e470, hx470_0, hx470_1, hx470_2, hx470_3, hx470_4, hx470_5, hx470_6, hx470_7, hx470_8, hl470_7, hi470_7, hl470_8, hi470_8⟩ := at_T73 HR0_7.out x4_1 p470 q470; have hw470_8 := hx470_8; have hw470_7 := hx470_7; have hw470_6 := hx470_6; have hw470_5 := hx470_5; have hw470_4 := hx470_4; have hw470_3 := hx470_3; have hw470_2 := hx470_2; have hw470_1 := hx470_1; have hw470_0 := hx470_0
        cases e470
        replace hx470_0 := (HB.out.cell (World.block_lt_of_cell? w _ hx470_0)).trans hx470_0; replace hx470_1 := (HB.out.cell (World.block_lt_of_cell? w _ hx470_1)).trans hx470_1; replace hx470_2 := (HB.out.cell (World.block_lt_of_cell? w _ hx470_2)).trans hx470_2; replace hx470_3 := (HB.out.cell (World.block_lt_of_cell? w _ hx470_3)).trans hx470_3; replace hx470_4 := (HB.out.cell (World.block_lt_of_cell? w _ hx470_4)).trans hx470_4; replace hx470_5 := (HB.out.cell (World.block_lt_of_cell? w _ hx470_5)).trans hx470_5; replace hx470_6 := (HB.out.cell (World.block_lt_of_cell? w _ hx470_6)).trans hx470_6; replace hx470_7 := (HB.out.cell (World.block_lt_of_cell? w _ hx470_7)).trans hx470_7; replace hx470_8 := (HB.out.cell (World.block_lt_of_cell? w _ hx470_8)).trans hx470_8; have HR470_7 := Aside0.mk hi470_7; have HC470_7 := Aside0.mk hl470_7; clear hi470_7 hl470_7; have HR470_8 := Aside0.mk hi470_8; have HC470_8 := Aside0.mk hl470_8; clear hi470_8 hl470_8; replace p470 := eq_true p470; replace q470 := eq_true q470
        have p471 : 0 ≤ (x4_1 : Int) := HW.od
        have q471 : x4_1 < (l0_7.length : Int) := HW.od
        obtain ⟨ad471, A471_7, c471_7, A471_8, c471_8, e471, hx471_0, hx471_1, hx471_2, hx471_3, hx471_4, hx471_5, hx471_6, hx471_7, hx471_8, hl471_7, hi471_7, hl471_8, hi471_8⟩ := at_T73 HR0_7.out x4_1 p471 q471; have hw471_8 := hx471_8; have hw471_7 := hx471_7; have hw471_6 := hx471_6; have hw471_5 := hx471_5; have hw471_4 := hx471_4; have hw471_3 := hx471_3; have hw471_2 := hx471_2; have hw471_1 := hx471_1; have hw471_0 := hx471_0
        obtain rfl : ad470 = ad471 := (by injection e471)
        replace hx471_0 := (HB.out.cell (World.block_lt_of_cell? w _ hx471_0)).trans hx471_0; replace hx471_1 := (HB.out.cell (World.block_lt_of_cell? w _ hx471_1)).trans hx471_1; replace hx471_2 := (HB.out.cell (World.block_lt_of_cell? w _ hx471_2)).trans hx471_2; replace hx471_3 := (HB.out.cell (World.block_lt_of_cell? w _ hx471_3)).trans hx471_3; replace hx471_4 := (HB.out.cell (World.block_lt_of_cell? w _ hx471_4)).trans hx471_4; replace hx471_5 := (HB.out.cell (World.block_lt_of_cell? w _ hx471_5)).trans hx471_5; replace hx471_6 := (HB.out.cell (World.block_lt_of_cell? w _ hx471_6)).trans hx471_6; replace hx471_7 := (HB.out.cell (World.block_lt_of_cell? w _ hx471_7)).trans hx471_7; replace hx471_8 := (HB.out.cell (World.block_lt_of_cell? w _ hx471_8)).trans hx471_8; have HR471_7 := Aside0.mk hi471_7; have HC471_7 := Aside0.mk hl471_7; clear hi471_7 hl471_7; have HR471_8 := Aside0.mk hi471_8; have HC471_8 := Aside0.mk hl471_8; clear hi471_8 hl471_8; replace p471 := eq_true p471; replace q471 := eq_true q471; have ea_ := Option.some.inj (hx470_7.symm.trans hx471_7); injection ea_ with ea_ en_ ec_; subst ea_; subst ec_; clear en_; have ea_ := Option.some.inj (hx470_8.symm.trans hx471_8); injection ea_ with ea_ en_ ec_; subst ea_; subst ec_; clear en_
        refine start_ (n := 18) (S := fun w' => w'.cell? ⟨gb469, 0, none⟩ = some (.int .i64 a0_0) ∧ w'.cell? ⟨gb469, 1, none⟩ = some (.string a0_1) ∧ w'.cell? ⟨gb469, 2, none⟩ = some (.string a0_2) ∧ w'.cell? ⟨gb469, 3, none⟩ = some (.int .i64 a0_3) ∧ w'.cell? ⟨gb469, 4, none⟩ = some (.int .u64 a0_4) ∧ w'.cell? ⟨gb469, 5, none⟩ = some (.int .u64 a0_5) ∧ w'.cell? ⟨gb469, 6, none⟩ = some (.slice A0_6 l0_6.length c0_6) ∧ w'.cell? ⟨gb469, 7, none⟩ = some (.slice (some ad470) l0_7.length c0_7) ∧ w'.cell? (ad470.add ((x4_1).toNat * 9)) = some (.string ((rd_T73 l0_7 x4_1).f0)) ∧ w'.cell? ⟨(ad470.add ((x4_1).toNat * 9)).block, (ad470.add ((x4_1).toNat * 9)).off + 1, none⟩ = some (.int .i64 ((rd_T73 l0_7 x4_1).f1.f0)) ∧ w'.cell? ⟨(ad470.add ((x4_1).toNat * 9)).block, (ad470.add ((x4_1).toNat * 9)).off + 2, none⟩ = some (.string ((rd_T73 l0_7 x4_1).f1.f1)) ∧ w'.cell? ⟨(ad470.add ((x4_1).toNat * 9)).block, (ad470.add ((x4_1).toNat * 9)).off + 3, none⟩ = some (.string ((rd_T73 l0_7 x4_1).f1.f2)) ∧ w'.cell? ⟨(ad470.add ((x4_1).toNat * 9)).block, (ad470.add ((x4_1).toNat * 9)).off + 4, none⟩ = some (.int .i64 ((rd_T73 l0_7 x4_1).f1.f3)) ∧ w'.cell? ⟨(ad470.add ((x4_1).toNat * 9)).block, (ad470.add ((x4_1).toNat * 9)).off + 5, none⟩ = some (.int .u64 ((rd_T73 l0_7 x4_1).f1.f4)) ∧ w'.cell? ⟨(ad470.add ((x4_1).toNat * 9)).block, (ad470.add ((x4_1).toNat * 9)).off + 6, none⟩ = some (.int .u64 ((rd_T73 l0_7 x4_1).f1.f5)) ∧ w'.cell? ⟨(ad470.add ((x4_1).toNat * 9)).block, (ad470.add ((x4_1).toNat * 9)).off + 7, none⟩ = some (.slice A470_7 ((rd_T73 l0_7 x4_1).f1.f6).length c470_7) ∧ w'.cell? ⟨(ad470.add ((x4_1).toNat * 9)).block, (ad470.add ((x4_1).toNat * 9)).off + 8, none⟩ = some (.slice A470_8 ((rd_T73 l0_7 x4_1).f1.f7).length c470_8) ∧ w'.cell? (ad470.add ((x4_1).toNat * 9)) = some (.string ((rd_T73 l0_7 x4_1).f0)) ∧ w'.cell? ⟨(ad470.add ((x4_1).toNat * 9)).block, (ad470.add ((x4_1).toNat * 9)).off + 1, none⟩ = some (.int .i64 ((rd_T73 l0_7 x4_1).f1.f0)) ∧ w'.cell? ⟨(ad470.add ((x4_1).toNat * 9)).block, (ad470.add ((x4_1).toNat * 9)).off + 2, none⟩ = some (.string ((rd_T73 l0_7 x4_1).f1.f1)) ∧ w'.cell? ⟨(ad470.add ((x4_1).toNat * 9)).block, (ad470.add ((x4_1).toNat * 9)).off + 3, none⟩ = some (.string ((rd_T73 l0_7 x4_1).f1.f2)) ∧ w'.cell? ⟨(ad470.add ((x4_1).toNat * 9)).block, (ad470.add ((x4_1).toNat * 9)).off + 4, none⟩ = some (.int .i64 ((rd_T73 l0_7 x4_1).f1.f3)) ∧ w'.cell? ⟨(ad470.add ((x4_1).toNat * 9)).block, (ad470.add ((x4_1).toNat * 9)).off + 5, none⟩ = some (.int .u64 ((rd_T73 l0_7 x4_1).f1.f4)) ∧ w'.cell? ⟨(ad470.add ((x4_1).toNat * 9)).block, (ad470.add ((x4_1).toNat * 9)).off + 6, none⟩ = some (.int .u64 ((rd_T73 l0_7 x4_1).f1.f5)) ∧ w'.cell? ⟨(ad470.add ((x4_1).toNat * 9)).block, (ad470.add ((x4_1).toNat * 9)).off + 7, none⟩ = some (.slice A470_7 ((rd_T73 l0_7 x4_1).f1.f6).length c470_7) ∧ w'.cell? ⟨(ad470.add ((x4_1).toNat * 9)).block, (ad470.add ((x4_1).toNat * 9)).off + 8, none⟩ = some (.slice A470_8 ((rd_T73 l0_7 x4_1).f1.f7).length c470_8)) (ds := []) #[ff,ff,ff,ff,ff,ff,ff,ff,ff,ff,ff,ff,ff,ff,ff,ff,ff,ff] (by kernel_rfl) rfl rfl ⟨(blk_cell BK469.out 0).trans rfl, (blk_cell BK469.out 1).trans rfl, (blk_cell BK469.out 2).trans rfl, (blk_cell BK469.out 3).trans rfl, (blk_cell BK469.out 4).trans rfl, (blk_cell BK469.out 5).trans rfl, (blk_cell BK469.out 6).trans rfl, (blk_cell BK469.out 7).trans rfl, ((HB.out.cell (World.block_lt_of_cell? w _ hw470_0)).trans hw470_0), ((HB.out.cell (World.block_lt_of_cell? w _ hw470_1)).trans hw470_1), ((HB.out.cell (World.block_lt_of_cell? w _ hw470_2)).trans hw470_2), ((HB.out.cell (World.block_lt_of_cell? w _ hw470_3)).trans hw470_3), ((HB.out.cell (World.block_lt_of_cell? w _ hw470_4)).trans hw470_4), ((HB.out.cell (World.block_lt_of_cell? w _ hw470_5)).trans hw470_5), ((HB.out.cell (World.block_lt_of_cell? w _ hw470_6)).trans hw470_6), ((HB.out.cell (World.block_lt_of_cell? w _ hw470_7)).trans hw470_7), ((HB.out.cell (World.block_lt_of_cell? w _ hw470_8)).trans hw470_8), ((HB.out.cell (World.block_lt_of_cell? w _ hw471_0)).trans hw471_0), ((HB.out.cell (World.block_lt_of_cell? w _ hw471_1)).trans hw471_1), ((HB.out.cell (World.block_lt_of_cell? w _ hw471_2)).trans hw471_2), ((HB.out.cell (World.block_lt_of_cell? w _ hw471_3)).trans hw471_3), ((HB.out.cell (World.block_lt_of_cell? w _ hw471_4)).trans hw471_4), ((HB.out.cell (World.block_lt_of_cell? w _ hw471_5)).trans hw471_5), ((HB.out.cell (World.block_lt_of_cell? w _ hw471_6)).trans hw471_6), ((HB.out.cell (World.block_lt_of_cell? w _ hw471_7)).trans hw471_7), ((HB.out.cell (World.block_lt_of_cell? w _ hw471_8)).trans hw471_8)⟩ (fun hHeld => ?_); refine with_tabW laws_docBytes.tab5 laws_docBytes.bits5 (fun HT_ HW_ => ?_)
        generalize wr.drew = w8 at BK469 HB HR470_7 HR470_8 HR471_7 HR471_8 hx470_0 hx470_1 hx470_2 hx470_3 hx470_4 hx470_5 hx470_6 hx470_7 hx470_8 hx471_0 hx471_1 hx471_2 hx471_3 hx471_4 hx471_5 hx471_6 hx471_7 hx471_8 hHeld ⊢
        refine HW.pz (i := 0) (N := some 23) #[tt,ff,ff,ff,ff,ff,ff,ff,ff,ff,ff,ff,ff,ff,ff,ff,ff,ff] ?_ (hc := any_of HT_.out (by kernel_rfl))
        refine HW.pz (i := 1) (N := some 24) #[tt,tt,ff,ff,ff,ff,ff,ff,ff,ff,ff,ff,ff,ff,ff,ff,ff,ff] ?_ (hc := any_of HT_.out (by kernel_rfl))
        refine HW.pz (i := 3) (N := some 26) #[tt,tt,ff,tt,ff,ff,ff,ff,ff,ff,ff,ff,ff,ff,ff,ff,ff,ff] ?_ (hc := any_of HT_.out (by kernel_rfl))
        refine HW.pz (i := 9) (N := some 32) #[tt,tt,ff,tt,ff,ff,ff,ff,ff,tt,ff,ff,ff,ff,ff,ff,ff,ff] ?_ (hc := any_of HT_.out (by kernel_rfl))
        refine HW.pz (i := 11) (N := some 34) #[tt,tt,ff,tt,ff,ff,ff,ff,ff,tt,ff,tt,ff,ff,ff,ff,ff,ff] ?_ (hc := any_of HT_.out (by kernel_rfl))
        refine take_ (i := 2) (N := some 25) (v := ?_) (a' := ?_) #[tt,tt,tt,tt,ff,ff,ff,ff,ff,tt,ff,tt,ff,ff,ff,ff,ff,ff] rfl rfl (take_ofW HT_.out HW_.out (by kernel_rfl)) (fun _ _ _ h => h) (Or.inl ⟨by rfl, ?_⟩) hHeld ?_ ?_
        rotate_left
        · rintro w' ⟨s0, s1, s2, s3, s4, s5, s6, s7, s8, s9, s10, s11, s12, s13, s14, s15, s16, s17, s18, s19, s20, s21, s22, s23, s24, s25⟩
          go_simp
          with_reducible rfl
        rotate_left
        · exact HW.pt
        refine HW.pz (i := 4) (N := some 27) #[tt,tt,tt,tt,tt,ff,ff,ff,ff,tt,ff,tt,ff,ff,ff,ff,ff,ff] ?_ (hc := any_of HT_.out (by kernel_rfl))
        refine HW.pz (i := 5) (N := some 28) #[tt,tt,tt,tt,tt,tt,ff,ff,ff,tt,ff,tt,ff,ff,ff,ff,ff,ff] ?_ (hc := any_of HT_.out (by kernel_rfl))
        refine take_ (i := 6) (N := some 29) (v := ?_) (a' := ?_) #[tt,tt,tt,tt,tt,tt,tt,ff,ff,tt,ff,tt,ff,ff,ff,ff,ff,ff] rfl rfl (take_ofW HT_.out HW_.out (by kernel_rfl)) (fun _ _ _ h => h) (Or.inl ⟨by rfl, ?_⟩) hHeld ?_ ?_
        rotate_left
        · rintro w' ⟨s0, s1, s2, s3, s4, s5, s6, s7, s8, s9, s10, s11, s12, s13, s14, s15, s16, s17, s18, s19, s20, s21, s22, s23, s24, s25⟩
          go_simp
          with_reducible rfl
        rotate_left
        · exact HW.pt
        refine HW.pz (i := 7) (N := some 30) #[tt,tt,tt,tt,tt,tt,tt,tt,ff,tt,ff,tt,ff,ff,ff,ff,ff,ff] ?_ (hc := any_of HT_.out (by kernel_rfl))
        refine HW.pz (i := 8) (N := some 31) #[tt,tt,tt,tt,tt,tt,tt,tt,tt,tt,ff,tt,ff,ff,ff,ff,ff,ff] ?_ (hc := any_of HT_.out (by kernel_rfl))
        refine take_ (i := 10) (N := some 33) (v := ?_) (a' := ?_) #[tt,tt,tt,tt,tt,tt,tt,tt,tt,tt,tt,tt,ff,ff,ff,ff,ff,ff] rfl rfl (take_ofW HT_.out HW_.out (by kernel_rfl)) (fun _ _ _ h => h) (Or.inl ⟨by rfl, ?_⟩) hHeld ?_ ?_
        rotate_left
        · rintro w' ⟨s0, s1, s2, s3, s4, s5, s6, s7, s8, s9, s10, s11, s12, s13, s14, s15, s16, s17, s18, s19, s20, s21, s22, s23, s24, s25⟩
          go_simp
          with_reducible rfl
        rotate_left
        · exact HW.pt
        refine HW.pz (i := 12) (N := some 35) #[tt,tt,tt,tt,tt,tt,tt,tt,tt,tt,tt,tt,tt,ff,ff,ff,ff,ff] ?_ (hc := any_of HT_.out (by kernel_rfl))
        refine HW.pz (i := 13) (N := some 36) #[tt,tt,tt,tt,tt,tt,tt,tt,tt,tt,tt,tt,tt,tt,ff,ff,ff,ff] ?_ (hc := any_of HT_.out (by kernel_rfl))
        refine take_ (i := 14) (N := some 37) (v := ?_) (a' := ?_) #[tt,tt,tt,tt,tt,tt,tt,tt,tt,tt,tt,tt,tt,tt,tt,ff,ff,ff] rfl rfl (take_ofW HT_.out HW_.out (by kernel_rfl)) (fun _ _ _ h => h) (Or.inl ⟨by rfl, ?_⟩) hHeld ?_ ?_
        rotate_left
        · rintro w' ⟨s0, s1, s2, s3, s4, s5, s6, s7, s8, s9, s10, s11, s12, s13, s14, s15, s16, s17, s18, s19, s20, s21, s22, s23, s24, s25⟩
          go_simp
          with_reducible rfl
        rotate_left
        · exact HW.pt
        refine one_ (i := 15) (N := some 38) #[tt,tt,tt,tt,tt,tt,tt,tt,tt,tt,tt,tt,tt,tt,tt,tt,ff,ff] rfl rfl (one_of HT_.out (by kernel_rfl)) (by decide) (fun K hK => ?_)
        refine goes_ Tryz.func72 (by kernel_rfl) rfl #[.agg #[.int .i64 ((rd_T73 l0_7 x4_1).f1.f0), .string ((rd_T73 l0_7 x4_1).f1.f1), .string ((rd_T73 l0_7 x4_1).f1.f2), .int .i64 ((rd_T73 l0_7 x4_1).f1.f3), .int .u64 ((rd_T73 l0_7 x4_1).f1.f4), .int .u64 ((rd_T73 l0_7 x4_1).f1.f5), .slice A470_7 ((rd_T73 l0_7 x4_1).f1.f6).length c470_7, .slice A470_8 ((rd_T73 l0_7 x4_1).f1.f7).length c470_8]] (by rfl) rfl rfl HW.mt ?_
        with_reducible refine (ih k1 (by have := HK1.out; omega) ((rd_T73 l0_7 x4_1).f1.f0) ((rd_T73 l0_7 x4_1).f1.f1) ((rd_T73 l0_7 x4_1).f1.f2) ((rd_T73 l0_7 x4_1).f1.f3) ((rd_T73 l0_7 x4_1).f1.f4) ((rd_T73 l0_7 x4_1).f1.f5) _ _ ((rd_T73 l0_7 x4_1).f1.f6) _ _ ((rd_T73 l0_7 x4_1).f1.f7) t472 _ ?side1 ?side2 ?side3 ?side4 A6.out).mono ?_
        (case side1 => repeat (first | exact (Kd.C_below HR471_7.out HB.out) | (with_reducible refine Kd.C_alloc ?_ _) | (with_reducible refine Kd.C_drewN ?_ _) | (with_reducible refine Kd.C_drew ?_)))
        (case side2 => exact HC471_7.out)
        (case side3 => repeat (first | exact (Kd.C_below HR471_8.out HB.out) | (with_reducible refine Kd.C_alloc ?_ _) | (with_reducible refine Kd.C_drewN ?_ _) | (with_reducible refine Kd.C_drew ?_)))
        (case side4 => exact HC471_8.out)
        rintro e w9 ⟨rfl, hb⟩
        refine ⟨_, rfl, ?_⟩
        replace BK469 := Aside0.mk (blk_below (HW.zB BK469.out) hb); replace HB := Aside0.mk (below_step HW.zb hb)
        (try clear hb)
        refine hK.out _ _ ⟨(blk_cell BK469.out 0).trans rfl, (blk_cell BK469.out 1).trans rfl, (blk_cell BK469.out 2).trans rfl, (blk_cell BK469.out 3).trans rfl, (blk_cell BK469.out 4).trans rfl, (blk_cell BK469.out 5).trans rfl, (blk_cell BK469.out 6).trans rfl, (blk_cell BK469.out 7).trans rfl, ((HB.out.cell (World.block_lt_of_cell? w _ hw470_0)).trans hw470_0), ((HB.out.cell (World.block_lt_of_cell? w _ hw470_1)).trans hw470_1), ((HB.out.cell (World.block_lt_of_cell? w _ hw470_2)).trans hw470_2), ((HB.out.cell (World.block_lt_of_cell? w _ hw470_3)).trans hw470_3), ((HB.out.cell (World.block_lt_of_cell? w _ hw470_4)).trans hw470_4), ((HB.out.cell (World.block_lt_of_cell? w _ hw470_5)).trans hw470_5), ((HB.out.cell (World.block_lt_of_cell? w _ hw470_6)).trans hw470_6), ((HB.out.cell (World.block_lt_of_cell? w _ hw470_7)).trans hw470_7), ((HB.out.cell (World.block_lt_of_cell? w _ hw470_8)).trans hw470_8), ((HB.out.cell (World.block_lt_of_cell? w _ hw471_0)).trans hw471_0), ((HB.out.cell (World.block_lt_of_cell? w _ hw471_1)).trans hw471_1), ((HB.out.cell (World.block_lt_of_cell? w _ hw471_2)).trans hw471_2), ((HB.out.cell (World.block_lt_of_cell? w _ hw471_3)).trans hw471_3), ((HB.out.cell (World.block_lt_of_cell? w _ hw471_4)).trans hw471_4), ((HB.out.cell (World.block_lt_of_cell? w _ hw471_5)).trans hw471_5), ((HB.out.cell (World.block_lt_of_cell? w _ hw471_6)).trans hw471_6), ((HB.out.cell (World.block_lt_of_cell? w _ hw471_7)).trans hw471_7), ((HB.out.cell (World.block_lt_of_cell? w _ hw471_8)).trans hw471_8)⟩ (fun hHeld => ?_)
        clear hK K
        refine HW.nz (N := (some 38)) ?_
        refine HW.pz (i := 16) (N := some 39) #[tt,tt,tt,tt,tt,tt,tt,tt,tt,tt,tt,tt,tt,tt,tt,tt,tt,ff] ?_ (hc := any_of HT_.out (by kernel_rfl))
        refine HW.pz (i := 17) (N := some 3) #[tt,tt,tt,tt,tt,tt,tt,tt,tt,tt,tt,tt,tt,tt,tt,tt,tt,tt] ?_ (hc := any_of HT_.out (by kernel_rfl))
        refine done_ (done_of HT_.out (by kernel_rfl)) ?_
        try go_wp2
        go_roundg k1
        case measure => have := HK1.out; omega
        case rel => exact ⟨(wrap64 ((wrap64 (x3_1 + (((rd_T73 l0_7 x4_1).f0).size : Int))) + t472)), (wrap64 (x4_1 + 1)), (by first | rfl | (simp; done) | (simp [*]; done)), HW.rs, H', ⟨by have := HK1.out; omega⟩, ⟨by (with_reducible repeat (first | refine blk_drewN ?_ _ | refine blk_drew ?_ | refine blk_alloc ?_ _)); exact BK469.out⟩, ⟨HW.zb⟩⟩
def laws_docFine.f (k : Nat) (a0_0 : Int) (a0_1 : ByteArray) (a0_2 : ByteArray) (a0_3 : Int) (a0_4 : Int) (a0_5 : Int) (l0_6 : List Int) (l0_7 : List (S73)) : Option (Bool) := (laws_docCount.f k a0_0 a0_1 a0_2 a0_3 a0_4 a0_5 l0_6 l0_7 300).bind fun t474 => (if t474 ≤ 300 then ((spec_DocRight.f a0_0 a0_1 a0_2 a0_3 a0_4 a0_5 l0_6 l0_7).bind fun t475 => (if t475 = true then ((laws_docBytes.f k a0_0 a0_1 a0_2 a0_3 a0_4 a0_5 l0_6 l0_7).bind fun t476 => (some (decide (t476 ≤ 5000)))) else (some false))) else (some false))
theorem laws_docFine.mono : ∀ a0 a1 a2 a3 a4 a5 a6 a7 k, LeO (laws_docFine.f k a0 a1 a2 a3 a4 a5 a6 a7) (laws_docFine.f (k + 1) a0 a1 a2 a3 a4 a5 a6 a7) := by
  intro a0 a1 a2 a3 a4 a5 a6 a7 k
  unfold laws_docFine.f
  have m0_ := @laws_docBytes.mono; have m1_ := @laws_docCount.mono; exact HW.mo
theorem laws_docFine.calls (k : Nat) (a0_0 : Int) (a0_1 : ByteArray) (a0_2 : ByteArray) (a0_3 : Int) (a0_4 : Int) (a0_5 : Int) (A0_6 : Option Addr) (c0_6 : Nat) (l0_6 : List Int) (A0_7 : Option Addr) (c0_7 : Nat) (l0_7 : List (S73)) (r : Bool) (w : World) (hr0_6 : Kd.C (Kd.int .u8) w A0_6 l0_6.length l0_6) (hc0_6 : l0_6.length ≤ c0_6) (hr0_7 : Kd.C k73 w A0_7 l0_7.length l0_7) (hc0_7 : l0_7.length ≤ c0_7) (h : laws_docFine.f k a0_0 a0_1 a0_2 a0_3 a0_4 a0_5 l0_6 l0_7 = some r) :
    Calls Tryz.prog 31 #[.agg #[.int .i64 a0_0, .string a0_1, .string a0_2, .int .i64 a0_3, .int .u64 a0_4, .int .u64 a0_5, .slice A0_6 l0_6.length c0_6, .slice A0_7 l0_7.length c0_7]] w fun e w' => e = .returned (.bool r) ∧ Below w.heap.size w w' := by
  have hu46 := Tryz.underlying46; have HR0_6 := Aside0.mk hr0_6; have HC0_6 := Aside0.mk hc0_6; clear hr0_6 hc0_6; have HR0_7 := Aside0.mk hr0_7; have HC0_7 := Aside0.mk hc0_7; clear hr0_7 hc0_7; have HB := Aside0.mk (Below.refl w.heap.size w); have H : ((laws_docCount.f k a0_0 a0_1 a0_2 a0_3 a0_4 a0_5 l0_6 l0_7 300).bind fun t474 => (if t474 ≤ 300 then ((spec_DocRight.f a0_0 a0_1 a0_2 a0_3 a0_4 a0_5 l0_6 l0_7).bind fun t475 => (if t475 = true then ((laws_docBytes.f k a0_0 a0_1 a0_2 a0_3 a0_4 a0_5 l0_6 l0_7).bind fun t476 => (some (decide (t476 ≤ 5000)))) else (some false))) else (some false))) = some r := h; clear h; replace H := Option.bind_eq_some_iff.mp H; obtain ⟨t474, A20, H⟩ := H; replace H : (if t474 ≤ 300 then ((spec_DocRight.f a0_0 a0_1 a0_2 a0_3 a0_4 a0_5 l0_6 l0_7).bind fun t475 => (if t475 = true then ((laws_docBytes.f k a0_0 a0_1 a0_2 a0_3 a0_4 a0_5 l0_6 l0_7).bind fun t476 => (some (decide (t476 ≤ 5000)))) else (some false))) else (some false)) = some r := H; have A2 := Aside0.mk A20; clear A20
  by_cases c3 : t474 ≤ 300
  rotate_left
  · rw [if_neg c3] at H
    have c3b0 : decide (t474 ≤ 300) = false := decide_eq_false c3; clear c3
    as_aux_lemma =>
      obtain rfl := Option.some.inj H
      go_enter Tryz.func31, Tryz.ntmps31
      go_wp2_with (first | ((with_reducible refine gate_dst (N := 1) rfl ?_); refine box_event ?hg (N := 1) ?hd (cs := #[.int .i64 a0_0, .string a0_1, .string a0_2, .int .i64 a0_3, .int .u64 a0_4, .int .u64 a0_5, .slice A0_6 l0_6.length c0_6, .slice A0_7 l0_7.length c0_7]) (t := 46) ?hr ?_; (case hd => rfl); (case hg => rfl); (case hr => first | (go_simp; done) | (go_simp; rfl)); intro gb473 hg w19 hbox hb; have BK473 := Aside0.mk (hbox); have GE473 := Aside0.mk ((by rw [hg]; exact (below_size HW.zb) : w.heap.size ≤ gb473)); replace HB := Aside0.mk (below_step HW.zb hb); clear hb hbox hg; obtain ⟨hcz20_0, hcz20_1, hcz20_2, hcz20_3, hcz20_4, hcz20_5, hcz20_6, hcz20_7⟩ := HW.k8 BK473.out) | ((with_reducible refine gate_callee (f := 70) rfl ?_); refine HW.gz (some 4) rfl rfl Tryz.func70 (by kernel_rfl) rfl #[.agg #[.int .i64 a0_0, .string a0_1, .string a0_2, .int .i64 a0_3, .int .u64 a0_4, .int .u64 a0_5, .slice A0_6 l0_6.length c0_6, .slice A0_7 l0_7.length c0_7], .int .i64 300] rfl ?_; (with_reducible refine (laws_docCount.calls k a0_0 a0_1 a0_2 a0_3 a0_4 a0_5 _ _ l0_6 _ _ l0_7 300 t474 _ ?side1 ?side2 ?side3 ?side4 A2.out).mono ?_); (case side1 => repeat (first | exact (Kd.C_below HR0_6.out HB.out) | (with_reducible refine Kd.C_alloc ?_ _) | (with_reducible refine Kd.C_drewN ?_ _) | (with_reducible refine Kd.C_drew ?_))); (case side2 => exact HC0_6.out); (case side3 => repeat (first | exact (Kd.C_below HR0_7.out HB.out) | (with_reducible refine Kd.C_alloc ?_ _) | (with_reducible refine Kd.C_drewN ?_ _) | (with_reducible refine Kd.C_drew ?_))); (case side4 => exact HC0_7.out); rintro e w21 ⟨rfl, hb⟩; refine ⟨_, rfl, ?_⟩; replace BK473 := Aside0.mk (blk_below (HW.zB BK473.out) hb); replace HB := Aside0.mk (below_step HW.zb hb); (try clear hb)))
      go_ret
      exact ⟨rfl, HW.zb⟩
  rw [if_pos c3] at H; have c3b0 : decide (t474 ≤ 300) = true := decide_eq_true c3; clear c3; replace H := Option.bind_eq_some_iff.mp H; obtain ⟨t475, A40, H⟩ := H; replace H : (if t475 = true then ((laws_docBytes.f k a0_0 a0_1 a0_2 a0_3 a0_4 a0_5 l0_6 l0_7).bind fun t476 => (some (decide (t476 ≤ 5000)))) else (some false)) = some r := H; have A4 := Aside0.mk A40; clear A40
  by_cases c5 : t475 = true
  rotate_left
  · replace c5 := Bool.eq_false_iff.mpr c5
    subst c5
    have H1 : (some false) = some r := by rw [if_neg (show ¬ (false = true) by decide)] at H; exact H
    clear H; have H := H1; clear H1
    as_aux_lemma =>
      obtain rfl := Option.some.inj H
      go_enter Tryz.func31, Tryz.ntmps31
      go_wp2_with (first | ((with_reducible refine gate_dst (N := 1) rfl ?_); refine box_event ?hg (N := 1) ?hd (cs := #[.int .i64 a0_0, .string a0_1, .string a0_2, .int .i64 a0_3, .int .u64 a0_4, .int .u64 a0_5, .slice A0_6 l0_6.length c0_6, .slice A0_7 l0_7.length c0_7]) (t := 46) ?hr ?_; (case hd => rfl); (case hg => rfl); (case hr => first | (go_simp; done) | (go_simp; rfl)); intro gb473 hg w14 hbox hb; have BK473 := Aside0.mk (hbox); have GE473 := Aside0.mk ((by rw [hg]; exact (below_size HW.zb) : w.heap.size ≤ gb473)); replace HB := Aside0.mk (below_step HW.zb hb); clear hb hbox hg; obtain ⟨hcz15_0, hcz15_1, hcz15_2, hcz15_3, hcz15_4, hcz15_5, hcz15_6, hcz15_7⟩ := HW.k8 BK473.out) | ((with_reducible refine gate_callee (f := 70) rfl ?_); refine HW.gz (some 4) rfl rfl Tryz.func70 (by kernel_rfl) rfl #[.agg #[.int .i64 a0_0, .string a0_1, .string a0_2, .int .i64 a0_3, .int .u64 a0_4, .int .u64 a0_5, .slice A0_6 l0_6.length c0_6, .slice A0_7 l0_7.length c0_7], .int .i64 300] rfl ?_; (with_reducible refine (laws_docCount.calls k a0_0 a0_1 a0_2 a0_3 a0_4 a0_5 _ _ l0_6 _ _ l0_7 300 t474 _ ?side1 ?side2 ?side3 ?side4 A2.out).mono ?_); (case side1 => repeat (first | exact (Kd.C_below HR0_6.out HB.out) | (with_reducible refine Kd.C_alloc ?_ _) | (with_reducible refine Kd.C_drewN ?_ _) | (with_reducible refine Kd.C_drew ?_))); (case side2 => exact HC0_6.out); (case side3 => repeat (first | exact (Kd.C_below HR0_7.out HB.out) | (with_reducible refine Kd.C_alloc ?_ _) | (with_reducible refine Kd.C_drewN ?_ _) | (with_reducible refine Kd.C_drew ?_))); (case side4 => exact HC0_7.out); rintro e w16 ⟨rfl, hb⟩; refine ⟨_, rfl, ?_⟩; replace BK473 := Aside0.mk (blk_below (HW.zB BK473.out) hb); replace HB := Aside0.mk (below_step HW.zb hb); (try clear hb); obtain ⟨hcz17_0, hcz17_1, hcz17_2, hcz17_3, hcz17_4, hcz17_5, hcz17_6, hcz17_7⟩ := HW.k8 BK473.out) | (go_at_call 71; (with_reducible refine (spec_DocRight.calls a0_0 a0_1 a0_2 a0_3 a0_4 a0_5 _ _ l0_6 _ _ l0_7 false _ ?side1 ?side2 ?side3 ?side4 A4.out).mono ?_); (case side1 => repeat (first | exact (Kd.C_below HR0_6.out HB.out) | (with_reducible refine Kd.C_alloc ?_ _) | (with_reducible refine Kd.C_drewN ?_ _) | (with_reducible refine Kd.C_drew ?_))); (case side2 => exact HC0_6.out); (case side3 => repeat (first | exact (Kd.C_below HR0_7.out HB.out) | (with_reducible refine Kd.C_alloc ?_ _) | (with_reducible refine Kd.C_drewN ?_ _) | (with_reducible refine Kd.C_drew ?_))); (case side4 => exact HC0_7.out); rintro e w18 ⟨rfl, hb⟩; replace BK473 := Aside0.mk (blk_below (HW.zB BK473.out) hb); replace HB := Aside0.mk (below_step HW.zb hb); (try clear hb)))
      go_ret
      exact ⟨rfl, HW.zb⟩
  subst c5
  have H1 : ((laws_docBytes.f k a0_0 a0_1 a0_2 a0_3 a0_4 a0_5 l0_6 l0_7).bind fun t476 => (some (decide (t476 ≤ 5000)))) = some r := by rw [if_pos rfl] at H; exact H
  clear H; have H := H1; clear H1; replace H := Option.bind_eq_some_iff.mp H; obtain ⟨t476, A60, H⟩ := H; replace H : (some (decide (t476 ≤ 5000))) = some r := H; have A6 := Aside0.mk A60; clear A60
  as_aux_lemma =>
    obtain rfl := Option.some.inj H
    go_enter Tryz.func31, Tryz.ntmps31
    go_wp2_with (first | ((with_reducible refine gate_dst (N := 1) rfl ?_); refine box_event ?hg (N := 1) ?hd (cs := #[.int .i64 a0_0, .string a0_1, .string a0_2, .int .i64 a0_3, .int .u64 a0_4, .int .u64 a0_5, .slice A0_6 l0_6.length c0_6, .slice A0_7 l0_7.length c0_7]) (t := 46) ?hr ?_; (case hd => rfl); (case hg => rfl); (case hr => first | (go_simp; done) | (go_simp; rfl)); intro gb473 hg w7 hbox hb; have BK473 := Aside0.mk (hbox); have GE473 := Aside0.mk ((by rw [hg]; exact (below_size HW.zb) : w.heap.size ≤ gb473)); replace HB := Aside0.mk (below_step HW.zb hb); clear hb hbox hg; obtain ⟨hcz8_0, hcz8_1, hcz8_2, hcz8_3, hcz8_4, hcz8_5, hcz8_6, hcz8_7⟩ := HW.k8 BK473.out) | ((with_reducible refine gate_callee (f := 70) rfl ?_); refine HW.gz (some 4) rfl rfl Tryz.func70 (by kernel_rfl) rfl #[.agg #[.int .i64 a0_0, .string a0_1, .string a0_2, .int .i64 a0_3, .int .u64 a0_4, .int .u64 a0_5, .slice A0_6 l0_6.length c0_6, .slice A0_7 l0_7.length c0_7], .int .i64 300] rfl ?_; (with_reducible refine (laws_docCount.calls k a0_0 a0_1 a0_2 a0_3 a0_4 a0_5 _ _ l0_6 _ _ l0_7 300 t474 _ ?side1 ?side2 ?side3 ?side4 A2.out).mono ?_); (case side1 => repeat (first | exact (Kd.C_below HR0_6.out HB.out) | (with_reducible refine Kd.C_alloc ?_ _) | (with_reducible refine Kd.C_drewN ?_ _) | (with_reducible refine Kd.C_drew ?_))); (case side2 => exact HC0_6.out); (case side3 => repeat (first | exact (Kd.C_below HR0_7.out HB.out) | (with_reducible refine Kd.C_alloc ?_ _) | (with_reducible refine Kd.C_drewN ?_ _) | (with_reducible refine Kd.C_drew ?_))); (case side4 => exact HC0_7.out); rintro e w9 ⟨rfl, hb⟩; refine ⟨_, rfl, ?_⟩; replace BK473 := Aside0.mk (blk_below (HW.zB BK473.out) hb); replace HB := Aside0.mk (below_step HW.zb hb); (try clear hb); obtain ⟨hcz10_0, hcz10_1, hcz10_2, hcz10_3, hcz10_4, hcz10_5, hcz10_6, hcz10_7⟩ := HW.k8 BK473.out) | (go_at_call 71; (with_reducible refine (spec_DocRight.calls a0_0 a0_1 a0_2 a0_3 a0_4 a0_5 _ _ l0_6 _ _ l0_7 true _ ?side1 ?side2 ?side3 ?side4 A4.out).mono ?_); (case side1 => repeat (first | exact (Kd.C_below HR0_6.out HB.out) | (with_reducible refine Kd.C_alloc ?_ _) | (with_reducible refine Kd.C_drewN ?_ _) | (with_reducible refine Kd.C_drew ?_))); (case side2 => exact HC0_6.out); (case side3 => repeat (first | exact (Kd.C_below HR0_7.out HB.out) | (with_reducible refine Kd.C_alloc ?_ _) | (with_reducible refine Kd.C_drewN ?_ _) | (with_reducible refine Kd.C_drew ?_))); (case side4 => exact HC0_7.out); rintro e w11 ⟨rfl, hb⟩; replace BK473 := Aside0.mk (blk_below (HW.zB BK473.out) hb); replace HB := Aside0.mk (below_step HW.zb hb); (try clear hb); obtain ⟨hcz12_0, hcz12_1, hcz12_2, hcz12_3, hcz12_4, hcz12_5, hcz12_6, hcz12_7⟩ := HW.k8 BK473.out) | (go_at_call 72; (with_reducible refine (laws_docBytes.calls k a0_0 a0_1 a0_2 a0_3 a0_4 a0_5 _ _ l0_6 _ _ l0_7 t476 _ ?side1 ?side2 ?side3 ?side4 A6.out).mono ?_); (case side1 => repeat (first | exact (Kd.C_below HR0_6.out HB.out) | (with_reducible refine Kd.C_alloc ?_ _) | (with_reducible refine Kd.C_drewN ?_ _) | (with_reducible refine Kd.C_drew ?_))); (case side2 => exact HC0_6.out); (case side3 => repeat (first | exact (Kd.C_below HR0_7.out HB.out) | (with_reducible refine Kd.C_alloc ?_ _) | (with_reducible refine Kd.C_drewN ?_ _) | (with_reducible refine Kd.C_drew ?_))); (case side4 => exact HC0_7.out); rintro e w13 ⟨rfl, hb⟩; replace HB := Aside0.mk (below_step HW.zb hb); (try clear hb)))
    go_ret
    exact ⟨rfl, HW.zb⟩
def laws_docFineKids.f (k : Nat) (l0 : List (S73)) : Option (Bool) := (laws_docFine.f k 3 (⟨#[]⟩ : ByteArray) (⟨#[]⟩ : ByteArray) 0 0 0 ([] : List Int) l0).bind fun t477 => (some t477)
theorem laws_docFineKids.mono : ∀ a0 k, LeO (laws_docFineKids.f k a0) (laws_docFineKids.f (k + 1) a0) := by
  intro a0 k
  unfold laws_docFineKids.f
  have m0_ := @laws_docFine.mono; exact HW.mo
theorem laws_docFineKids.calls (k : Nat) (A0 : Option Addr) (c0 : Nat) (l0 : List (S73)) (r : Bool) (w : World) (hr0 : Kd.C k73 w A0 l0.length l0) (hc0 : l0.length ≤ c0) (h : laws_docFineKids.f k l0 = some r) :
    Calls Tryz.prog 14 #[.slice A0 l0.length c0] w fun e w' => e = .returned (.bool r) ∧ Below w.heap.size w w' := by
  have hu46 := Tryz.underlying46; have HR0 := Aside0.mk hr0; have HC0 := Aside0.mk hc0; clear hr0 hc0; have HB := Aside0.mk (Below.refl w.heap.size w); have H : ((laws_docFine.f k 3 (⟨#[]⟩ : ByteArray) (⟨#[]⟩ : ByteArray) 0 0 0 ([] : List Int) l0).bind fun t477 => (some t477)) = some r := h; clear h; replace H := Option.bind_eq_some_iff.mp H; obtain ⟨t477, A20, H⟩ := H; replace H : (some t477) = some r := H; have A2 := Aside0.mk A20; clear A20
  as_aux_lemma =>
    obtain rfl := Option.some.inj H
    go_enter Tryz.func14, Tryz.ntmps14
    go_wp2_with (first | ((with_reducible refine gate_callee (f := 31) rfl ?_); refine HW.gz (some 5) rfl rfl Tryz.func31 (by kernel_rfl) rfl #[.agg #[.int .i64 3, .string (⟨#[]⟩ : ByteArray), .string (⟨#[]⟩ : ByteArray), .int .i64 0, .int .u64 0, .int .u64 0, .slice none 0 0, .slice A0 l0.length c0]] rfl ?_; (refine (laws_docFine.calls k 3 (⟨#[]⟩ : ByteArray) (⟨#[]⟩ : ByteArray) 0 0 0 _ _ ([] : List Int) _ _ l0 t477 _ ?side1 ?side2 ?side3 ?side4 A2.out).mono ?_); (case side1 => exact Kd.C_nil _ _); (case side2 => exact Nat.le_refl _); (case side3 => repeat (first | exact HR0.out | (with_reducible refine Kd.C_alloc ?_ _) | (with_reducible refine Kd.C_drewN ?_ _) | (with_reducible refine Kd.C_drew ?_))); (case side4 => exact HC0.out); rintro e w3 ⟨rfl, hb⟩; refine ⟨_, rfl, ?_⟩; replace HB := Aside0.mk (below_step HW.zb hb); (try clear hb)))
    go_ret
    exact ⟨rfl, HW.zb⟩
def spec_DocFind.l0 : Nat → List (S73) → ByteArray → Int → Option (Int)
  | 0, _, _, _ => none
  | k + 1, x0, x1, x5 => if x5 < (x0.length : Int) then (if 0 ≤ x5 then (if ((rd_T73 x0 x5).f0).toList = x1.toList then (some x5) else (spec_DocFind.l0 k x0 x1 (wrap64 (x5 + 1)))) else (none)) else (some (-1))
def spec_DocFind.f (k : Nat) (l0 : List (S73)) (a1 : ByteArray) : Option (Int) := spec_DocFind.l0 k l0 a1 0
theorem spec_DocFind.mono_l : ∀ k, (∀ y0 y1 y2, LeO (spec_DocFind.l0 k y0 y1 y2) (spec_DocFind.l0 (k + 1) y0 y1 y2))
  | 0 => fun _ _ _ r h => by simp [spec_DocFind.l0] at h
  | k + 1 => by
    have ih0 := spec_DocFind.mono_l k
    · intro y0 y1 y2
      unfold spec_DocFind.l0
      have m0_ := @ih0; exact HW.mo
theorem spec_DocFind.mono : ∀ a0 a1 k, LeO (spec_DocFind.f k a0 a1) (spec_DocFind.f (k + 1) a0 a1) := by
  intro a0 a1 k
  have ih0 := spec_DocFind.mono_l k
  unfold spec_DocFind.f
  have m0_ := @ih0; exact HW.mo
theorem spec_DocFind.calls (k : Nat) (A0 : Option Addr) (c0 : Nat) (l0 : List (S73)) (a1 : ByteArray) (r : Int) (w : World) (hr0 : Kd.C k73 w A0 l0.length l0) (hc0 : l0.length ≤ c0) (h : spec_DocFind.f k l0 a1 = some r) :
    Calls Tryz.prog 32 #[.slice A0 l0.length c0, .string a1] w fun e w' => e = .returned (.int .i64 r) ∧ Drawn0 w w' := by
  have HR0 := Aside0.mk hr0; have HC0 := Aside0.mk hc0; clear hr0 hc0; have H : (spec_DocFind.l0 k l0 a1 0) = some r := h; clear h; have H' := Aside0.mk H; clear H
  go_enter Tryz.func32, Tryz.ntmps32
  go_wp2
  go_loopg [5] k (fun kq v5 w' => ∃ (x5_1 : Int), v5 = .int .i64 x5_1 ∧ Aside0 (spec_DocFind.l0 kq l0 a1 x5_1 = some r) ∧ Aside0 (kq ≤ k) ∧ Drawn0 w w')
  case atStart => exact ⟨(0), HW.rs, H', ⟨Nat.le_refl _⟩, by repeat (first | exact Drawn0.refl _ | apply Drawn0.step)⟩
  case round =>
    clear H'
    (try clear p2)
    obtain ⟨x5_1, rfl, HA, HK1, ⟨m1, rfl⟩⟩ := hrel
    cases gk with
    | zero => exact absurd HA.out (by simp [spec_DocFind.l0])
    | succ k1 =>
      have H := HA.out; clear HA
      simp only [spec_DocFind.l0] at H
      by_cases c3 : x5_1 < (l0.length : Int)
      rotate_left
      · rw [if_neg c3] at H
        have c3b0 : decide (x5_1 < (l0.length : Int)) = false := decide_eq_false c3; clear c3
        as_aux_lemma =>
          obtain rfl := Option.some.inj H
          go_wp2
          go_ret
          exact ⟨by first | rfl | (simp; done) | (simp [*]; done), by repeat (first | exact Drawn0.refl _ | apply Drawn0.step)⟩
      rw [if_pos c3] at H; have c3b0 : decide (x5_1 < (l0.length : Int)) = true := decide_eq_true c3; clear c3
      by_cases c4 : 0 ≤ x5_1
      rotate_left
      · rw [if_neg c4] at H
        exact absurd H (by simp)
      rw [if_pos c4] at H; have c4b0 : decide (0 ≤ x5_1) = true := decide_eq_true c4; clear c4
      by_cases c5 : ((rd_T73 l0 x5_1).f0).toList = a1.toList
      · rw [if_pos c5] at H
        have c5b0 : (((rd_T73 l0 x5_1).f0).toList == a1.toList) = true := beq_iff_eq.mpr c5; have c5b1 : (((rd_T73 l0 x5_1).f0).toList != a1.toList) = false := bne_eq_false_iff_eq.mpr c5; clear c5
        as_aux_lemma =>
          obtain rfl := Option.some.inj H
          have p478 : 0 ≤ (x5_1 : Int) := HW.od
          have q478 : x5_1 < (l0.length : Int) := HW.od
          obtain ⟨ad478, A478_7, c478_7, A478_8, c478_8, e478, hx478_0, hx478_1, hx478_2, hx478_3, hx478_4, hx478_5, hx478_6, hx478_7, hx478_8, hl478_7, hi478_7, hl478_8, hi478_8⟩ := at_T73 HR0.out x5_1 p478 q478
          cases e478
          have HR478_7 := Aside0.mk hi478_7; have HC478_7 := Aside0.mk hl478_7; clear hi478_7 hl478_7; have HR478_8 := Aside0.mk hi478_8; have HC478_8 := Aside0.mk hl478_8; clear hi478_8 hl478_8; replace p478 := eq_true p478; replace q478 := eq_true q478
          go_wp2
          go_ret
          exact ⟨by first | rfl | (simp; done) | (simp [*]; done), by repeat (first | exact Drawn0.refl _ | apply Drawn0.step)⟩
      rw [if_neg c5] at H; have c5b0 : (((rd_T73 l0 x5_1).f0).toList == a1.toList) = false := beq_eq_false_iff_ne.mpr c5; have c5b1 : (((rd_T73 l0 x5_1).f0).toList != a1.toList) = true := bne_iff_ne.mpr c5
      as_aux_lemma =>
        have H' := Aside0.mk H; clear H
        have p478 : 0 ≤ (x5_1 : Int) := HW.od
        have q478 : x5_1 < (l0.length : Int) := HW.od
        obtain ⟨ad478, A478_7, c478_7, A478_8, c478_8, e478, hx478_0, hx478_1, hx478_2, hx478_3, hx478_4, hx478_5, hx478_6, hx478_7, hx478_8, hl478_7, hi478_7, hl478_8, hi478_8⟩ := at_T73 HR0.out x5_1 p478 q478
        cases e478
        have HR478_7 := Aside0.mk hi478_7; have HC478_7 := Aside0.mk hl478_7; clear hi478_7 hl478_7; have HR478_8 := Aside0.mk hi478_8; have HC478_8 := Aside0.mk hl478_8; clear hi478_8 hl478_8; replace p478 := eq_true p478; replace q478 := eq_true q478
        go_wp2
        go_roundg k1
        case measure => have := HK1.out; omega
        case rel => exact ⟨(wrap64 (x5_1 + 1)), HW.rs, H', ⟨by have := HK1.out; omega⟩, by repeat (first | exact Drawn0.refl _ | apply Drawn0.step)⟩
end Go.Proofs.YtbfhpjkahobgnaaGreatDoor.PLo
