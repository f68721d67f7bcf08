import Derived.Test.YtanecebppagakaaGreatDoorPSxx0
namespace Go.Proofs.YtanecebppagakaaGreatDoor.PSx
open Go.Proofs.YtanecebppagakaaGreatDoor.HW (tt ff)
open Go.RowKit Go.Proofs.YtanecebppagakaaGreatDoorW.PrintWords Go.Proofs.YtanecebppagakaaGreatDoorW.PrintLast Go.Proofs.YtanecebppagakaaGreatDoorW.PrintMore
attribute [local go_sem] max2_int min2_int max_two min_two max_three min_three max_four min_four
set_option linter.unusedVariables false
set_option maxHeartbeats 8000000
set_option maxRecDepth 100000
set_option linter.unusedSimpArgs false
mutual
def laws_docCount.l0 : Nat → Int → Int → Int → Int → ByteArray → ByteArray → Int → Int → Int → List Int → List (S95) → Option (Int)
  | 0, _, _, _, _, _, _, _, _, _, _, _ => none
  | k + 1, x1, x5, x6, x549000, x549001, x549002, x549003, x549004, x549005, x549006, x549007 => if x6 < (x549007.length : Int) then (laws_docCount.j1 k x1 x5 x6 (decide (x5 ≤ x1)) x549000 x549001 x549002 x549003 x549004 x549005 x549006 x549007) else (laws_docCount.j1 k x1 x5 x6 false x549000 x549001 x549002 x549003 x549004 x549005 x549006 x549007)
def laws_docCount.j1 : Nat → Int → Int → Int → Bool → Int → ByteArray → ByteArray → Int → Int → Int → List Int → List (S95) → Option (Int)
  | 0, _, _, _, _, _, _, _, _, _, _, _, _ => none
  | k + 1, x1, x5, x6, x16, x549000, x549001, x549002, x549003, x549004, x549005, x549006, x549007 => if x16 = true then (if 0 ≤ x6 then (if x6 < (x549007.length : Int) then ((laws_docCount.f k ((rd_T95 x549007 x6).f1.f0) ((rd_T95 x549007 x6).f1.f1) ((rd_T95 x549007 x6).f1.f2) ((rd_T95 x549007 x6).f1.f3) ((rd_T95 x549007 x6).f1.f4) ((rd_T95 x549007 x6).f1.f5) ((rd_T95 x549007 x6).f1.f6) ((rd_T95 x549007 x6).f1.f7) (wrap64 (x1 - x5))).bind fun t550 => (laws_docCount.l0 k x1 (wrap64 (x5 + t550)) (wrap64 (x6 + 1)) x549000 x549001 x549002 x549003 x549004 x549005 x549006 x549007)) else (none)) else (none)) else (some x5)
def laws_docCount.f : Nat → Int → ByteArray → ByteArray → Int → Int → Int → List Int → List (S95) → Int → Option (Int)
  | 0, _, _, _, _, _, _, _, _, _ => none
  | k + 1, a0_0, a0_1, a0_2, a0_3, a0_4, a0_5, l0_6, l0_7, a1 => laws_docCount.l0 k a1 1 0 a0_0 a0_1 a0_2 a0_3 a0_4 a0_5 l0_6 l0_7
end
theorem laws_docCount.mono_l : ∀ k, (∀ y0 y1 y2 y3 y4 y5 y6 y7 y8, LeO (laws_docCount.f k y0 y1 y2 y3 y4 y5 y6 y7 y8) (laws_docCount.f (k + 1) y0 y1 y2 y3 y4 y5 y6 y7 y8)) ∧ (∀ y0 y1 y2 y3 y4 y5 y6 y7 y8 y9 y10, LeO (laws_docCount.l0 k y0 y1 y2 y3 y4 y5 y6 y7 y8 y9 y10) (laws_docCount.l0 (k + 1) y0 y1 y2 y3 y4 y5 y6 y7 y8 y9 y10)) ∧ (∀ y0 y1 y2 y3 y4 y5 y6 y7 y8 y9 y10 y11, LeO (laws_docCount.j1 k y0 y1 y2 y3 y4 y5 y6 y7 y8 y9 y10 y11) (laws_docCount.j1 (k + 1) y0 y1 y2 y3 y4 y5 y6 y7 y8 y9 y10 y11))
  | 0 => ⟨fun _ _ _ _ _ _ _ _ _ r h => by simp [laws_docCount.f] at h, fun _ _ _ _ _ _ _ _ _ _ _ r h => by simp [laws_docCount.l0] at h, fun _ _ _ _ _ _ _ _ _ _ _ _ r h => by simp [laws_docCount.j1] at h⟩
  | k + 1 => by
    obtain ⟨ih0, ih1, ih2⟩ := laws_docCount.mono_l k
    refine ⟨?_, ?_, ?_⟩
    · intro y0 y1 y2 y3 y4 y5 y6 y7 y8
      unfold laws_docCount.f
      have m0_ := @ih0; have m1_ := @ih1; have m2_ := @ih2; exact HW.mo
    · intro y0 y1 y2 y3 y4 y5 y6 y7 y8 y9 y10
      unfold laws_docCount.l0
      have m0_ := @ih0; have m1_ := @ih1; have m2_ := @ih2; exact HW.mo
    · intro y0 y1 y2 y3 y4 y5 y6 y7 y8 y9 y10 y11
      unfold laws_docCount.j1
      have m0_ := @ih0; have m1_ := @ih1; have m2_ := @ih2; exact HW.mo
theorem laws_docCount.mono : ∀ a0 a1 a2 a3 a4 a5 a6 a7 a8 k, LeO (laws_docCount.f k a0 a1 a2 a3 a4 a5 a6 a7 a8) (laws_docCount.f (k + 1) a0 a1 a2 a3 a4 a5 a6 a7 a8) := by
  intro a0 a1 a2 a3 a4 a5 a6 a7 a8 k
  obtain ⟨ih0, ih1, ih2⟩ := laws_docCount.mono_l k
  exact ih0 a0 a1 a2 a3 a4 a5 a6 a7 a8
theorem laws_docCount.calls (k : Nat) : ∀ (a0_0 : Int) (a0_1 : ByteArray) (a0_2 : ByteArray) (a0_3 : Int) (a0_4 : Int) (a0_5 : Int) (A0_6 : Option Addr) (c0_6 : Nat) (l0_6 : List Int) (A0_7 : Option Addr) (c0_7 : Nat) (l0_7 : List (S95)) (a1 : Int) (r : Int) (w : World) (hr0_6 : Kd.C (Kd.int .u8) w A0_6 l0_6.length l0_6) (hc0_6 : l0_6.length ≤ c0_6) (hr0_7 : Kd.C k95 w A0_7 l0_7.length l0_7) (hc0_7 : l0_7.length ≤ c0_7) (h : laws_docCount.f k a0_0 a0_1 a0_2 a0_3 a0_4 a0_5 l0_6 l0_7 a1 = some r),
    Calls Tryz.prog 65 #[.agg #[.int .i64 a0_0, .string a0_1, .string a0_2, .int .i64 a0_3, .int .u64 a0_4, .int .u64 a0_5, .slice A0_6 l0_6.length c0_6, .slice A0_7 l0_7.length c0_7], .int .i64 a1] w fun e w' => e = .returned (.int .i64 r) ∧ Below w.heap.size w w' := by
  induction k using Nat.strongRecOn with
  | _ k ih =>
  intro a0_0 a0_1 a0_2 a0_3 a0_4 a0_5 A0_6 c0_6 l0_6 A0_7 c0_7 l0_7 a1 r w hr0_6 hc0_6 hr0_7 hc0_7 h
  cases k with
  | zero => exact absurd h (by simp [laws_docCount.f])
  | succ k =>
  simp only [laws_docCount.f] at h
  have hu44 := Tryz.underlying44; have HR0_6 := Aside0.mk hr0_6; have HC0_6 := Aside0.mk hc0_6; clear hr0_6 hc0_6; have HR0_7 := Aside0.mk hr0_7; have HC0_7 := Aside0.mk hc0_7; clear hr0_7 hc0_7; have HB := Aside0.mk (Below.refl w.heap.size w); have H : (laws_docCount.l0 k a1 1 0 a0_0 a0_1 a0_2 a0_3 a0_4 a0_5 l0_6 l0_7) = some r := h; clear h; have H' := Aside0.mk H; clear H
  go_enter Tryz.func65, Tryz.ntmps65
  go_wp2_with (first | ((with_reducible refine gate_dst (N := 2) rfl ?_); refine box_event ?hg (N := 2) ?hd (cs := #[.int .i64 a0_0, .string a0_1, .string a0_2, .int .i64 a0_3, .int .u64 a0_4, .int .u64 a0_5, .slice A0_6 l0_6.length c0_6, .slice A0_7 l0_7.length c0_7]) (t := 44) ?hr ?_; (case hd => rfl); (case hg => rfl); (case hr => first | (go_simp; done) | (go_simp; rfl)); intro gb548 hg w3 hbox hb; have n0_ := Aside0.mk (below_step HW.zb hb); have n1_ := Aside0.mk (hbox); have n3_ := Aside0.mk ((by rw [hg]; exact (below_size HW.zb) : w.heap.size ≤ gb548)); clear HB; have HB := n0_; have BK548 := n1_; have GE548 := n3_; clear n0_ n1_ n3_; clear hb hbox hg))
  go_loopg [5, 6] k (fun kq v5 v6 w' => ∃ (x5_1 : Int) (x6_1 : Int), v5 = .int .i64 x5_1 ∧ v6 = .int .i64 x6_1 ∧ Aside0 (laws_docCount.l0 kq a1 x5_1 x6_1 a0_0 a0_1 a0_2 a0_3 a0_4 a0_5 l0_6 l0_7 = some r) ∧ Aside0 (kq ≤ k) ∧ Aside0 (w'.heap[gb548]? = some (.cells #[.int .i64 a0_0, .string a0_1, .string a0_2, .int .i64 a0_3, .int .u64 a0_4, .int .u64 a0_5, (.slice A0_6 l0_6.length c0_6), (.slice A0_7 l0_7.length c0_7)] 44 (0, 0))) ∧ Aside0 (Below w.heap.size w w'))
  case atStart => exact ⟨(1), (0), (by first | rfl | (simp; done) | (simp [*]; done)), HW.rs, H', ⟨Nat.le_refl _⟩, ⟨by (with_reducible repeat (first | refine blk_drewN ?_ _ | refine blk_drew ?_ | refine blk_alloc ?_ _)); exact BK548.out⟩, ⟨HW.zb⟩⟩
  case round =>
    clear H'
    (try clear p2)
    obtain ⟨x5_1, x6_1, rfl, rfl, HA, HK1, BK548, HB⟩ := hrel
    cases gk with
    | zero => exact absurd HA.out (by simp [laws_docCount.l0])
    | succ k1 =>
      have H := HA.out; clear HA
      simp only [laws_docCount.l0] at H
      have HC4 := Aside0.mk H; clear H
      go_upto_region 3 with (fail)
      go_cut [16] (fun v16 wc => ∃ (kq : Nat) (x16_3 : Bool), v16 = .bool x16_3 ∧ Aside0 (laws_docCount.j1 kq a1 x5_1 x6_1 x16_3 a0_0 a0_1 a0_2 a0_3 a0_4 a0_5 l0_6 l0_7 = some r) ∧ Aside0 (kq ≤ k1) ∧ Aside0 (wc.heap[gb548]? = some (.cells #[.int .i64 a0_0, .string a0_1, .string a0_2, .int .i64 a0_3, .int .u64 a0_4, .int .u64 a0_5, (.slice A0_6 l0_6.length c0_6), (.slice A0_7 l0_7.length c0_7)] 44 (0, 0))) ∧ Aside0 (Below w.heap.size w wc))
      case first =>
        have H := HC4.out; clear HC4
        by_cases c5 : x6_1 < (l0_7.length : Int)
        · rw [if_pos c5] at H
          have c5b0 : decide (x6_1 < (l0_7.length : Int)) = true := decide_eq_true c5; clear c5
          (first | rw [c5b0] | (simp only [i64_w, i32_w]; rw [c5b0]) | skip)
          as_aux_lemma =>
            have H' := Aside0.mk H; clear H; obtain ⟨hcz6_0, hcz6_1, hcz6_2, hcz6_3, hcz6_4, hcz6_5, hcz6_6, hcz6_7⟩ := HW.k8 BK548.out
            go_wp2
            go_meet
            case rel => exact ⟨_, (decide (x5_1 ≤ a1)), HW.rs, H', ⟨by have := HK1.out; first | omega | exact Nat.le_refl _⟩, ⟨by (with_reducible repeat (first | refine blk_drewN ?_ _ | refine blk_drew ?_ | refine blk_alloc ?_ _)); exact BK548.out⟩, ⟨HW.zb⟩⟩
        rw [if_neg c5] at H; have c5b0 : decide (x6_1 < (l0_7.length : Int)) = false := decide_eq_false c5; clear c5
        (first | rw [c5b0] | (simp only [i64_w, i32_w]; rw [c5b0]) | skip)
        as_aux_lemma =>
          have H' := Aside0.mk H; clear H; obtain ⟨hcz7_0, hcz7_1, hcz7_2, hcz7_3, hcz7_4, hcz7_5, hcz7_6, hcz7_7⟩ := HW.k8 BK548.out
          go_wp2
          go_meet
          case rel => exact ⟨_, (false), HW.rs, H', ⟨by have := HK1.out; first | omega | exact Nat.le_refl _⟩, ⟨by (with_reducible repeat (first | refine blk_drewN ?_ _ | refine blk_drew ?_ | refine blk_alloc ?_ _)); exact BK548.out⟩, ⟨HW.zb⟩⟩
      case rest =>
        clear HC4
        (try clear p2); (try clear c5); (try clear c5b0); (try clear c6); (try clear hcz6_0 hcz6_1 hcz6_2 hcz6_3 hcz6_4 hcz6_5 hcz6_6 hcz6_7); (try clear hcz7_0 hcz7_1 hcz7_2 hcz7_3 hcz7_4 hcz7_5 hcz7_6 hcz7_7); (try clear p2)
        obtain ⟨kq, x16_3, rfl, HA, HJ3, BK548, HB⟩ := hcut
        cases kq with
        | zero => exact absurd HA.out (by simp [laws_docCount.j1])
        | succ kj3 =>
          have H := HA.out; clear HA
          simp only [laws_docCount.j1] at H
          by_cases c8 : x16_3 = true
          rotate_left
          · replace c8 := Bool.eq_false_iff.mpr c8
            subst c8
            have H1 : (some x5_1) = some r := by rw [if_neg (show ¬ (false = true) by decide)] at H; exact H
            clear H; have H := H1; clear H1
            as_aux_lemma =>
              obtain rfl := Option.some.inj H
              go_wp2
              go_ret
              exact ⟨rfl, HW.zb⟩
          subst c8
          have H1 : (if 0 ≤ x6_1 then (if x6_1 < (l0_7.length : Int) then ((laws_docCount.f kj3 ((rd_T95 l0_7 x6_1).f1.f0) ((rd_T95 l0_7 x6_1).f1.f1) ((rd_T95 l0_7 x6_1).f1.f2) ((rd_T95 l0_7 x6_1).f1.f3) ((rd_T95 l0_7 x6_1).f1.f4) ((rd_T95 l0_7 x6_1).f1.f5) ((rd_T95 l0_7 x6_1).f1.f6) ((rd_T95 l0_7 x6_1).f1.f7) (wrap64 (a1 - x5_1))).bind fun t550 => (laws_docCount.l0 kj3 a1 (wrap64 (x5_1 + t550)) (wrap64 (x6_1 + 1)) a0_0 a0_1 a0_2 a0_3 a0_4 a0_5 l0_6 l0_7)) else (none)) else (none)) = some r := by rw [if_pos rfl] at H; exact H
          clear H; have H := H1; clear H1
          by_cases c9 : 0 ≤ x6_1
          rotate_left
          · rw [if_neg c9] at H
            exact absurd H (by simp)
          rw [if_pos c9] at H; have c9b0 : decide (0 ≤ x6_1) = true := decide_eq_true c9; clear c9
          by_cases c10 : x6_1 < (l0_7.length : Int)
          rotate_left
          · rw [if_neg c10] at H
            exact absurd H (by simp)
          rw [if_pos c10] at H; have c10b0 : decide (x6_1 < (l0_7.length : Int)) = true := decide_eq_true c10; clear c10; replace H := Option.bind_eq_some_iff.mp H; obtain ⟨t550, A110, H⟩ := H; replace H : (laws_docCount.l0 kj3 a1 (wrap64 (x5_1 + t550)) (wrap64 (x6_1 + 1)) a0_0 a0_1 a0_2 a0_3 a0_4 a0_5 l0_6 l0_7) = some r := H; have A11 := Aside0.mk A110; clear A110
          as_aux_lemma =>
            have H' := Aside0.mk H; clear H; obtain ⟨hcz12_0, hcz12_1, hcz12_2, hcz12_3, hcz12_4, hcz12_5, hcz12_6, hcz12_7⟩ := HW.k8 BK548.out
            have p549 : 0 ≤ (x6_1 : Int) := HW.od
            have q549 : x6_1 < (l0_7.length : Int) := HW.od
            obtain ⟨ad549, A549_7, c549_7, A549_8, c549_8, e549, hx549_0, hx549_1, hx549_2, hx549_3, hx549_4, hx549_5, hx549_6, hx549_7, hx549_8, hl549_7, hi549_7, hl549_8, hi549_8⟩ := at_T95 HR0_7.out x6_1 p549 q549
            cases e549
            replace hx549_0 := (HB.out.cell (World.block_lt_of_cell? w _ hx549_0)).trans hx549_0; replace hx549_1 := (HB.out.cell (World.block_lt_of_cell? w _ hx549_1)).trans hx549_1; replace hx549_2 := (HB.out.cell (World.block_lt_of_cell? w _ hx549_2)).trans hx549_2; replace hx549_3 := (HB.out.cell (World.block_lt_of_cell? w _ hx549_3)).trans hx549_3; replace hx549_4 := (HB.out.cell (World.block_lt_of_cell? w _ hx549_4)).trans hx549_4; replace hx549_5 := (HB.out.cell (World.block_lt_of_cell? w _ hx549_5)).trans hx549_5; replace hx549_6 := (HB.out.cell (World.block_lt_of_cell? w _ hx549_6)).trans hx549_6; replace hx549_7 := (HB.out.cell (World.block_lt_of_cell? w _ hx549_7)).trans hx549_7; replace hx549_8 := (HB.out.cell (World.block_lt_of_cell? w _ hx549_8)).trans hx549_8; have HR549_7 := Aside0.mk hi549_7; have HC549_7 := Aside0.mk hl549_7; clear hi549_7 hl549_7; have HR549_8 := Aside0.mk hi549_8; have HC549_8 := Aside0.mk hl549_8; clear hi549_8 hl549_8; replace p549 := eq_true p549; replace q549 := eq_true q549
            go_wp2_with (first | ((with_reducible refine gate_callee (f := 65) rfl ?_); refine HW.gz (some 29) rfl rfl Tryz.func65 (by kernel_rfl) rfl #[.agg #[.int .i64 ((rd_T95 l0_7 x6_1).f1.f0), .string ((rd_T95 l0_7 x6_1).f1.f1), .string ((rd_T95 l0_7 x6_1).f1.f2), .int .i64 ((rd_T95 l0_7 x6_1).f1.f3), .int .u64 ((rd_T95 l0_7 x6_1).f1.f4), .int .u64 ((rd_T95 l0_7 x6_1).f1.f5), .slice A549_7 ((rd_T95 l0_7 x6_1).f1.f6).length c549_7, .slice A549_8 ((rd_T95 l0_7 x6_1).f1.f7).length c549_8], .int .i64 (wrap64 (a1 - x5_1))] rfl ?_; (with_reducible refine (ih kj3 (by have := HK1.out; have := HJ3.out; omega) ((rd_T95 l0_7 x6_1).f1.f0) ((rd_T95 l0_7 x6_1).f1.f1) ((rd_T95 l0_7 x6_1).f1.f2) ((rd_T95 l0_7 x6_1).f1.f3) ((rd_T95 l0_7 x6_1).f1.f4) ((rd_T95 l0_7 x6_1).f1.f5) _ _ ((rd_T95 l0_7 x6_1).f1.f6) _ _ ((rd_T95 l0_7 x6_1).f1.f7) (wrap64 (a1 - x5_1)) t550 _ ?side1 ?side2 ?side3 ?side4 A11.out).mono ?_); (case side1 => repeat (first | exact (Kd.C_below HR549_7.out HB.out) | (with_reducible refine Kd.C_alloc ?_ _) | (with_reducible refine Kd.C_drewN ?_ _) | (with_reducible refine Kd.C_drew ?_))); (case side2 => exact HC549_7.out); (case side3 => repeat (first | exact (Kd.C_below HR549_8.out HB.out) | (with_reducible refine Kd.C_alloc ?_ _) | (with_reducible refine Kd.C_drewN ?_ _) | (with_reducible refine Kd.C_drew ?_))); (case side4 => exact HC549_8.out); rintro e w13 ⟨rfl, hb⟩; refine ⟨_, rfl, ?_⟩; replace BK548 := Aside0.mk (blk_below (HW.zB BK548.out) hb); replace HB := Aside0.mk (below_step HW.zb hb); (try clear hb)))
            go_roundg kj3
            case measure => have := HK1.out; have := HJ3.out; omega
            case rel => exact ⟨(wrap64 (x5_1 + t550)), (wrap64 (x6_1 + 1)), (by first | rfl | (simp; done) | (simp [*]; done)), HW.rs, H', ⟨by have := HK1.out; have := HJ3.out; omega⟩, ⟨by (with_reducible repeat (first | refine blk_drewN ?_ _ | refine blk_drew ?_ | refine blk_alloc ?_ _)); exact BK548.out⟩, ⟨HW.zb⟩⟩
def spec_DocKnown.f (a0 : Int) : Option (Bool) := if a0 ≥ 1 then (if a0 ≤ 19 then (some true) else (if a0 = 255 then (some true) else (some (a0 == 127)))) else (if a0 = 255 then (some true) else (some (a0 == 127)))
theorem spec_DocKnown.calls (a0 : Int) (r : Bool) (w : World) (h : spec_DocKnown.f a0 = some r) :
    Calls Tryz.prog 162 #[.int .i64 a0] w fun e w' => e = .returned (.bool r) ∧ Drawn0 w w' := by
  have H : (if a0 ≥ 1 then (if a0 ≤ 19 then (some true) else (if a0 = 255 then (some true) else (some (a0 == 127)))) else (if a0 = 255 then (some true) else (some (a0 == 127)))) = some r := h; clear h
  by_cases c2 : a0 ≥ 1
  rotate_left
  · rw [if_neg c2] at H
    have c2b0 : decide (1 ≤ a0) = false := decide_eq_false c2; clear c2
    by_cases c5 : a0 = 255
    · rw [if_pos c5] at H
      have c5b0 : (a0 == 255) = true := beq_iff_eq.mpr c5; have c5b1 : (a0 != 255) = false := bne_eq_false_iff_eq.mpr c5; clear c5
      as_aux_lemma =>
        obtain rfl := Option.some.inj H
        go_enter Tryz.func162, Tryz.ntmps162
        go_wp2
        go_ret
        exact ⟨by first | rfl | (simp; done) | (simp [*]; done), by repeat (first | exact Drawn0.refl _ | apply Drawn0.step)⟩
    rw [if_neg c5] at H; have c5b0 : (a0 == 255) = false := beq_eq_false_iff_ne.mpr c5; have c5b1 : (a0 != 255) = true := bne_iff_ne.mpr c5
    as_aux_lemma =>
      obtain rfl := Option.some.inj H
      go_enter Tryz.func162, Tryz.ntmps162
      go_wp2
      go_ret
      exact ⟨by first | rfl | (simp; done) | (simp [*]; done), by repeat (first | exact Drawn0.refl _ | apply Drawn0.step)⟩
  rw [if_pos c2] at H; have c2b0 : decide (1 ≤ a0) = true := decide_eq_true c2; clear c2
  by_cases c3 : a0 ≤ 19
  · rw [if_pos c3] at H
    have c3b0 : decide (a0 ≤ 19) = true := decide_eq_true c3; clear c3
    as_aux_lemma =>
      obtain rfl := Option.some.inj H
      go_enter Tryz.func162, Tryz.ntmps162
      go_wp2
      go_ret
      exact ⟨by first | rfl | (simp; done) | (simp [*]; done), by repeat (first | exact Drawn0.refl _ | apply Drawn0.step)⟩
  rw [if_neg c3] at H; have c3b0 : decide (a0 ≤ 19) = false := decide_eq_false c3; clear c3
  by_cases c4 : a0 = 255
  · rw [if_pos c4] at H
    have c4b0 : (a0 == 255) = true := beq_iff_eq.mpr c4; have c4b1 : (a0 != 255) = false := bne_eq_false_iff_eq.mpr c4; clear c4
    as_aux_lemma =>
      obtain rfl := Option.some.inj H
      go_enter Tryz.func162, Tryz.ntmps162
      go_wp2
      go_ret
      exact ⟨by first | rfl | (simp; done) | (simp [*]; done), by repeat (first | exact Drawn0.refl _ | apply Drawn0.step)⟩
  rw [if_neg c4] at H; have c4b0 : (a0 == 255) = false := beq_eq_false_iff_ne.mpr c4; have c4b1 : (a0 != 255) = true := bne_iff_ne.mpr c4
  as_aux_lemma =>
    obtain rfl := Option.some.inj H
    go_enter Tryz.func162, Tryz.ntmps162
    go_wp2
    go_ret
    exact ⟨by first | rfl | (simp; done) | (simp [*]; done), by repeat (first | exact Drawn0.refl _ | apply Drawn0.step)⟩
def bareText (k : Int) : Bool := k == 2 || k == 11 || k == 12 || k == 13 || k == 14 || k == 15
def bareMore (k : Int) : Bool := k == 11
def bareN (k : Int) : Bool := k == 5 || k == 8 || k == 9 || k == 16 || k == 18
def bareBits (k : Int) : Bool := k == 1 || k == 17 || k == 19
def bareHigh (k : Int) : Bool := k == 19
def bareBy (k : Int) : Bool := k == 5 || k == 7 || k == 12
def bareKids (k : Int) : Bool := k == 3 || k == 4 || k == 15
def bareV (k n bits high : Int) (text more : ByteArray) (vB vK : Value) : Value := .agg #[.int .i64 k, .string (if bareText k = true then ⟨#[]⟩ else text), .string (if bareMore k = true then ⟨#[]⟩ else more), .int .i64 (if bareN k = true then 0 else n), .int .u64 (if bareBits k = true then 0 else bits), .int .u64 (if bareHigh k = true then 0 else high), if bareBy k = true then .slice none 0 0 else vB, if bareKids k = true then .slice none 0 0 else vK]
theorem docBare_1 (n bits high : Int) (text more : ByteArray) (AB AK : Option Addr) (nB cB nK cK : Nat) (w : World) : Calls Tryz.prog 163 #[.agg #[.int .i64 1, .string text, .string more, .int .i64 n, .int .u64 bits, .int .u64 high, .slice AB nB cB, .slice AK nK cK]] w fun e w' => e = .returned (bareV 1 n bits high text more (.slice AB nB cB) (.slice AK nK cK)) ∧ Below w.heap.size w w' := by
  have hu := Tryz.underlying44
  go_enter Tryz.func163, Tryz.ntmps163
  go_wp2
  exact bodyPost_ret (v := .agg #[.int .i64 1, .string text, .string more, .int .i64 n, .int .u64 0, .int .u64 high, .slice AB nB cB, .slice AK nK cK]) (by simp [results, Tryz.results163, go_sem]) rfl ⟨by rfl, by first | exact (((Below.refl _ _).alloc (Nat.le_refl _) _).alloc (by simp) _) | (repeat (first | exact (((Below.refl _ _).alloc (Nat.le_refl _) _).alloc (by simp) _) | (refine Below.setCell ?_ (by simp) _)))⟩
theorem docBare_2 (n bits high : Int) (text more : ByteArray) (AB AK : Option Addr) (nB cB nK cK : Nat) (w : World) : Calls Tryz.prog 163 #[.agg #[.int .i64 2, .string text, .string more, .int .i64 n, .int .u64 bits, .int .u64 high, .slice AB nB cB, .slice AK nK cK]] w fun e w' => e = .returned (bareV 2 n bits high text more (.slice AB nB cB) (.slice AK nK cK)) ∧ Below w.heap.size w w' := by
  have hu := Tryz.underlying44
  go_enter Tryz.func163, Tryz.ntmps163
  go_wp2
  exact bodyPost_ret (v := .agg #[.int .i64 2, .string ⟨#[]⟩, .string more, .int .i64 n, .int .u64 bits, .int .u64 high, .slice AB nB cB, .slice AK nK cK]) (by simp [results, Tryz.results163, go_sem]) rfl ⟨by rfl, by first | exact (((Below.refl _ _).alloc (Nat.le_refl _) _).alloc (by simp) _) | (repeat (first | exact (((Below.refl _ _).alloc (Nat.le_refl _) _).alloc (by simp) _) | (refine Below.setCell ?_ (by simp) _)))⟩
theorem docBare_3 (n bits high : Int) (text more : ByteArray) (AB AK : Option Addr) (nB cB nK cK : Nat) (w : World) : Calls Tryz.prog 163 #[.agg #[.int .i64 3, .string text, .string more, .int .i64 n, .int .u64 bits, .int .u64 high, .slice AB nB cB, .slice AK nK cK]] w fun e w' => e = .returned (bareV 3 n bits high text more (.slice AB nB cB) (.slice AK nK cK)) ∧ Below w.heap.size w w' := by
  have hu := Tryz.underlying44
  go_enter Tryz.func163, Tryz.ntmps163
  go_wp2
  exact bodyPost_ret (v := .agg #[.int .i64 3, .string text, .string more, .int .i64 n, .int .u64 bits, .int .u64 high, .slice AB nB cB, .slice none 0 0]) (by simp [results, Tryz.results163, go_sem]) rfl ⟨by rfl, by first | exact (((Below.refl _ _).alloc (Nat.le_refl _) _).alloc (by simp) _) | (repeat (first | exact (((Below.refl _ _).alloc (Nat.le_refl _) _).alloc (by simp) _) | (refine Below.setCell ?_ (by simp) _)))⟩
theorem docBare_4 (n bits high : Int) (text more : ByteArray) (AB AK : Option Addr) (nB cB nK cK : Nat) (w : World) : Calls Tryz.prog 163 #[.agg #[.int .i64 4, .string text, .string more, .int .i64 n, .int .u64 bits, .int .u64 high, .slice AB nB cB, .slice AK nK cK]] w fun e w' => e = .returned (bareV 4 n bits high text more (.slice AB nB cB) (.slice AK nK cK)) ∧ Below w.heap.size w w' := by
  have hu := Tryz.underlying44
  go_enter Tryz.func163, Tryz.ntmps163
  go_wp2
  exact bodyPost_ret (v := .agg #[.int .i64 4, .string text, .string more, .int .i64 n, .int .u64 bits, .int .u64 high, .slice AB nB cB, .slice none 0 0]) (by simp [results, Tryz.results163, go_sem]) rfl ⟨by rfl, by first | exact (((Below.refl _ _).alloc (Nat.le_refl _) _).alloc (by simp) _) | (repeat (first | exact (((Below.refl _ _).alloc (Nat.le_refl _) _).alloc (by simp) _) | (refine Below.setCell ?_ (by simp) _)))⟩
theorem docBare_5 (n bits high : Int) (text more : ByteArray) (AB AK : Option Addr) (nB cB nK cK : Nat) (w : World) : Calls Tryz.prog 163 #[.agg #[.int .i64 5, .string text, .string more, .int .i64 n, .int .u64 bits, .int .u64 high, .slice AB nB cB, .slice AK nK cK]] w fun e w' => e = .returned (bareV 5 n bits high text more (.slice AB nB cB) (.slice AK nK cK)) ∧ Below w.heap.size w w' := by
  have hu := Tryz.underlying44
  go_enter Tryz.func163, Tryz.ntmps163
  go_wp2
  exact bodyPost_ret (v := .agg #[.int .i64 5, .string text, .string more, .int .i64 0, .int .u64 bits, .int .u64 high, .slice none 0 0, .slice AK nK cK]) (by simp [results, Tryz.results163, go_sem]) rfl ⟨by rfl, by first | exact (((Below.refl _ _).alloc (Nat.le_refl _) _).alloc (by simp) _) | (repeat (first | exact (((Below.refl _ _).alloc (Nat.le_refl _) _).alloc (by simp) _) | (refine Below.setCell ?_ (by simp) _)))⟩
theorem docBare_7 (n bits high : Int) (text more : ByteArray) (AB AK : Option Addr) (nB cB nK cK : Nat) (w : World) : Calls Tryz.prog 163 #[.agg #[.int .i64 7, .string text, .string more, .int .i64 n, .int .u64 bits, .int .u64 high, .slice AB nB cB, .slice AK nK cK]] w fun e w' => e = .returned (bareV 7 n bits high text more (.slice AB nB cB) (.slice AK nK cK)) ∧ Below w.heap.size w w' := by
  have hu := Tryz.underlying44
  go_enter Tryz.func163, Tryz.ntmps163
  go_wp2
  exact bodyPost_ret (v := .agg #[.int .i64 7, .string text, .string more, .int .i64 n, .int .u64 bits, .int .u64 high, .slice none 0 0, .slice AK nK cK]) (by simp [results, Tryz.results163, go_sem]) rfl ⟨by rfl, by first | exact (((Below.refl _ _).alloc (Nat.le_refl _) _).alloc (by simp) _) | (repeat (first | exact (((Below.refl _ _).alloc (Nat.le_refl _) _).alloc (by simp) _) | (refine Below.setCell ?_ (by simp) _)))⟩
theorem docBare_8 (n bits high : Int) (text more : ByteArray) (AB AK : Option Addr) (nB cB nK cK : Nat) (w : World) : Calls Tryz.prog 163 #[.agg #[.int .i64 8, .string text, .string more, .int .i64 n, .int .u64 bits, .int .u64 high, .slice AB nB cB, .slice AK nK cK]] w fun e w' => e = .returned (bareV 8 n bits high text more (.slice AB nB cB) (.slice AK nK cK)) ∧ Below w.heap.size w w' := by
  have hu := Tryz.underlying44
  go_enter Tryz.func163, Tryz.ntmps163
  go_wp2
  exact bodyPost_ret (v := .agg #[.int .i64 8, .string text, .string more, .int .i64 0, .int .u64 bits, .int .u64 high, .slice AB nB cB, .slice AK nK cK]) (by simp [results, Tryz.results163, go_sem]) rfl ⟨by rfl, by first | exact (((Below.refl _ _).alloc (Nat.le_refl _) _).alloc (by simp) _) | (repeat (first | exact (((Below.refl _ _).alloc (Nat.le_refl _) _).alloc (by simp) _) | (refine Below.setCell ?_ (by simp) _)))⟩
theorem docBare_9 (n bits high : Int) (text more : ByteArray) (AB AK : Option Addr) (nB cB nK cK : Nat) (w : World) : Calls Tryz.prog 163 #[.agg #[.int .i64 9, .string text, .string more, .int .i64 n, .int .u64 bits, .int .u64 high, .slice AB nB cB, .slice AK nK cK]] w fun e w' => e = .returned (bareV 9 n bits high text more (.slice AB nB cB) (.slice AK nK cK)) ∧ Below w.heap.size w w' := by
  have hu := Tryz.underlying44
  go_enter Tryz.func163, Tryz.ntmps163
  go_wp2
  exact bodyPost_ret (v := .agg #[.int .i64 9, .string text, .string more, .int .i64 0, .int .u64 bits, .int .u64 high, .slice AB nB cB, .slice AK nK cK]) (by simp [results, Tryz.results163, go_sem]) rfl ⟨by rfl, by first | exact (((Below.refl _ _).alloc (Nat.le_refl _) _).alloc (by simp) _) | (repeat (first | exact (((Below.refl _ _).alloc (Nat.le_refl _) _).alloc (by simp) _) | (refine Below.setCell ?_ (by simp) _)))⟩
theorem docBare_11 (n bits high : Int) (text more : ByteArray) (AB AK : Option Addr) (nB cB nK cK : Nat) (w : World) : Calls Tryz.prog 163 #[.agg #[.int .i64 11, .string text, .string more, .int .i64 n, .int .u64 bits, .int .u64 high, .slice AB nB cB, .slice AK nK cK]] w fun e w' => e = .returned (bareV 11 n bits high text more (.slice AB nB cB) (.slice AK nK cK)) ∧ Below w.heap.size w w' := by
  have hu := Tryz.underlying44
  go_enter Tryz.func163, Tryz.ntmps163
  go_wp2
  exact bodyPost_ret (v := .agg #[.int .i64 11, .string ⟨#[]⟩, .string ⟨#[]⟩, .int .i64 n, .int .u64 bits, .int .u64 high, .slice AB nB cB, .slice AK nK cK]) (by simp [results, Tryz.results163, go_sem]) rfl ⟨by rfl, by first | exact (((Below.refl _ _).alloc (Nat.le_refl _) _).alloc (by simp) _) | (repeat (first | exact (((Below.refl _ _).alloc (Nat.le_refl _) _).alloc (by simp) _) | (refine Below.setCell ?_ (by simp) _)))⟩
theorem docBare_12 (n bits high : Int) (text more : ByteArray) (AB AK : Option Addr) (nB cB nK cK : Nat) (w : World) : Calls Tryz.prog 163 #[.agg #[.int .i64 12, .string text, .string more, .int .i64 n, .int .u64 bits, .int .u64 high, .slice AB nB cB, .slice AK nK cK]] w fun e w' => e = .returned (bareV 12 n bits high text more (.slice AB nB cB) (.slice AK nK cK)) ∧ Below w.heap.size w w' := by
  have hu := Tryz.underlying44
  go_enter Tryz.func163, Tryz.ntmps163
  go_wp2
  exact bodyPost_ret (v := .agg #[.int .i64 12, .string ⟨#[]⟩, .string more, .int .i64 n, .int .u64 bits, .int .u64 high, .slice none 0 0, .slice AK nK cK]) (by simp [results, Tryz.results163, go_sem]) rfl ⟨by rfl, by first | exact (((Below.refl _ _).alloc (Nat.le_refl _) _).alloc (by simp) _) | (repeat (first | exact (((Below.refl _ _).alloc (Nat.le_refl _) _).alloc (by simp) _) | (refine Below.setCell ?_ (by simp) _)))⟩
theorem docBare_13 (n bits high : Int) (text more : ByteArray) (AB AK : Option Addr) (nB cB nK cK : Nat) (w : World) : Calls Tryz.prog 163 #[.agg #[.int .i64 13, .string text, .string more, .int .i64 n, .int .u64 bits, .int .u64 high, .slice AB nB cB, .slice AK nK cK]] w fun e w' => e = .returned (bareV 13 n bits high text more (.slice AB nB cB) (.slice AK nK cK)) ∧ Below w.heap.size w w' := by
  have hu := Tryz.underlying44
  go_enter Tryz.func163, Tryz.ntmps163
  go_wp2
  exact bodyPost_ret (v := .agg #[.int .i64 13, .string ⟨#[]⟩, .string more, .int .i64 n, .int .u64 bits, .int .u64 high, .slice AB nB cB, .slice AK nK cK]) (by simp [results, Tryz.results163, go_sem]) rfl ⟨by rfl, by first | exact (((Below.refl _ _).alloc (Nat.le_refl _) _).alloc (by simp) _) | (repeat (first | exact (((Below.refl _ _).alloc (Nat.le_refl _) _).alloc (by simp) _) | (refine Below.setCell ?_ (by simp) _)))⟩
theorem docBare_14 (n bits high : Int) (text more : ByteArray) (AB AK : Option Addr) (nB cB nK cK : Nat) (w : World) : Calls Tryz.prog 163 #[.agg #[.int .i64 14, .string text, .string more, .int .i64 n, .int .u64 bits, .int .u64 high, .slice AB nB cB, .slice AK nK cK]] w fun e w' => e = .returned (bareV 14 n bits high text more (.slice AB nB cB) (.slice AK nK cK)) ∧ Below w.heap.size w w' := by
  have hu := Tryz.underlying44
  go_enter Tryz.func163, Tryz.ntmps163
  go_wp2
  exact bodyPost_ret (v := .agg #[.int .i64 14, .string ⟨#[]⟩, .string more, .int .i64 n, .int .u64 bits, .int .u64 high, .slice AB nB cB, .slice AK nK cK]) (by simp [results, Tryz.results163, go_sem]) rfl ⟨by rfl, by first | exact (((Below.refl _ _).alloc (Nat.le_refl _) _).alloc (by simp) _) | (repeat (first | exact (((Below.refl _ _).alloc (Nat.le_refl _) _).alloc (by simp) _) | (refine Below.setCell ?_ (by simp) _)))⟩
theorem docBare_15 (n bits high : Int) (text more : ByteArray) (AB AK : Option Addr) (nB cB nK cK : Nat) (w : World) : Calls Tryz.prog 163 #[.agg #[.int .i64 15, .string text, .string more, .int .i64 n, .int .u64 bits, .int .u64 high, .slice AB nB cB, .slice AK nK cK]] w fun e w' => e = .returned (bareV 15 n bits high text more (.slice AB nB cB) (.slice AK nK cK)) ∧ Below w.heap.size w w' := by
  have hu := Tryz.underlying44
  go_enter Tryz.func163, Tryz.ntmps163
  go_wp2
  exact bodyPost_ret (v := .agg #[.int .i64 15, .string ⟨#[]⟩, .string more, .int .i64 n, .int .u64 bits, .int .u64 high, .slice AB nB cB, .slice none 0 0]) (by simp [results, Tryz.results163, go_sem]) rfl ⟨by rfl, by first | exact (((Below.refl _ _).alloc (Nat.le_refl _) _).alloc (by simp) _) | (repeat (first | exact (((Below.refl _ _).alloc (Nat.le_refl _) _).alloc (by simp) _) | (refine Below.setCell ?_ (by simp) _)))⟩
theorem docBare_16 (n bits high : Int) (text more : ByteArray) (AB AK : Option Addr) (nB cB nK cK : Nat) (w : World) : Calls Tryz.prog 163 #[.agg #[.int .i64 16, .string text, .string more, .int .i64 n, .int .u64 bits, .int .u64 high, .slice AB nB cB, .slice AK nK cK]] w fun e w' => e = .returned (bareV 16 n bits high text more (.slice AB nB cB) (.slice AK nK cK)) ∧ Below w.heap.size w w' := by
  have hu := Tryz.underlying44
  go_enter Tryz.func163, Tryz.ntmps163
  go_wp2
  exact bodyPost_ret (v := .agg #[.int .i64 16, .string text, .string more, .int .i64 0, .int .u64 bits, .int .u64 high, .slice AB nB cB, .slice AK nK cK]) (by simp [results, Tryz.results163, go_sem]) rfl ⟨by rfl, by first | exact (((Below.refl _ _).alloc (Nat.le_refl _) _).alloc (by simp) _) | (repeat (first | exact (((Below.refl _ _).alloc (Nat.le_refl _) _).alloc (by simp) _) | (refine Below.setCell ?_ (by simp) _)))⟩
theorem docBare_17 (n bits high : Int) (text more : ByteArray) (AB AK : Option Addr) (nB cB nK cK : Nat) (w : World) : Calls Tryz.prog 163 #[.agg #[.int .i64 17, .string text, .string more, .int .i64 n, .int .u64 bits, .int .u64 high, .slice AB nB cB, .slice AK nK cK]] w fun e w' => e = .returned (bareV 17 n bits high text more (.slice AB nB cB) (.slice AK nK cK)) ∧ Below w.heap.size w w' := by
  have hu := Tryz.underlying44
  go_enter Tryz.func163, Tryz.ntmps163
  go_wp2
  exact bodyPost_ret (v := .agg #[.int .i64 17, .string text, .string more, .int .i64 n, .int .u64 0, .int .u64 high, .slice AB nB cB, .slice AK nK cK]) (by simp [results, Tryz.results163, go_sem]) rfl ⟨by rfl, by first | exact (((Below.refl _ _).alloc (Nat.le_refl _) _).alloc (by simp) _) | (repeat (first | exact (((Below.refl _ _).alloc (Nat.le_refl _) _).alloc (by simp) _) | (refine Below.setCell ?_ (by simp) _)))⟩
theorem docBare_18 (n bits high : Int) (text more : ByteArray) (AB AK : Option Addr) (nB cB nK cK : Nat) (w : World) : Calls Tryz.prog 163 #[.agg #[.int .i64 18, .string text, .string more, .int .i64 n, .int .u64 bits, .int .u64 high, .slice AB nB cB, .slice AK nK cK]] w fun e w' => e = .returned (bareV 18 n bits high text more (.slice AB nB cB) (.slice AK nK cK)) ∧ Below w.heap.size w w' := by
  have hu := Tryz.underlying44
  go_enter Tryz.func163, Tryz.ntmps163
  go_wp2
  exact bodyPost_ret (v := .agg #[.int .i64 18, .string text, .string more, .int .i64 0, .int .u64 bits, .int .u64 high, .slice AB nB cB, .slice AK nK cK]) (by simp [results, Tryz.results163, go_sem]) rfl ⟨by rfl, by first | exact (((Below.refl _ _).alloc (Nat.le_refl _) _).alloc (by simp) _) | (repeat (first | exact (((Below.refl _ _).alloc (Nat.le_refl _) _).alloc (by simp) _) | (refine Below.setCell ?_ (by simp) _)))⟩
theorem docBare_19 (n bits high : Int) (text more : ByteArray) (AB AK : Option Addr) (nB cB nK cK : Nat) (w : World) : Calls Tryz.prog 163 #[.agg #[.int .i64 19, .string text, .string more, .int .i64 n, .int .u64 bits, .int .u64 high, .slice AB nB cB, .slice AK nK cK]] w fun e w' => e = .returned (bareV 19 n bits high text more (.slice AB nB cB) (.slice AK nK cK)) ∧ Below w.heap.size w w' := by
  have hu := Tryz.underlying44
  go_enter Tryz.func163, Tryz.ntmps163
  go_wp2
  exact bodyPost_ret (v := .agg #[.int .i64 19, .string text, .string more, .int .i64 n, .int .u64 0, .int .u64 0, .slice AB nB cB, .slice AK nK cK]) (by simp [results, Tryz.results163, go_sem]) rfl ⟨by rfl, by first | exact (((Below.refl _ _).alloc (Nat.le_refl _) _).alloc (by simp) _) | (repeat (first | exact (((Below.refl _ _).alloc (Nat.le_refl _) _).alloc (by simp) _) | (refine Below.setCell ?_ (by simp) _)))⟩
theorem docBare_other (k : Int) (n bits high : Int) (text more : ByteArray) (AB AK : Option Addr) (nB cB nK cK : Nat) (w : World) (hk : ∀ c ∈ [(1 : Int), (2 : Int), (3 : Int), (4 : Int), (5 : Int), (7 : Int), (8 : Int), (9 : Int), (11 : Int), (12 : Int), (13 : Int), (14 : Int), (15 : Int), (16 : Int), (17 : Int), (18 : Int), (19 : Int)], k ≠ c) : Calls Tryz.prog 163 #[.agg #[.int .i64 k, .string text, .string more, .int .i64 n, .int .u64 bits, .int .u64 high, .slice AB nB cB, .slice AK nK cK]] w fun e w' => e = .returned (bareV k n bits high text more (.slice AB nB cB) (.slice AK nK cK)) ∧ Below w.heap.size w w' := by
  have hu := Tryz.underlying44
  have e1 : (k == 1) = false := beq_eq_false_iff_ne.2 (hk 1 (by simp))
  have e2 : (k == 2) = false := beq_eq_false_iff_ne.2 (hk 2 (by simp))
  have e3 : (k == 3) = false := beq_eq_false_iff_ne.2 (hk 3 (by simp))
  have e4 : (k == 4) = false := beq_eq_false_iff_ne.2 (hk 4 (by simp))
  have e5 : (k == 5) = false := beq_eq_false_iff_ne.2 (hk 5 (by simp))
  have e7 : (k == 7) = false := beq_eq_false_iff_ne.2 (hk 7 (by simp))
  have e8 : (k == 8) = false := beq_eq_false_iff_ne.2 (hk 8 (by simp))
  have e9 : (k == 9) = false := beq_eq_false_iff_ne.2 (hk 9 (by simp))
  have e11 : (k == 11) = false := beq_eq_false_iff_ne.2 (hk 11 (by simp))
  have e12 : (k == 12) = false := beq_eq_false_iff_ne.2 (hk 12 (by simp))
  have e13 : (k == 13) = false := beq_eq_false_iff_ne.2 (hk 13 (by simp))
  have e14 : (k == 14) = false := beq_eq_false_iff_ne.2 (hk 14 (by simp))
  have e15 : (k == 15) = false := beq_eq_false_iff_ne.2 (hk 15 (by simp))
  have e16 : (k == 16) = false := beq_eq_false_iff_ne.2 (hk 16 (by simp))
  have e17 : (k == 17) = false := beq_eq_false_iff_ne.2 (hk 17 (by simp))
  have e18 : (k == 18) = false := beq_eq_false_iff_ne.2 (hk 18 (by simp))
  have e19 : (k == 19) = false := beq_eq_false_iff_ne.2 (hk 19 (by simp))
  have hv : bareV k n bits high text more (.slice AB nB cB) (.slice AK nK cK) = .agg #[.int .i64 k, .string text, .string more, .int .i64 n, .int .u64 bits, .int .u64 high, .slice AB nB cB, .slice AK nK cK] := by
    simp [bareV, bareText, bareMore, bareN, bareBits, bareHigh, bareBy, bareKids, e1, e2, e3, e4, e5, e7, e8, e9, e11, e12, e13, e14, e15, e16, e17, e18, e19]
  rw [hv]; clear hv hk
  go_enter Tryz.func163, Tryz.ntmps163
  go_wp2
  exact bodyPost_ret (v := .agg #[.int .i64 k, .string text, .string more, .int .i64 n, .int .u64 bits, .int .u64 high, .slice AB nB cB, .slice AK nK cK]) (by simp [results, Tryz.results163, go_sem]) rfl ⟨by rfl, by first | exact (((Below.refl _ _).alloc (Nat.le_refl _) _).alloc (by simp) _) | (repeat (first | exact (((Below.refl _ _).alloc (Nat.le_refl _) _).alloc (by simp) _) | (refine Below.setCell ?_ (by simp) _)))⟩
theorem docBare_calls (k : Int) (n bits high : Int) (text more : ByteArray) (AB AK : Option Addr) (nB cB nK cK : Nat) (w : World) : Calls Tryz.prog 163 #[.agg #[.int .i64 k, .string text, .string more, .int .i64 n, .int .u64 bits, .int .u64 high, .slice AB nB cB, .slice AK nK cK]] w fun e w' => e = .returned (bareV k n bits high text more (.slice AB nB cB) (.slice AK nK cK)) ∧ Below w.heap.size w w' := by
  by_cases h1 : k = 1
  · subst h1; exact docBare_1 n bits high text more AB AK nB cB nK cK w
  by_cases h2 : k = 2
  · subst h2; exact docBare_2 n bits high text more AB AK nB cB nK cK w
  by_cases h3 : k = 3
  · subst h3; exact docBare_3 n bits high text more AB AK nB cB nK cK w
  by_cases h4 : k = 4
  · subst h4; exact docBare_4 n bits high text more AB AK nB cB nK cK w
  by_cases h5 : k = 5
  · subst h5; exact docBare_5 n bits high text more AB AK nB cB nK cK w
  by_cases h7 : k = 7
  · subst h7; exact docBare_7 n bits high text more AB AK nB cB nK cK w
  by_cases h8 : k = 8
  · subst h8; exact docBare_8 n bits high text more AB AK nB cB nK cK w
  by_cases h9 : k = 9
  · subst h9; exact docBare_9 n bits high text more AB AK nB cB nK cK w
  by_cases h11 : k = 11
  · subst h11; exact docBare_11 n bits high text more AB AK nB cB nK cK w
  by_cases h12 : k = 12
  · subst h12; exact docBare_12 n bits high text more AB AK nB cB nK cK w
  by_cases h13 : k = 13
  · subst h13; exact docBare_13 n bits high text more AB AK nB cB nK cK w
  by_cases h14 : k = 14
  · subst h14; exact docBare_14 n bits high text more AB AK nB cB nK cK w
  by_cases h15 : k = 15
  · subst h15; exact docBare_15 n bits high text more AB AK nB cB nK cK w
  by_cases h16 : k = 16
  · subst h16; exact docBare_16 n bits high text more AB AK nB cB nK cK w
  by_cases h17 : k = 17
  · subst h17; exact docBare_17 n bits high text more AB AK nB cB nK cK w
  by_cases h18 : k = 18
  · subst h18; exact docBare_18 n bits high text more AB AK nB cB nK cK w
  by_cases h19 : k = 19
  · subst h19; exact docBare_19 n bits high text more AB AK nB cB nK cK w
  exact docBare_other k n bits high text more AB AK nB cB nK cK w (by
    intro c hc
    simp only [List.mem_cons, List.not_mem_nil, or_false] at hc
    rcases hc with rfl | rfl | rfl | rfl | rfl | rfl | rfl | rfl | rfl | rfl | rfl | rfl | rfl | rfl | rfl | rfl | rfl <;> assumption)
def spec_DocDigits.f : Nat → Int → Option (ByteArray)
  | 0, _ => none
  | k + 1, a0 => if a0 < 10 then (some (strOfNums (([(wrap64 (48 + a0)) % 256] : List Int)))) else ((spec_DocDigits.f k (wrap64 (Int.tdiv a0 10))).bind fun t554 => ((some (([(wrap64 (48 + (Int.tmod a0 10))) % 256] : List Int) : List Int)).bind fun y555 => (if t554.size + (strOfNums y555).size ≤ 9223372036854775807 then (some (t554 ++ (strOfNums y555))) else (none))))
theorem spec_DocDigits.mono_l : ∀ k, (∀ y0, LeO (spec_DocDigits.f k y0) (spec_DocDigits.f (k + 1) y0))
  | 0 => fun _ r h => by simp [spec_DocDigits.f] at h
  | k + 1 => by
    have ih0 := spec_DocDigits.mono_l k
    · intro y0
      unfold spec_DocDigits.f
      have m0_ := @ih0; exact HW.mo
theorem spec_DocDigits.mono : ∀ a0 k, LeO (spec_DocDigits.f k a0) (spec_DocDigits.f (k + 1) a0) := by
  intro a0 k
  have ih0 := spec_DocDigits.mono_l k
  exact ih0 a0
def spec_DocDigits.T3 : Bool × List (List Nat × List Nat) := (true, [([], []), ([0], [0]), ([1], [1]), ([], []), ([3], [3]), ([4], [4]), ([5], [5]), ([6], [6]), ([7], [7]), ([2, 8], [2, 8]), ([9, 2, 0, 1, 2, 3, 4, 5, 6, 7, 8, 9], [9])])
def spec_DocDigits.B3 : List Nat := [0, 1, 3, 0, 8, 24, 56, 120, 248, 511, 1023]
theorem spec_DocDigits.tab3 : rtab .any (opsOf Tryz.f164 3) = spec_DocDigits.T3 := by kernel_rfl
theorem spec_DocDigits.bits3 : waitsOk spec_DocDigits.T3.2 spec_DocDigits.B3 = true := by kernel_rfl
theorem spec_DocDigits.calls (k : Nat) : ∀ (a0 : Int) (r : ByteArray) (w : World) (h : spec_DocDigits.f k a0 = some r),
    Calls Tryz.prog 164 #[.int .i64 a0] w fun e w' => e = .returned (.string r) ∧ Below w.heap.size w w' := by
  induction k using Nat.strongRecOn with
  | _ k ih =>
  intro a0 r w h
  cases k with
  | zero => exact absurd h (by simp [spec_DocDigits.f])
  | succ k =>
  simp only [spec_DocDigits.f] at h
  have HB := Aside0.mk (Below.refl w.heap.size w); have H : (if a0 < 10 then (some (strOfNums (([(wrap64 (48 + a0)) % 256] : List Int)))) else ((spec_DocDigits.f k (wrap64 (Int.tdiv a0 10))).bind fun t554 => ((some (([(wrap64 (48 + (Int.tmod a0 10))) % 256] : List Int) : List Int)).bind fun y555 => (if t554.size + (strOfNums y555).size ≤ 9223372036854775807 then (some (t554 ++ (strOfNums y555))) else (none))))) = some r := h; clear h
  by_cases c2 : a0 < 10
  · rw [if_pos c2] at H
    have c2b0 : decide (a0 < 10) = true := decide_eq_true c2; clear c2; obtain ⟨y551, hy551⟩ : ∃ y_ : List Int, y_ = (([(wrap64 (48 + a0)) % 256] : List Int)) := ⟨_, rfl⟩
    replace H : (some (strOfNums y551)) = some r := by (try rw [hy551]); exact HW.rp
    have Ny551 := Aside0.mk hy551; clear hy551
    as_aux_lemma =>
      obtain rfl := Option.some.inj H
      go_enter Tryz.func164, Tryz.ntmps164
      go_wp2_with (first | ((with_reducible refine gate_dst (N := 8) rfl ?_); refine Kd.R_lit (Kd.int .u8) _ 5 ?hg (N := 8) ?hd (xs := ([(wrap64 (48 + a0)) % 256] : List Int)) (inner := [.int .u8 ((wrap64 (48 + a0)) % 256)]) (ok := fun _ => True) (okp := fun _ => True) ?hr ?hp (fun _ hk => hk) trivial (Below.refl _ _) (Nat.le_refl _) (by simp) ?_; (case hd => rfl); (case hg => rfl); (case hr => first | (go_simp; done) | (go_simp; rfl)); (case hp => exact (Reps.one (show Kd.M (Kd.int .u8) _ _ _ ((wrap64 (48 + a0)) % 256) [.int .u8 ((wrap64 (48 + a0)) % 256)] from rfl) (Reps.none _ _))); intro v552 w3 ho4 hb hg_ hnew_; clear hg_ hnew_; (first | rw [← Ny551.out] at ho4 | (simp only [Int.reduceToNat] at ho4; rw [← Ny551.out] at ho4)); have HO553 := Aside0.mk (Kd.R_lower ho4 (below_size HW.zb)); replace HB := Aside0.mk (below_step HW.zb hb); clear hb ho4; have hcv5 := own_string (P := Tryz.prog) Tryz.underlying22 Tryz.underlying5 Tryz.underlying9 (Kd.own_of_R HO553.out)))
      go_ret
      exact ⟨rfl, HW.zb⟩
  rw [if_neg c2] at H; have c2b0 : decide (a0 < 10) = false := decide_eq_false c2; clear c2; replace H := Option.bind_eq_some_iff.mp H; obtain ⟨t554, A60, H⟩ := H; replace H : ((some (([(wrap64 (48 + (Int.tmod a0 10))) % 256] : List Int) : List Int)).bind fun y555 => (if t554.size + (strOfNums y555).size ≤ 9223372036854775807 then (some (t554 ++ (strOfNums y555))) else (none))) = some r := H; have A6 := Aside0.mk A60; clear A60; obtain ⟨y555, hy555⟩ : ∃ y_ : List Int, y_ = (([(wrap64 (48 + (Int.tmod a0 10))) % 256] : List Int)) := ⟨_, rfl⟩
  replace H : (if t554.size + (strOfNums y555).size ≤ 9223372036854775807 then (some (t554 ++ (strOfNums y555))) else (none)) = some r := by (try rw [hy555]); exact HW.rp
  have Ny555 := Aside0.mk hy555; clear hy555
  by_cases c7 : t554.size + (strOfNums y555).size ≤ 9223372036854775807
  rotate_left
  · rw [if_neg c7] at H
    exact absurd H (by simp)
  rw [if_pos c7] at H; have c7b0 := eq_true c7; have c7b1 : decide (t554.size + (strOfNums y555).size ≤ 9223372036854775807) = true := decide_eq_true c7
  try have c7b2 : (9223372036854775807 < t554.size + (strOfNums y555).size) = False := eq_false (Nat.not_lt.2 c7)
  as_aux_lemma =>
    obtain rfl := Option.some.inj H
    go_enter Tryz.func164, Tryz.ntmps164
    try go_wp2
    have n0_ := Aside0.mk (below_drew1 HB.out); clear HB; have HB := n0_; clear n0_
    refine start_ (n := 11) (S := fun w' => True) (ds := []) #[ff,ff,ff,ff,ff,ff,ff,ff,ff,ff,ff] (by kernel_rfl) rfl rfl trivial (fun hHeld => ?_); refine with_tabW spec_DocDigits.tab3 spec_DocDigits.bits3 (fun HT_ HW_ => ?_)
    generalize w.drew = w8 at HB hHeld ⊢
    refine HW.pz (i := 0) (N := some 10) #[tt,ff,ff,ff,ff,ff,ff,ff,ff,ff,ff] ?_ (hc := any_of HT_.out (by kernel_rfl))
    refine HW.pz (i := 1) (N := some 11) #[tt,tt,ff,ff,ff,ff,ff,ff,ff,ff,ff] ?_ (hc := any_of HT_.out (by kernel_rfl))
    refine HW.pz (i := 3) (N := some 13) #[tt,tt,ff,tt,ff,ff,ff,ff,ff,ff,ff] ?_ (hc := any_of HT_.out (by kernel_rfl))
    refine HW.pz (i := 4) (N := some 14) #[tt,tt,ff,tt,tt,ff,ff,ff,ff,ff,ff] ?_ (hc := any_of HT_.out (by kernel_rfl))
    refine HW.pz (i := 5) (N := some 15) #[tt,tt,ff,tt,tt,tt,ff,ff,ff,ff,ff] ?_ (hc := any_of HT_.out (by kernel_rfl))
    refine HW.pz (i := 6) (N := some 16) #[tt,tt,ff,tt,tt,tt,tt,ff,ff,ff,ff] ?_ (hc := any_of HT_.out (by kernel_rfl))
    refine join_ (σ := Value) 2 #[tt,tt,tt,tt,tt,tt,tt,tt,tt,ff,ff] (fun s_ => [(12, .string t554), (17, s_), (18, .string (strOfNums y555))]) (fun s_ w' => (Kd.R (Kd.int .u8) 5 w' w.heap.size (fun _ => True) s_ y555) ∧ (Below w.heap.size w w')) ?_ ?_
    rotate_left
    · intro hCont
      refine two_ (i := 2) (j := 7) (Ni := some 12) (Nj := some 17) #[tt,tt,tt,tt,tt,tt,tt,ff,ff,ff,ff] #[tt,tt,ff,tt,tt,tt,tt,tt,ff,ff,ff] rfl rfl rfl rfl (two_of HT_.out (by kernel_rfl)) (by decide) (by decide) (fun K hK => ?_) (fun K hK => ?_)
      · skip
        refine goes_ Tryz.func164 (by kernel_rfl) rfl #[.int .i64 (wrap64 (Int.tdiv a0 10))] (by rfl) rfl rfl HW.mt ?_
        with_reducible refine (ih k (by omega) (wrap64 (Int.tdiv a0 10)) t554 _ A6.out).mono ?_
        rintro e w9 ⟨rfl, hb⟩
        refine ⟨_, rfl, ?_⟩
        have n0_ := Aside0.mk (below_step HW.zb hb); clear HB; have HB := n0_; clear n0_
        (try clear hb)
        refine hK.out _ _ trivial (fun hHeld => ?_)
        clear hK K
        refine HW.nz (N := (some 12)) ?_
        refine one_ (i := 7) (N := some 17) #[tt,tt,tt,tt,tt,tt,tt,tt,ff,ff,ff] rfl rfl (one_of HT_.out (by kernel_rfl)) (by decide) (fun K hK => ?_)
        refine Kd.R_lit_step (Kd.int .u8) _ 5 ?hg (N := 17) ?hd (xs := ([(wrap64 (48 + (Int.tmod a0 10))) % 256] : List Int)) (inner := [.int .u8 ((wrap64 (48 + (Int.tmod a0 10))) % 256)]) (ok := fun _ => True) (okp := fun _ => True) ?hr ?hp (fun _ hk => hk) trivial (Below.refl _ _) (Nat.le_refl _) (by simp) ?_; (case hd => rfl); (case hg => rfl); (case hr => first | (go_simp; done) | (go_simp; rfl)); (case hp => exact (Reps.one (show Kd.M (Kd.int .u8) _ _ _ ((wrap64 (48 + (Int.tmod a0 10))) % 256) [.int .u8 ((wrap64 (48 + (Int.tmod a0 10))) % 256)] from rfl) (Reps.none _ _)))
        intro v556 w10 ho11 hb hg_ hnew_
        clear hg_ hnew_
        (first | rw [← Ny555.out] at ho11 | (simp only [Int.reduceToNat] at ho11; rw [← Ny555.out] at ho11))
        have HO557 := Aside0.mk (Kd.R_lower ho11 (below_size HW.zb)); replace HB := Aside0.mk (below_step HW.zb hb); clear hb ho11
        refine hK.out _ _ trivial (fun hHeld => ?_)
        clear hK K
        refine HW.nz (N := (some 17)) ?_
        refine one_ (i := 8) (N := some 18) #[tt,tt,tt,tt,tt,tt,tt,tt,tt,ff,ff] rfl rfl (one_of HT_.out (by kernel_rfl)) (by decide) (fun K hK => ?_)
        have hcv12 := own_string (P := Tryz.prog) Tryz.underlying22 Tryz.underlying5 Tryz.underlying9 (Kd.own_of_R HO557.out)
        refine value_ (w1 := ?_) (v := ?_) (by rfl) rfl ?_ ?_
        rotate_left 2
        · go_simp
          constructor
          · rfl
          rfl
        clear hcv12
        refine hK.out _ _ trivial (fun hHeld => ?_)
        clear hK K
        refine HW.nz (N := (some 18)) ?_
        exact norm_ (by simp only [putAll, Act.put, List.setIfInBounds_toArray, List.set_cons_zero, List.set_cons_succ, errW_none]) (hCont (v556) _ ⟨(HW.zR HO557.out), HW.zb⟩)
      skip
      refine Kd.R_lit_step (Kd.int .u8) _ 5 ?hg (N := 17) ?hd (xs := ([(wrap64 (48 + (Int.tmod a0 10))) % 256] : List Int)) (inner := [.int .u8 ((wrap64 (48 + (Int.tmod a0 10))) % 256)]) (ok := fun _ => True) (okp := fun _ => True) ?hr ?hp (fun _ hk => hk) trivial (Below.refl _ _) (Nat.le_refl _) (by simp) ?_; (case hd => rfl); (case hg => rfl); (case hr => first | (go_simp; done) | (go_simp; rfl)); (case hp => exact (Reps.one (show Kd.M (Kd.int .u8) _ _ _ ((wrap64 (48 + (Int.tmod a0 10))) % 256) [.int .u8 ((wrap64 (48 + (Int.tmod a0 10))) % 256)] from rfl) (Reps.none _ _)))
      intro v556 w9 ho10 hb hg_ hnew_
      clear hg_ hnew_
      (first | rw [← Ny555.out] at ho10 | (simp only [Int.reduceToNat] at ho10; rw [← Ny555.out] at ho10))
      have HO557 := Aside0.mk (Kd.R_lower ho10 (below_size HW.zb)); replace HB := Aside0.mk (below_step HW.zb hb); clear hb ho10
      refine hK.out _ _ trivial (fun hHeld => ?_)
      clear hK K
      refine HW.nz (N := (some 17)) ?_
      refine two_ (i := 2) (j := 8) (Ni := some 12) (Nj := some 18) #[tt,tt,tt,tt,tt,tt,tt,tt,ff,ff,ff] #[tt,tt,ff,tt,tt,tt,tt,tt,tt,ff,ff] rfl rfl rfl rfl (two_of HT_.out (by kernel_rfl)) (by decide) (by decide) (fun K hK => ?_) (fun K hK => ?_)
      · skip
        refine goes_ Tryz.func164 (by kernel_rfl) rfl #[.int .i64 (wrap64 (Int.tdiv a0 10))] (by rfl) rfl rfl HW.mt ?_
        with_reducible refine (ih k (by omega) (wrap64 (Int.tdiv a0 10)) t554 _ A6.out).mono ?_
        rintro e w11 ⟨rfl, hb⟩
        refine ⟨_, rfl, ?_⟩
        replace HO557 := Aside0.mk (Kd.R_below (HW.zR HO557.out) hb); replace HB := Aside0.mk (below_step HW.zb hb)
        (try clear hb)
        refine hK.out _ _ trivial (fun hHeld => ?_)
        clear hK K
        refine HW.nz (N := (some 12)) ?_
        refine one_ (i := 8) (N := some 18) #[tt,tt,tt,tt,tt,tt,tt,tt,tt,ff,ff] rfl rfl (one_of HT_.out (by kernel_rfl)) (by decide) (fun K hK => ?_)
        have hcv12 := own_string (P := Tryz.prog) Tryz.underlying22 Tryz.underlying5 Tryz.underlying9 (Kd.own_of_R HO557.out)
        refine value_ (w1 := ?_) (v := ?_) (by rfl) rfl ?_ ?_
        rotate_left 2
        · go_simp
          constructor
          · rfl
          rfl
        clear hcv12
        refine hK.out _ _ trivial (fun hHeld => ?_)
        clear hK K
        refine HW.nz (N := (some 18)) ?_
        exact norm_ (by simp only [putAll, Act.put, List.setIfInBounds_toArray, List.set_cons_zero, List.set_cons_succ, errW_none]) (hCont (v556) _ ⟨(HW.zR HO557.out), HW.zb⟩)
      skip
      have hcv11 := own_string (P := Tryz.prog) Tryz.underlying22 Tryz.underlying5 Tryz.underlying9 (Kd.own_of_R HO557.out)
      refine value_ (w1 := ?_) (v := ?_) (by rfl) rfl ?_ ?_
      rotate_left 2
      · go_simp
        constructor
        · rfl
        rfl
      clear hcv11
      refine hK.out _ _ trivial (fun hHeld => ?_)
      clear hK K
      refine HW.nz (N := (some 18)) ?_
      refine one_ (i := 2) (N := some 12) #[tt,tt,tt,tt,tt,tt,tt,tt,tt,ff,ff] rfl rfl (one_of HT_.out (by kernel_rfl)) (by decide) (fun K hK => ?_)
      refine goes_ Tryz.func164 (by kernel_rfl) rfl #[.int .i64 (wrap64 (Int.tdiv a0 10))] (by rfl) rfl rfl HW.mt ?_
      with_reducible refine (ih k (by omega) (wrap64 (Int.tdiv a0 10)) t554 _ A6.out).mono ?_
      rintro e w12 ⟨rfl, hb⟩
      refine ⟨_, rfl, ?_⟩
      replace HO557 := Aside0.mk (Kd.R_below (HW.zR HO557.out) hb); replace HB := Aside0.mk (below_step HW.zb hb)
      (try clear hb)
      refine hK.out _ _ trivial (fun hHeld => ?_)
      clear hK K
      refine HW.nz (N := (some 12)) ?_
      exact norm_ (by simp only [putAll, Act.put, List.setIfInBounds_toArray, List.set_cons_zero, List.set_cons_succ, errW_none]) (hCont (v556) _ ⟨(HW.zR HO557.out), HW.zb⟩)
    rintro v556 w13 ⟨h0_, h1_⟩
    have n0_ : Aside0 (Kd.R (Kd.int .u8) 5 w13 w.heap.size (fun _ => True) v556 y555) := ⟨h0_⟩; have n1_ : Aside0 (Below w.heap.size w w13) := ⟨h1_⟩; clear HB; clear h0_ h1_; have HO557 := n0_; have HB := n1_; clear n0_ n1_; have hHeld := trivial
    refine norm_ (a' := ?_) ?_ ?_
    rotate_left
    · simp only [putAll, Act.put, List.setIfInBounds_toArray, List.set_cons_zero, List.set_cons_succ, errW_none]
      rfl
    refine HW.pz (i := 9) (N := some 19) #[tt,tt,tt,tt,tt,tt,tt,tt,tt,tt,ff] ?_ (hc := any_of HT_.out (by kernel_rfl))
    refine HW.pz (i := 10) (N := some 2) #[tt,tt,tt,tt,tt,tt,tt,tt,tt,tt,tt] ?_ (hc := any_of HT_.out (by kernel_rfl))
    refine done_ (done_of HT_.out (by kernel_rfl)) ?_
    try go_wp2
    go_ret
    exact ⟨rfl, HW.zb⟩
end Go.Proofs.YtanecebppagakaaGreatDoor.PSx
