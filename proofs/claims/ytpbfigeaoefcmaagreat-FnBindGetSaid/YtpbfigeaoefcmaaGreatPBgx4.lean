import Derived.Test.YtpbfigeaoefcmaaGreatPBgx0
import Derived.Test.YtpbfigeaoefcmaaGreatPBgx1
import Derived.Test.YtpbfigeaoefcmaaGreatPBgx3
namespace Go.Proofs.YtpbfigeaoefcmaaGreat.PBg
open Go.Proofs.YtpbfigeaoefcmaaGreat.HW (tt ff)
open Go.RowKit Go.Proofs.YtpbfigeaoefcmaaGreatW.PrintWords Go.Proofs.YtpbfigeaoefcmaaGreatW.PrintLast Go.Proofs.YtpbfigeaoefcmaaGreatW.PrintMore
attribute [local go_sem] max2_int min2_int max_two min_two max_three min_three max_four min_four
set_option linter.unusedVariables false
set_option maxHeartbeats 8000000
set_option maxRecDepth 100000
set_option linter.unusedSimpArgs false
def spec_DocRight.f (a0_0 : Int) (a0_1 : ByteArray) (a0_2 : ByteArray) (a0_3 : Int) (a0_4 : Int) (a0_5 : Int) (l0_6 : List Int) (l0_7 : List (S89)) : Option (Bool) := (spec_docRight.f a0_0 a0_1 a0_2 a0_3 a0_4 a0_5 l0_6 l0_7 200).bind fun t113 => (some t113)
theorem spec_DocRight.calls (a0_0 : Int) (a0_1 : ByteArray) (a0_2 : ByteArray) (a0_3 : Int) (a0_4 : Int) (a0_5 : Int) (A0_6 : Option Addr) (c0_6 : Nat) (l0_6 : List Int) (A0_7 : Option Addr) (c0_7 : Nat) (l0_7 : List (S89)) (r : Bool) (w : World) (hr0_6 : Kd.C (Kd.int .u8) w A0_6 l0_6.length l0_6) (hc0_6 : l0_6.length ≤ c0_6) (hr0_7 : Kd.C k89 w A0_7 l0_7.length l0_7) (hc0_7 : l0_7.length ≤ c0_7) (h : spec_DocRight.f a0_0 a0_1 a0_2 a0_3 a0_4 a0_5 l0_6 l0_7 = some r) :
    Calls Tryz.prog 12 #[.agg #[.int .i64 a0_0, .string a0_1, .string a0_2, .int .i64 a0_3, .int .u64 a0_4, .int .u64 a0_5, .slice A0_6 l0_6.length c0_6, .slice A0_7 l0_7.length c0_7]] w fun e w' => e = .returned (.bool r) ∧ Below w.heap.size w w' := by
  have hu26 := Tryz.underlying26; have HR0_6 := Aside0.mk hr0_6; have HC0_6 := Aside0.mk hc0_6; clear hr0_6 hc0_6; have HR0_7 := Aside0.mk hr0_7; have HC0_7 := Aside0.mk hc0_7; clear hr0_7 hc0_7; have HB := Aside0.mk (Below.refl w.heap.size w); have H : ((spec_docRight.f a0_0 a0_1 a0_2 a0_3 a0_4 a0_5 l0_6 l0_7 200).bind fun t113 => (some t113)) = some r := h; clear h; replace H := Option.bind_eq_some_iff.mp H; obtain ⟨t113, A20, H⟩ := H; replace H : (some t113) = some r := H; have A2 := Aside0.mk A20; clear A20
  as_aux_lemma =>
    obtain rfl := Option.some.inj H
    go_enter Tryz.func12, Tryz.ntmps12
    go_wp2_with (first | ((with_reducible refine gate_dst (N := 1) rfl ?_); refine box_event ?hg (N := 1) ?hd (cs := #[.int .i64 a0_0, .string a0_1, .string a0_2, .int .i64 a0_3, .int .u64 a0_4, .int .u64 a0_5, .slice A0_6 l0_6.length c0_6, .slice A0_7 l0_7.length c0_7]) (t := 26) ?hr ?_; (case hd => rfl); (case hg => rfl); (case hr => first | (go_simp; done) | (go_simp; rfl)); intro gb112 hg w3 hbox hb; have n0_ := Aside0.mk (below_step HW.zb hb); have n1_ := Aside0.mk (hbox); have n3_ := Aside0.mk ((by rw [hg]; exact (below_size HW.zb) : w.heap.size ≤ gb112)); clear HB; have HB := n0_; have BK112 := n1_; have GE112 := n3_; clear n0_ n1_ n3_; clear hb hbox hg; obtain ⟨hcz4_0, hcz4_1, hcz4_2, hcz4_3, hcz4_4, hcz4_5, hcz4_6, hcz4_7⟩ := HW.k8 BK112.out) | ((with_reducible refine gate_callee (f := 40) rfl ?_); refine HW.gz (some 4) rfl rfl Tryz.func40 (by kernel_rfl) rfl #[.agg #[.int .i64 a0_0, .string a0_1, .string a0_2, .int .i64 a0_3, .int .u64 a0_4, .int .u64 a0_5, .slice A0_6 l0_6.length c0_6, .slice A0_7 l0_7.length c0_7], .int .i64 200] rfl ?_; (with_reducible refine (spec_docRight.calls a0_0 a0_1 a0_2 a0_3 a0_4 a0_5 _ _ l0_6 _ _ l0_7 200 t113 _ ?side1 ?side2 ?side3 ?side4 A2.out).mono ?_); (case side1 => repeat (first | exact (Kd.C_below HR0_6.out HB.out) | (with_reducible refine Kd.C_alloc ?_ _) | (with_reducible refine Kd.C_drewN ?_ _) | (with_reducible refine Kd.C_drew ?_))); (case side2 => exact HC0_6.out); (case side3 => repeat (first | exact (Kd.C_below HR0_7.out HB.out) | (with_reducible refine Kd.C_alloc ?_ _) | (with_reducible refine Kd.C_drewN ?_ _) | (with_reducible refine Kd.C_drew ?_))); (case side4 => exact HC0_7.out); rintro e w5 ⟨rfl, hb⟩; refine ⟨_, rfl, ?_⟩; have n1_ := Aside0.mk (below_step HW.zb hb); clear HB; have HB := n1_; clear n1_; (try clear hb)))
    go_ret
    exact ⟨rfl, HW.zb⟩
mutual
def laws_docBytes.l0 : Nat → Int → Int → Int → ByteArray → ByteArray → Int → Int → Int → List Int → List (S89) → Option (Int)
  | 0, _, _, _, _, _, _, _, _, _, _ => none
  | k + 1, x3, x4, x115000, x115001, x115002, x115003, x115004, x115005, x115006, x115007 => if x4 < (x115007.length : Int) then (if 0 ≤ x4 then ((laws_docBytes.f k ((rd_T89 x115007 x4).f1.f0) ((rd_T89 x115007 x4).f1.f1) ((rd_T89 x115007 x4).f1.f2) ((rd_T89 x115007 x4).f1.f3) ((rd_T89 x115007 x4).f1.f4) ((rd_T89 x115007 x4).f1.f5) ((rd_T89 x115007 x4).f1.f6) ((rd_T89 x115007 x4).f1.f7)).bind fun t117 => (laws_docBytes.l0 k (wrap64 ((wrap64 (x3 + (((rd_T89 x115007 x4).f0).size : Int))) + t117)) (wrap64 (x4 + 1)) x115000 x115001 x115002 x115003 x115004 x115005 x115006 x115007)) else (none)) else (some x3)
def laws_docBytes.f : Nat → Int → ByteArray → ByteArray → Int → Int → Int → List Int → List (S89) → Option (Int)
  | 0, _, _, _, _, _, _, _, _ => none
  | k + 1, a0_0, a0_1, a0_2, a0_3, a0_4, a0_5, l0_6, l0_7 => laws_docBytes.l0 k (wrap64 ((wrap64 ((a0_1.size : Int) + (a0_2.size : Int))) + (l0_6.length : Int))) 0 a0_0 a0_1 a0_2 a0_3 a0_4 a0_5 l0_6 l0_7
end
theorem laws_docBytes.mono_l : ∀ k, (∀ y0 y1 y2 y3 y4 y5 y6 y7, LeO (laws_docBytes.f k y0 y1 y2 y3 y4 y5 y6 y7) (laws_docBytes.f (k + 1) y0 y1 y2 y3 y4 y5 y6 y7)) ∧ (∀ y0 y1 y2 y3 y4 y5 y6 y7 y8 y9, LeO (laws_docBytes.l0 k y0 y1 y2 y3 y4 y5 y6 y7 y8 y9) (laws_docBytes.l0 (k + 1) y0 y1 y2 y3 y4 y5 y6 y7 y8 y9))
  | 0 => ⟨fun _ _ _ _ _ _ _ _ r h => by simp [laws_docBytes.f] at h, fun _ _ _ _ _ _ _ _ _ _ r h => by simp [laws_docBytes.l0] at h⟩
  | k + 1 => by
    obtain ⟨ih0, ih1⟩ := laws_docBytes.mono_l k
    refine ⟨?_, ?_⟩
    · intro y0 y1 y2 y3 y4 y5 y6 y7
      unfold laws_docBytes.f
      have m0_ := @ih0; have m1_ := @ih1; exact HW.mo
    · intro y0 y1 y2 y3 y4 y5 y6 y7 y8 y9
      unfold laws_docBytes.l0
      have m0_ := @ih0; have m1_ := @ih1; exact HW.mo
theorem laws_docBytes.mono : ∀ a0 a1 a2 a3 a4 a5 a6 a7 k, LeO (laws_docBytes.f k a0 a1 a2 a3 a4 a5 a6 a7) (laws_docBytes.f (k + 1) a0 a1 a2 a3 a4 a5 a6 a7) := by
  intro a0 a1 a2 a3 a4 a5 a6 a7 k
  obtain ⟨ih0, ih1⟩ := laws_docBytes.mono_l k
  exact ih0 a0 a1 a2 a3 a4 a5 a6 a7
def laws_docBytes.T5 : Bool × List (List Nat × List Nat) := (true, [([], []), ([], []), ([1], [1]), ([], []), ([2, 3], [2, 3]), ([4], [4]), ([5], [5]), ([6], [6]), ([0, 7], [0, 7]), ([], []), ([9], [9]), ([], []), ([10, 11], [10, 11]), ([12], [12]), ([13], [13]), ([14], [14]), ([8, 15], [8, 15]), ([16, 15, 0, 1, 2, 3, 4, 5, 6, 7, 8, 9, 10, 11, 12, 13, 14, 15, 16], [0, 16])])
def laws_docBytes.B5 : List Nat := [0, 0, 2, 0, 14, 30, 62, 126, 255, 0, 512, 0, 3584, 7680, 15872, 32256, 65535, 131071]
theorem laws_docBytes.tab5 : rtab .any (opsOf Tryz.f13 5) = laws_docBytes.T5 := by kernel_rfl
theorem laws_docBytes.bits5 : waitsOk laws_docBytes.T5.2 laws_docBytes.B5 = true := by kernel_rfl
theorem laws_docBytes.calls (k : Nat) : ∀ (a0_0 : Int) (a0_1 : ByteArray) (a0_2 : ByteArray) (a0_3 : Int) (a0_4 : Int) (a0_5 : Int) (A0_6 : Option Addr) (c0_6 : Nat) (l0_6 : List Int) (A0_7 : Option Addr) (c0_7 : Nat) (l0_7 : List (S89)) (r : Int) (w : World) (hr0_6 : Kd.C (Kd.int .u8) w A0_6 l0_6.length l0_6) (hc0_6 : l0_6.length ≤ c0_6) (hr0_7 : Kd.C k89 w A0_7 l0_7.length l0_7) (hc0_7 : l0_7.length ≤ c0_7) (h : laws_docBytes.f k a0_0 a0_1 a0_2 a0_3 a0_4 a0_5 l0_6 l0_7 = some r),
    Calls Tryz.prog 13 #[.agg #[.int .i64 a0_0, .string a0_1, .string a0_2, .int .i64 a0_3, .int .u64 a0_4, .int .u64 a0_5, .slice A0_6 l0_6.length c0_6, .slice A0_7 l0_7.length c0_7]] w fun e w' => e = .returned (.int .i64 r) ∧ Below w.heap.size w w' := by
  induction k using Nat.strongRecOn with
  | _ k ih =>
  intro a0_0 a0_1 a0_2 a0_3 a0_4 a0_5 A0_6 c0_6 l0_6 A0_7 c0_7 l0_7 r w hr0_6 hc0_6 hr0_7 hc0_7 h
  cases k with
  | zero => exact absurd h (by simp [laws_docBytes.f])
  | succ k =>
  simp only [laws_docBytes.f] at h
  have hu26 := Tryz.underlying26; have HR0_6 := Aside0.mk hr0_6; have HC0_6 := Aside0.mk hc0_6; clear hr0_6 hc0_6; have HR0_7 := Aside0.mk hr0_7; have HC0_7 := Aside0.mk hc0_7; clear hr0_7 hc0_7; have HB := Aside0.mk (Below.refl w.heap.size w); have H : (laws_docBytes.l0 k (wrap64 ((wrap64 ((a0_1.size : Int) + (a0_2.size : Int))) + (l0_6.length : Int))) 0 a0_0 a0_1 a0_2 a0_3 a0_4 a0_5 l0_6 l0_7) = some r := h; clear h; have H' := Aside0.mk H; clear H
  go_enter Tryz.func13, Tryz.ntmps13
  go_wp2_with (first | ((with_reducible refine gate_dst (N := 1) rfl ?_); refine box_event ?hg (N := 1) ?hd (cs := #[.int .i64 a0_0, .string a0_1, .string a0_2, .int .i64 a0_3, .int .u64 a0_4, .int .u64 a0_5, .slice A0_6 l0_6.length c0_6, .slice A0_7 l0_7.length c0_7]) (t := 26) ?hr ?_; (case hd => rfl); (case hg => rfl); (case hr => first | (go_simp; done) | (go_simp; rfl)); intro gb114 hg w2 hbox hb; have n0_ := Aside0.mk (below_step HW.zb hb); have n1_ := Aside0.mk (hbox); have n3_ := Aside0.mk ((by rw [hg]; exact (below_size HW.zb) : w.heap.size ≤ gb114)); clear HB; have HB := n0_; have BK114 := n1_; have GE114 := n3_; clear n0_ n1_ n3_; clear hb hbox hg; obtain ⟨hcz3_0, hcz3_1, hcz3_2, hcz3_3, hcz3_4, hcz3_5, hcz3_6, hcz3_7⟩ := HW.k8 BK114.out))
  go_loopg [3, 4] k (fun kq v3 v4 w' => ∃ (x3_1 : Int) (x4_1 : Int), v3 = .int .i64 x3_1 ∧ v4 = .int .i64 x4_1 ∧ Aside0 (laws_docBytes.l0 kq x3_1 x4_1 a0_0 a0_1 a0_2 a0_3 a0_4 a0_5 l0_6 l0_7 = some r) ∧ Aside0 (kq ≤ k) ∧ Aside0 (w'.heap[gb114]? = some (.cells #[.int .i64 a0_0, .string a0_1, .string a0_2, .int .i64 a0_3, .int .u64 a0_4, .int .u64 a0_5, (.slice A0_6 l0_6.length c0_6), (.slice A0_7 l0_7.length c0_7)] 26 (0, 0))) ∧ Aside0 (Below w.heap.size w w'))
  case atStart => exact ⟨(wrap64 ((wrap64 ((a0_1.size : Int) + (a0_2.size : Int))) + (l0_6.length : Int))), (0), (by first | rfl | (simp; done) | (simp [*]; done)), HW.rs, H', ⟨Nat.le_refl _⟩, ⟨by (with_reducible repeat (first | refine blk_drewN ?_ _ | refine blk_drew ?_ | refine blk_alloc ?_ _)); exact BK114.out⟩, ⟨HW.zb⟩⟩
  case round =>
    clear H'
    (try clear c1); (try clear p2); (try clear hcz3_0 hcz3_1 hcz3_2 hcz3_3 hcz3_4 hcz3_5 hcz3_6 hcz3_7)
    obtain ⟨x3_1, x4_1, rfl, rfl, HA, HK1, BK114, HB⟩ := hrel
    cases gk with
    | zero => exact absurd HA.out (by simp [laws_docBytes.l0])
    | succ k1 =>
      have H := HA.out; clear HA
      simp only [laws_docBytes.l0] at H
      by_cases c4 : x4_1 < (l0_7.length : Int)
      rotate_left
      · rw [if_neg c4] at H
        have c4b0 : decide (x4_1 < (l0_7.length : Int)) = false := decide_eq_false c4; clear c4
        as_aux_lemma =>
          obtain rfl := Option.some.inj H; obtain ⟨hcz10_0, hcz10_1, hcz10_2, hcz10_3, hcz10_4, hcz10_5, hcz10_6, hcz10_7⟩ := HW.k8 BK114.out
          go_wp2
          go_ret
          exact ⟨rfl, HW.zb⟩
      rw [if_pos c4] at H; have c4b0 : decide (x4_1 < (l0_7.length : Int)) = true := decide_eq_true c4; clear c4
      by_cases c5 : 0 ≤ x4_1
      rotate_left
      · rw [if_neg c5] at H
        exact absurd H (by simp)
      rw [if_pos c5] at H; have c5b0 : decide (0 ≤ x4_1) = true := decide_eq_true c5; clear c5; replace H := Option.bind_eq_some_iff.mp H; obtain ⟨t117, A60, H⟩ := H; replace H : (laws_docBytes.l0 k1 (wrap64 ((wrap64 (x3_1 + (((rd_T89 l0_7 x4_1).f0).size : Int))) + t117)) (wrap64 (x4_1 + 1)) a0_0 a0_1 a0_2 a0_3 a0_4 a0_5 l0_6 l0_7) = some r := H; have A6 := Aside0.mk A60; clear A60
      as_aux_lemma =>
        have H' := Aside0.mk H; clear H; obtain ⟨hcz7_0, hcz7_1, hcz7_2, hcz7_3, hcz7_4, hcz7_5, hcz7_6, hcz7_7⟩ := HW.k8 BK114.out
        try go_wp2
        replace BK114 := Aside0.mk (blk_drew BK114.out); replace HB := Aside0.mk (below_drew1 HB.out)
        have p115 : 0 ≤ (x4_1 : Int) := HW.od
        have q115 : x4_1 < (l0_7.length : Int) := HW.od
        obtain ⟨ad115, A115_7, c115_7, A115_8, c115_8, e115, hx115_0, hx115_1, hx115_2, hx115_3, hx115_4, hx115_5, hx115_6, hx115_7, hx115_8, hl115_7, hi115_7, hl115_8, hi115_8⟩ := at_T89 HR0_7.out x4_1 p115 q115; have hw115_8 := hx115_8; have hw115_7 := hx115_7; have hw115_6 := hx115_6; have hw115_5 := hx115_5; have hw115_4 := hx115_4; have hw115_3 := hx115_3; have hw115_2 := hx115_2; have hw115_1 := hx115_1; have hw115_0 := hx115_0
        cases e115
        replace hx115_0 := (HB.out.cell (World.block_lt_of_cell? w _ hx115_0)).trans hx115_0; replace hx115_1 := (HB.out.cell (World.block_lt_of_cell? w _ hx115_1)).trans hx115_1; replace hx115_2 := (HB.out.cell (World.block_lt_of_cell? w _ hx115_2)).trans hx115_2; replace hx115_3 := (HB.out.cell (World.block_lt_of_cell? w _ hx115_3)).trans hx115_3; replace hx115_4 := (HB.out.cell (World.block_lt_of_cell? w _ hx115_4)).trans hx115_4; replace hx115_5 := (HB.out.cell (World.block_lt_of_cell? w _ hx115_5)).trans hx115_5; replace hx115_6 := (HB.out.cell (World.block_lt_of_cell? w _ hx115_6)).trans hx115_6; replace hx115_7 := (HB.out.cell (World.block_lt_of_cell? w _ hx115_7)).trans hx115_7; replace hx115_8 := (HB.out.cell (World.block_lt_of_cell? w _ hx115_8)).trans hx115_8; have HR115_7 := Aside0.mk hi115_7; have HC115_7 := Aside0.mk hl115_7; clear hi115_7 hl115_7; have HR115_8 := Aside0.mk hi115_8; have HC115_8 := Aside0.mk hl115_8; clear hi115_8 hl115_8; replace p115 := eq_true p115; replace q115 := eq_true q115
        have p116 : 0 ≤ (x4_1 : Int) := HW.od
        have q116 : x4_1 < (l0_7.length : Int) := HW.od
        obtain ⟨ad116, A116_7, c116_7, A116_8, c116_8, e116, hx116_0, hx116_1, hx116_2, hx116_3, hx116_4, hx116_5, hx116_6, hx116_7, hx116_8, hl116_7, hi116_7, hl116_8, hi116_8⟩ := at_T89 HR0_7.out x4_1 p116 q116; have hw116_8 := hx116_8; have hw116_7 := hx116_7; have hw116_6 := hx116_6; have hw116_5 := hx116_5; have hw116_4 := hx116_4; have hw116_3 := hx116_3; have hw116_2 := hx116_2; have hw116_1 := hx116_1; have hw116_0 := hx116_0
        obtain rfl : ad115 = ad116 := (by injection e116)
        replace hx116_0 := (HB.out.cell (World.block_lt_of_cell? w _ hx116_0)).trans hx116_0; replace hx116_1 := (HB.out.cell (World.block_lt_of_cell? w _ hx116_1)).trans hx116_1; replace hx116_2 := (HB.out.cell (World.block_lt_of_cell? w _ hx116_2)).trans hx116_2; replace hx116_3 := (HB.out.cell (World.block_lt_of_cell? w _ hx116_3)).trans hx116_3; replace hx116_4 := (HB.out.cell (World.block_lt_of_cell? w _ hx116_4)).trans hx116_4; replace hx116_5 := (HB.out.cell (World.block_lt_of_cell? w _ hx116_5)).trans hx116_5; replace hx116_6 := (HB.out.cell (World.block_lt_of_cell? w _ hx116_6)).trans hx116_6; replace hx116_7 := (HB.out.cell (World.block_lt_of_cell? w _ hx116_7)).trans hx116_7; replace hx116_8 := (HB.out.cell (World.block_lt_of_cell? w _ hx116_8)).trans hx116_8; have HR116_7 := Aside0.mk hi116_7; have HC116_7 := Aside0.mk hl116_7; clear hi116_7 hl116_7; have HR116_8 := Aside0.mk hi116_8; have HC116_8 := Aside0.mk hl116_8; clear hi116_8 hl116_8; replace p116 := eq_true p116; replace q116 := eq_true q116; have ea_ := Option.some.inj (hx115_7.symm.trans hx116_7); injection ea_ with ea_ en_ ec_; subst ea_; subst ec_; clear en_; have ea_ := Option.some.inj (hx115_8.symm.trans hx116_8); injection ea_ with ea_ en_ ec_; subst ea_; subst ec_; clear en_
        refine start_ (n := 18) (S := fun w' => w'.cell? ⟨gb114, 0, none⟩ = some (.int .i64 a0_0) ∧ w'.cell? ⟨gb114, 1, none⟩ = some (.string a0_1) ∧ w'.cell? ⟨gb114, 2, none⟩ = some (.string a0_2) ∧ w'.cell? ⟨gb114, 3, none⟩ = some (.int .i64 a0_3) ∧ w'.cell? ⟨gb114, 4, none⟩ = some (.int .u64 a0_4) ∧ w'.cell? ⟨gb114, 5, none⟩ = some (.int .u64 a0_5) ∧ w'.cell? ⟨gb114, 6, none⟩ = some (.slice A0_6 l0_6.length c0_6) ∧ w'.cell? ⟨gb114, 7, none⟩ = some (.slice (some ad115) l0_7.length c0_7) ∧ w'.cell? (ad115.add ((x4_1).toNat * 9)) = some (.string ((rd_T89 l0_7 x4_1).f0)) ∧ w'.cell? ⟨(ad115.add ((x4_1).toNat * 9)).block, (ad115.add ((x4_1).toNat * 9)).off + 1, none⟩ = some (.int .i64 ((rd_T89 l0_7 x4_1).f1.f0)) ∧ w'.cell? ⟨(ad115.add ((x4_1).toNat * 9)).block, (ad115.add ((x4_1).toNat * 9)).off + 2, none⟩ = some (.string ((rd_T89 l0_7 x4_1).f1.f1)) ∧ w'.cell? ⟨(ad115.add ((x4_1).toNat * 9)).block, (ad115.add ((x4_1).toNat * 9)).off + 3, none⟩ = some (.string ((rd_T89 l0_7 x4_1).f1.f2)) ∧ w'.cell? ⟨(ad115.add ((x4_1).toNat * 9)).block, (ad115.add ((x4_1).toNat * 9)).off + 4, none⟩ = some (.int .i64 ((rd_T89 l0_7 x4_1).f1.f3)) ∧ w'.cell? ⟨(ad115.add ((x4_1).toNat * 9)).block, (ad115.add ((x4_1).toNat * 9)).off + 5, none⟩ = some (.int .u64 ((rd_T89 l0_7 x4_1).f1.f4)) ∧ w'.cell? ⟨(ad115.add ((x4_1).toNat * 9)).block, (ad115.add ((x4_1).toNat * 9)).off + 6, none⟩ = some (.int .u64 ((rd_T89 l0_7 x4_1).f1.f5)) ∧ w'.cell? ⟨(ad115.add ((x4_1).toNat * 9)).block, (ad115.add ((x4_1).toNat * 9)).off + 7, none⟩ = some (.slice A115_7 ((rd_T89 l0_7 x4_1).f1.f6).length c115_7) ∧ w'.cell? ⟨(ad115.add ((x4_1).toNat * 9)).block, (ad115.add ((x4_1).toNat * 9)).off + 8, none⟩ = some (.slice A115_8 ((rd_T89 l0_7 x4_1).f1.f7).length c115_8) ∧ w'.cell? (ad115.add ((x4_1).toNat * 9)) = some (.string ((rd_T89 l0_7 x4_1).f0)) ∧ w'.cell? ⟨(ad115.add ((x4_1).toNat * 9)).block, (ad115.add ((x4_1).toNat * 9)).off + 1, none⟩ = some (.int .i64 ((rd_T89 l0_7 x4_1).f1.f0)) ∧ w'.cell? ⟨(ad115.add ((x4_1).toNat * 9)).block, (ad115.add ((x4_1).toNat * 9)).off + 2, none⟩ = some (.string ((rd_T89 l0_7 x4_1).f1.f1)) ∧ w'.cell? ⟨(ad115.add ((x4_1).toNat * 9)).block, (ad115.add ((x4_1).toNat * 9)).off + 3, none⟩ = some (.string ((rd_T89 l0_7 x4_1).f1.f2)) ∧ w'.cell? ⟨(ad115.add ((x4_1).toNat * 9)).block, (ad115.add ((x4_1).toNat * 9)).off + 4, none⟩ = some (.int .i64 ((rd_T89 l0_7 x4_1).f1.f3)) ∧ w'.cell? ⟨(ad115.add ((x4_1).toNat * 9)).block, (ad115.add ((x4_1).toNat * 9)).off + 5, none⟩ = some (.int .u64 ((rd_T89 l0_7 x4_1).f1.f4)) ∧ w'.cell? ⟨(ad115.add ((x4_1).toNat * 9)).block, (ad115.add ((x4_1).toNat * 9)).off + 6, none⟩ = some (.int .u64 ((rd_T89 l0_7 x4_1).f1.f5)) ∧ w'.cell? ⟨(ad115.add ((x4_1).toNat * 9)).block, (ad115.add ((x4_1).toNat * 9)).off + 7, none⟩ = some (.slice A115_7 ((rd_T89 l0_7 x4_1).f1.f6).length c115_7) ∧ w'.cell? ⟨(ad115.add ((x4_1).toNat * 9)).block, (ad115.add ((x4_1).toNat * 9)).off + 8, none⟩ = some (.slice A115_8 ((rd_T89 l0_7 x4_1).f1.f7).length c115_8)) (ds := []) #[ff,ff,ff,ff,ff,ff,ff,ff,ff,ff,ff,ff,ff,ff,ff,ff,ff,ff] (by kernel_rfl) rfl rfl ⟨(blk_cell BK114.out 0).trans rfl, (blk_cell BK114.out 1).trans rfl, (blk_cell BK114.out 2).trans rfl, (blk_cell BK114.out 3).trans rfl, (blk_cell BK114.out 4).trans rfl, (blk_cell BK114.out 5).trans rfl, (blk_cell BK114.out 6).trans rfl, (blk_cell BK114.out 7).trans rfl, ((HB.out.cell (World.block_lt_of_cell? w _ hw115_0)).trans hw115_0), ((HB.out.cell (World.block_lt_of_cell? w _ hw115_1)).trans hw115_1), ((HB.out.cell (World.block_lt_of_cell? w _ hw115_2)).trans hw115_2), ((HB.out.cell (World.block_lt_of_cell? w _ hw115_3)).trans hw115_3), ((HB.out.cell (World.block_lt_of_cell? w _ hw115_4)).trans hw115_4), ((HB.out.cell (World.block_lt_of_cell? w _ hw115_5)).trans hw115_5), ((HB.out.cell (World.block_lt_of_cell? w _ hw115_6)).trans hw115_6), ((HB.out.cell (World.block_lt_of_cell? w _ hw115_7)).trans hw115_7), ((HB.out.cell (World.block_lt_of_cell? w _ hw115_8)).trans hw115_8), ((HB.out.cell (World.block_lt_of_cell? w _ hw116_0)).trans hw116_0), ((HB.out.cell (World.block_lt_of_cell? w _ hw116_1)).trans hw116_1), ((HB.out.cell (World.block_lt_of_cell? w _ hw116_2)).trans hw116_2), ((HB.out.cell (World.block_lt_of_cell? w _ hw116_3)).trans hw116_3), ((HB.out.cell (World.block_lt_of_cell? w _ hw116_4)).trans hw116_4), ((HB.out.cell (World.block_lt_of_cell? w _ hw116_5)).trans hw116_5), ((HB.out.cell (World.block_lt_of_cell? w _ hw116_6)).trans hw116_6), ((HB.out.cell (World.block_lt_of_cell? w _ hw116_7)).trans hw116_7), ((HB.out.cell (World.block_lt_of_cell? w _ hw116_8)).trans hw116_8)⟩ (fun hHeld => ?_); refine with_tabW laws_docBytes.tab5 laws_docBytes.bits5 (fun HT_ HW_ => ?_)
        generalize wr.drew = w8 at BK114 HB HR115_7 HR115_8 HR116_7 HR116_8 hx115_0 hx115_1 hx115_2 hx115_3 hx115_4 hx115_5 hx115_6 hx115_7 hx115_8 hx116_0 hx116_1 hx116_2 hx116_3 hx116_4 hx116_5 hx116_6 hx116_7 hx116_8 hHeld ⊢
        refine HW.pz (i := 0) (N := some 23) #[tt,ff,ff,ff,ff,ff,ff,ff,ff,ff,ff,ff,ff,ff,ff,ff,ff,ff] ?_ (hc := any_of HT_.out (by kernel_rfl))
        refine HW.pz (i := 1) (N := some 24) #[tt,tt,ff,ff,ff,ff,ff,ff,ff,ff,ff,ff,ff,ff,ff,ff,ff,ff] ?_ (hc := any_of HT_.out (by kernel_rfl))
        refine HW.pz (i := 3) (N := some 26) #[tt,tt,ff,tt,ff,ff,ff,ff,ff,ff,ff,ff,ff,ff,ff,ff,ff,ff] ?_ (hc := any_of HT_.out (by kernel_rfl))
        refine HW.pz (i := 9) (N := some 32) #[tt,tt,ff,tt,ff,ff,ff,ff,ff,tt,ff,ff,ff,ff,ff,ff,ff,ff] ?_ (hc := any_of HT_.out (by kernel_rfl))
        refine HW.pz (i := 11) (N := some 34) #[tt,tt,ff,tt,ff,ff,ff,ff,ff,tt,ff,tt,ff,ff,ff,ff,ff,ff] ?_ (hc := any_of HT_.out (by kernel_rfl))
        refine take_ (i := 2) (N := some 25) (v := ?_) (a' := ?_) #[tt,tt,tt,tt,ff,ff,ff,ff,ff,tt,ff,tt,ff,ff,ff,ff,ff,ff] rfl rfl (take_ofW HT_.out HW_.out (by kernel_rfl)) (fun _ _ _ h => h) (Or.inl ⟨by rfl, ?_⟩) hHeld ?_ ?_
        rotate_left
        · rintro w' ⟨s0, s1, s2, s3, s4, s5, s6, s7, s8, s9, s10, s11, s12, s13, s14, s15, s16, s17, s18, s19, s20, s21, s22, s23, s24, s25⟩
          go_simp
          with_reducible rfl
        rotate_left
        · exact HW.pt
        refine HW.pz (i := 4) (N := some 27) #[tt,tt,tt,tt,tt,ff,ff,ff,ff,tt,ff,tt,ff,ff,ff,ff,ff,ff] ?_ (hc := any_of HT_.out (by kernel_rfl))
        refine HW.pz (i := 5) (N := some 28) #[tt,tt,tt,tt,tt,tt,ff,ff,ff,tt,ff,tt,ff,ff,ff,ff,ff,ff] ?_ (hc := any_of HT_.out (by kernel_rfl))
        refine take_ (i := 6) (N := some 29) (v := ?_) (a' := ?_) #[tt,tt,tt,tt,tt,tt,tt,ff,ff,tt,ff,tt,ff,ff,ff,ff,ff,ff] rfl rfl (take_ofW HT_.out HW_.out (by kernel_rfl)) (fun _ _ _ h => h) (Or.inl ⟨by rfl, ?_⟩) hHeld ?_ ?_
        rotate_left
        · rintro w' ⟨s0, s1, s2, s3, s4, s5, s6, s7, s8, s9, s10, s11, s12, s13, s14, s15, s16, s17, s18, s19, s20, s21, s22, s23, s24, s25⟩
          go_simp
          with_reducible rfl
        rotate_left
        · exact HW.pt
        refine HW.pz (i := 7) (N := some 30) #[tt,tt,tt,tt,tt,tt,tt,tt,ff,tt,ff,tt,ff,ff,ff,ff,ff,ff] ?_ (hc := any_of HT_.out (by kernel_rfl))
        refine HW.pz (i := 8) (N := some 31) #[tt,tt,tt,tt,tt,tt,tt,tt,tt,tt,ff,tt,ff,ff,ff,ff,ff,ff] ?_ (hc := any_of HT_.out (by kernel_rfl))
        refine take_ (i := 10) (N := some 33) (v := ?_) (a' := ?_) #[tt,tt,tt,tt,tt,tt,tt,tt,tt,tt,tt,tt,ff,ff,ff,ff,ff,ff] rfl rfl (take_ofW HT_.out HW_.out (by kernel_rfl)) (fun _ _ _ h => h) (Or.inl ⟨by rfl, ?_⟩) hHeld ?_ ?_
        rotate_left
        · rintro w' ⟨s0, s1, s2, s3, s4, s5, s6, s7, s8, s9, s10, s11, s12, s13, s14, s15, s16, s17, s18, s19, s20, s21, s22, s23, s24, s25⟩
          go_simp
          with_reducible rfl
        rotate_left
        · exact HW.pt
        refine HW.pz (i := 12) (N := some 35) #[tt,tt,tt,tt,tt,tt,tt,tt,tt,tt,tt,tt,tt,ff,ff,ff,ff,ff] ?_ (hc := any_of HT_.out (by kernel_rfl))
        refine HW.pz (i := 13) (N := some 36) #[tt,tt,tt,tt,tt,tt,tt,tt,tt,tt,tt,tt,tt,tt,ff,ff,ff,ff] ?_ (hc := any_of HT_.out (by kernel_rfl))
        refine take_ (i := 14) (N := some 37) (v := ?_) (a' := ?_) #[tt,tt,tt,tt,tt,tt,tt,tt,tt,tt,tt,tt,tt,tt,tt,ff,ff,ff] rfl rfl (take_ofW HT_.out HW_.out (by kernel_rfl)) (fun _ _ _ h => h) (Or.inl ⟨by rfl, ?_⟩) hHeld ?_ ?_
        rotate_left
        · rintro w' ⟨s0, s1, s2, s3, s4, s5, s6, s7, s8, s9, s10, s11, s12, s13, s14, s15, s16, s17, s18, s19, s20, s21, s22, s23, s24, s25⟩
          go_simp
          with_reducible rfl
        rotate_left
        · exact HW.pt
        refine one_ (i := 15) (N := some 38) #[tt,tt,tt,tt,tt,tt,tt,tt,tt,tt,tt,tt,tt,tt,tt,tt,ff,ff] rfl rfl (one_of HT_.out (by kernel_rfl)) (by decide) (fun K hK => ?_)
        refine goes_ Tryz.func13 (by kernel_rfl) rfl #[.agg #[.int .i64 ((rd_T89 l0_7 x4_1).f1.f0), .string ((rd_T89 l0_7 x4_1).f1.f1), .string ((rd_T89 l0_7 x4_1).f1.f2), .int .i64 ((rd_T89 l0_7 x4_1).f1.f3), .int .u64 ((rd_T89 l0_7 x4_1).f1.f4), .int .u64 ((rd_T89 l0_7 x4_1).f1.f5), .slice A115_7 ((rd_T89 l0_7 x4_1).f1.f6).length c115_7, .slice A115_8 ((rd_T89 l0_7 x4_1).f1.f7).length c115_8]] (by rfl) rfl rfl HW.mt ?_
        with_reducible refine (ih k1 (by have := HK1.out; omega) ((rd_T89 l0_7 x4_1).f1.f0) ((rd_T89 l0_7 x4_1).f1.f1) ((rd_T89 l0_7 x4_1).f1.f2) ((rd_T89 l0_7 x4_1).f1.f3) ((rd_T89 l0_7 x4_1).f1.f4) ((rd_T89 l0_7 x4_1).f1.f5) _ _ ((rd_T89 l0_7 x4_1).f1.f6) _ _ ((rd_T89 l0_7 x4_1).f1.f7) t117 _ ?side1 ?side2 ?side3 ?side4 A6.out).mono ?_
        (case side1 => repeat (first | exact (Kd.C_below HR116_7.out HB.out) | (with_reducible refine Kd.C_alloc ?_ _) | (with_reducible refine Kd.C_drewN ?_ _) | (with_reducible refine Kd.C_drew ?_)))
        (case side2 => exact HC116_7.out)
        (case side3 => repeat (first | exact (Kd.C_below HR116_8.out HB.out) | (with_reducible refine Kd.C_alloc ?_ _) | (with_reducible refine Kd.C_drewN ?_ _) | (with_reducible refine Kd.C_drew ?_)))
        (case side4 => exact HC116_8.out)
        rintro e w9 ⟨rfl, hb⟩
        refine ⟨_, rfl, ?_⟩
        replace BK114 := Aside0.mk (blk_below (HW.zB BK114.out) hb); replace HB := Aside0.mk (below_step HW.zb hb)
        (try clear hb)
        (try clear hk)
        refine hK.out _ _ ⟨(blk_cell BK114.out 0).trans rfl, (blk_cell BK114.out 1).trans rfl, (blk_cell BK114.out 2).trans rfl, (blk_cell BK114.out 3).trans rfl, (blk_cell BK114.out 4).trans rfl, (blk_cell BK114.out 5).trans rfl, (blk_cell BK114.out 6).trans rfl, (blk_cell BK114.out 7).trans rfl, ((HB.out.cell (World.block_lt_of_cell? w _ hw115_0)).trans hw115_0), ((HB.out.cell (World.block_lt_of_cell? w _ hw115_1)).trans hw115_1), ((HB.out.cell (World.block_lt_of_cell? w _ hw115_2)).trans hw115_2), ((HB.out.cell (World.block_lt_of_cell? w _ hw115_3)).trans hw115_3), ((HB.out.cell (World.block_lt_of_cell? w _ hw115_4)).trans hw115_4), ((HB.out.cell (World.block_lt_of_cell? w _ hw115_5)).trans hw115_5), ((HB.out.cell (World.block_lt_of_cell? w _ hw115_6)).trans hw115_6), ((HB.out.cell (World.block_lt_of_cell? w _ hw115_7)).trans hw115_7), ((HB.out.cell (World.block_lt_of_cell? w _ hw115_8)).trans hw115_8), ((HB.out.cell (World.block_lt_of_cell? w _ hw116_0)).trans hw116_0), ((HB.out.cell (World.block_lt_of_cell? w _ hw116_1)).trans hw116_1), ((HB.out.cell (World.block_lt_of_cell? w _ hw116_2)).trans hw116_2), ((HB.out.cell (World.block_lt_of_cell? w _ hw116_3)).trans hw116_3), ((HB.out.cell (World.block_lt_of_cell? w _ hw116_4)).trans hw116_4), ((HB.out.cell (World.block_lt_of_cell? w _ hw116_5)).trans hw116_5), ((HB.out.cell (World.block_lt_of_cell? w _ hw116_6)).trans hw116_6), ((HB.out.cell (World.block_lt_of_cell? w _ hw116_7)).trans hw116_7), ((HB.out.cell (World.block_lt_of_cell? w _ hw116_8)).trans hw116_8)⟩ (fun hHeld => ?_)
        clear hK K
        refine HW.nz (N := (some 38)) ?_
        refine HW.pz (i := 16) (N := some 39) #[tt,tt,tt,tt,tt,tt,tt,tt,tt,tt,tt,tt,tt,tt,tt,tt,tt,ff] ?_ (hc := any_of HT_.out (by kernel_rfl))
        refine HW.pz (i := 17) (N := some 3) #[tt,tt,tt,tt,tt,tt,tt,tt,tt,tt,tt,tt,tt,tt,tt,tt,tt,tt] ?_ (hc := any_of HT_.out (by kernel_rfl))
        refine done_ (done_of HT_.out (by kernel_rfl)) ?_
        try go_wp2
        go_roundg k1
        case measure => have := HK1.out; omega
        case rel => exact ⟨(wrap64 ((wrap64 (x3_1 + (((rd_T89 l0_7 x4_1).f0).size : Int))) + t117)), (wrap64 (x4_1 + 1)), (by first | rfl | (simp; done) | (simp [*]; done)), HW.rs, H', ⟨by have := HK1.out; omega⟩, ⟨by (with_reducible repeat (first | refine blk_drewN ?_ _ | refine blk_drew ?_ | refine blk_alloc ?_ _)); exact BK114.out⟩, ⟨HW.zb⟩⟩
def laws_bindRight.f (k : Nat) (a0_0 : Int) (a0_1 : ByteArray) (a0_2 : ByteArray) (a0_3 : Int) (a0_4 : Int) (a0_5 : Int) (l0_6 : List Int) (l0_7 : List (S89)) : Option (Bool) := (laws_docCount.f k a0_0 a0_1 a0_2 a0_3 a0_4 a0_5 l0_6 l0_7 1000).bind fun t119 => (if t119 ≤ 1000 then ((spec_DocRight.f a0_0 a0_1 a0_2 a0_3 a0_4 a0_5 l0_6 l0_7).bind fun t120 => (if t120 = true then ((laws_docBytes.f k a0_0 a0_1 a0_2 a0_3 a0_4 a0_5 l0_6 l0_7).bind fun t121 => (some (decide (t121 ≤ 65536)))) else (some false))) else (some false))
theorem laws_bindRight.mono : ∀ a0 a1 a2 a3 a4 a5 a6 a7 k, LeO (laws_bindRight.f k a0 a1 a2 a3 a4 a5 a6 a7) (laws_bindRight.f (k + 1) a0 a1 a2 a3 a4 a5 a6 a7) := by
  intro a0 a1 a2 a3 a4 a5 a6 a7 k
  unfold laws_bindRight.f
  have m0_ := @laws_docBytes.mono; have m1_ := @laws_docCount.mono; exact HW.mo
theorem laws_bindRight.calls (k : Nat) (a0_0 : Int) (a0_1 : ByteArray) (a0_2 : ByteArray) (a0_3 : Int) (a0_4 : Int) (a0_5 : Int) (A0_6 : Option Addr) (c0_6 : Nat) (l0_6 : List Int) (A0_7 : Option Addr) (c0_7 : Nat) (l0_7 : List (S89)) (r : Bool) (w : World) (hr0_6 : Kd.C (Kd.int .u8) w A0_6 l0_6.length l0_6) (hc0_6 : l0_6.length ≤ c0_6) (hr0_7 : Kd.C k89 w A0_7 l0_7.length l0_7) (hc0_7 : l0_7.length ≤ c0_7) (h : laws_bindRight.f k a0_0 a0_1 a0_2 a0_3 a0_4 a0_5 l0_6 l0_7 = some r) :
    Calls Tryz.prog 5 #[.agg #[.int .i64 a0_0, .string a0_1, .string a0_2, .int .i64 a0_3, .int .u64 a0_4, .int .u64 a0_5, .slice A0_6 l0_6.length c0_6, .slice A0_7 l0_7.length c0_7]] w fun e w' => e = .returned (.bool r) ∧ Below w.heap.size w w' := by
  have hu26 := Tryz.underlying26; have HR0_6 := Aside0.mk hr0_6; have HC0_6 := Aside0.mk hc0_6; clear hr0_6 hc0_6; have HR0_7 := Aside0.mk hr0_7; have HC0_7 := Aside0.mk hc0_7; clear hr0_7 hc0_7; have HB := Aside0.mk (Below.refl w.heap.size w); have H : ((laws_docCount.f k a0_0 a0_1 a0_2 a0_3 a0_4 a0_5 l0_6 l0_7 1000).bind fun t119 => (if t119 ≤ 1000 then ((spec_DocRight.f a0_0 a0_1 a0_2 a0_3 a0_4 a0_5 l0_6 l0_7).bind fun t120 => (if t120 = true then ((laws_docBytes.f k a0_0 a0_1 a0_2 a0_3 a0_4 a0_5 l0_6 l0_7).bind fun t121 => (some (decide (t121 ≤ 65536)))) else (some false))) else (some false))) = some r := h; clear h; replace H := Option.bind_eq_some_iff.mp H; obtain ⟨t119, A20, H⟩ := H; replace H : (if t119 ≤ 1000 then ((spec_DocRight.f a0_0 a0_1 a0_2 a0_3 a0_4 a0_5 l0_6 l0_7).bind fun t120 => (if t120 = true then ((laws_docBytes.f k a0_0 a0_1 a0_2 a0_3 a0_4 a0_5 l0_6 l0_7).bind fun t121 => (some (decide (t121 ≤ 65536)))) else (some false))) else (some false)) = some r := H; have A2 := Aside0.mk A20; clear A20
  by_cases c3 : t119 ≤ 1000
  rotate_left
  · rw [if_neg c3] at H
    have c3b0 : decide (t119 ≤ 1000) = false := decide_eq_false c3; clear c3
    as_aux_lemma =>
      obtain rfl := Option.some.inj H
      go_enter Tryz.func5, Tryz.ntmps5
      go_wp2_with (first | ((with_reducible refine gate_dst (N := 1) rfl ?_); refine box_event ?hg (N := 1) ?hd (cs := #[.int .i64 a0_0, .string a0_1, .string a0_2, .int .i64 a0_3, .int .u64 a0_4, .int .u64 a0_5, .slice A0_6 l0_6.length c0_6, .slice A0_7 l0_7.length c0_7]) (t := 26) ?hr ?_; (case hd => rfl); (case hg => rfl); (case hr => first | (go_simp; done) | (go_simp; rfl)); intro gb118 hg w19 hbox hb; have n0_ := Aside0.mk (below_step HW.zb hb); have n1_ := Aside0.mk (hbox); have n3_ := Aside0.mk ((by rw [hg]; exact (below_size HW.zb) : w.heap.size ≤ gb118)); clear HB; have HB := n0_; have BK118 := n1_; have GE118 := n3_; clear n0_ n1_ n3_; clear hb hbox hg; obtain ⟨hcz20_0, hcz20_1, hcz20_2, hcz20_3, hcz20_4, hcz20_5, hcz20_6, hcz20_7⟩ := HW.k8 BK118.out) | ((with_reducible refine gate_callee (f := 11) rfl ?_); refine HW.gz (some 4) rfl rfl Tryz.func11 (by kernel_rfl) rfl #[.agg #[.int .i64 a0_0, .string a0_1, .string a0_2, .int .i64 a0_3, .int .u64 a0_4, .int .u64 a0_5, .slice A0_6 l0_6.length c0_6, .slice A0_7 l0_7.length c0_7], .int .i64 1000] rfl ?_; (with_reducible refine (laws_docCount.calls k a0_0 a0_1 a0_2 a0_3 a0_4 a0_5 _ _ l0_6 _ _ l0_7 1000 t119 _ ?side1 ?side2 ?side3 ?side4 A2.out).mono ?_); (case side1 => repeat (first | exact (Kd.C_below HR0_6.out HB.out) | (with_reducible refine Kd.C_alloc ?_ _) | (with_reducible refine Kd.C_drewN ?_ _) | (with_reducible refine Kd.C_drew ?_))); (case side2 => exact HC0_6.out); (case side3 => repeat (first | exact (Kd.C_below HR0_7.out HB.out) | (with_reducible refine Kd.C_alloc ?_ _) | (with_reducible refine Kd.C_drewN ?_ _) | (with_reducible refine Kd.C_drew ?_))); (case side4 => exact HC0_7.out); rintro e w21 ⟨rfl, hb⟩; refine ⟨_, rfl, ?_⟩; replace BK118 := Aside0.mk (blk_below (HW.zB BK118.out) hb); replace HB := Aside0.mk (below_step HW.zb hb); (try clear hb)))
      go_ret
      exact ⟨rfl, HW.zb⟩
  rw [if_pos c3] at H; have c3b0 : decide (t119 ≤ 1000) = true := decide_eq_true c3; clear c3; replace H := Option.bind_eq_some_iff.mp H; obtain ⟨t120, A40, H⟩ := H; replace H : (if t120 = true then ((laws_docBytes.f k a0_0 a0_1 a0_2 a0_3 a0_4 a0_5 l0_6 l0_7).bind fun t121 => (some (decide (t121 ≤ 65536)))) else (some false)) = some r := H; have A4 := Aside0.mk A40; clear A40
  by_cases c5 : t120 = true
  rotate_left
  · replace c5 := Bool.eq_false_iff.mpr c5
    subst c5
    have H1 : (some false) = some r := by rw [if_neg (show ¬ (false = true) by decide)] at H; exact H
    clear H; have H := H1; clear H1
    as_aux_lemma =>
      obtain rfl := Option.some.inj H
      go_enter Tryz.func5, Tryz.ntmps5
      go_wp2_with (first | ((with_reducible refine gate_dst (N := 1) rfl ?_); refine box_event ?hg (N := 1) ?hd (cs := #[.int .i64 a0_0, .string a0_1, .string a0_2, .int .i64 a0_3, .int .u64 a0_4, .int .u64 a0_5, .slice A0_6 l0_6.length c0_6, .slice A0_7 l0_7.length c0_7]) (t := 26) ?hr ?_; (case hd => rfl); (case hg => rfl); (case hr => first | (go_simp; done) | (go_simp; rfl)); intro gb118 hg w14 hbox hb; have n0_ := Aside0.mk (below_step HW.zb hb); have n1_ := Aside0.mk (hbox); have n3_ := Aside0.mk ((by rw [hg]; exact (below_size HW.zb) : w.heap.size ≤ gb118)); clear HB; have HB := n0_; have BK118 := n1_; have GE118 := n3_; clear n0_ n1_ n3_; clear hb hbox hg; obtain ⟨hcz15_0, hcz15_1, hcz15_2, hcz15_3, hcz15_4, hcz15_5, hcz15_6, hcz15_7⟩ := HW.k8 BK118.out) | ((with_reducible refine gate_callee (f := 11) rfl ?_); refine HW.gz (some 4) rfl rfl Tryz.func11 (by kernel_rfl) rfl #[.agg #[.int .i64 a0_0, .string a0_1, .string a0_2, .int .i64 a0_3, .int .u64 a0_4, .int .u64 a0_5, .slice A0_6 l0_6.length c0_6, .slice A0_7 l0_7.length c0_7], .int .i64 1000] rfl ?_; (with_reducible refine (laws_docCount.calls k a0_0 a0_1 a0_2 a0_3 a0_4 a0_5 _ _ l0_6 _ _ l0_7 1000 t119 _ ?side1 ?side2 ?side3 ?side4 A2.out).mono ?_); (case side1 => repeat (first | exact (Kd.C_below HR0_6.out HB.out) | (with_reducible refine Kd.C_alloc ?_ _) | (with_reducible refine Kd.C_drewN ?_ _) | (with_reducible refine Kd.C_drew ?_))); (case side2 => exact HC0_6.out); (case side3 => repeat (first | exact (Kd.C_below HR0_7.out HB.out) | (with_reducible refine Kd.C_alloc ?_ _) | (with_reducible refine Kd.C_drewN ?_ _) | (with_reducible refine Kd.C_drew ?_))); (case side4 => exact HC0_7.out); rintro e w16 ⟨rfl, hb⟩; refine ⟨_, rfl, ?_⟩; replace BK118 := Aside0.mk (blk_below (HW.zB BK118.out) hb); replace HB := Aside0.mk (below_step HW.zb hb); (try clear hb); obtain ⟨hcz17_0, hcz17_1, hcz17_2, hcz17_3, hcz17_4, hcz17_5, hcz17_6, hcz17_7⟩ := HW.k8 BK118.out) | (go_at_call 12; (with_reducible refine (spec_DocRight.calls a0_0 a0_1 a0_2 a0_3 a0_4 a0_5 _ _ l0_6 _ _ l0_7 false _ ?side1 ?side2 ?side3 ?side4 A4.out).mono ?_); (case side1 => repeat (first | exact (Kd.C_below HR0_6.out HB.out) | (with_reducible refine Kd.C_alloc ?_ _) | (with_reducible refine Kd.C_drewN ?_ _) | (with_reducible refine Kd.C_drew ?_))); (case side2 => exact HC0_6.out); (case side3 => repeat (first | exact (Kd.C_below HR0_7.out HB.out) | (with_reducible refine Kd.C_alloc ?_ _) | (with_reducible refine Kd.C_drewN ?_ _) | (with_reducible refine Kd.C_drew ?_))); (case side4 => exact HC0_7.out); rintro e w18 ⟨rfl, hb⟩; replace BK118 := Aside0.mk (blk_below (HW.zB BK118.out) hb); replace HB := Aside0.mk (below_step HW.zb hb); (try clear hb)))
      go_ret
      exact ⟨rfl, HW.zb⟩
  subst c5
  have H1 : ((laws_docBytes.f k a0_0 a0_1 a0_2 a0_3 a0_4 a0_5 l0_6 l0_7).bind fun t121 => (some (decide (t121 ≤ 65536)))) = some r := by rw [if_pos rfl] at H; exact H
  clear H; have H := H1; clear H1; replace H := Option.bind_eq_some_iff.mp H; obtain ⟨t121, A60, H⟩ := H; replace H : (some (decide (t121 ≤ 65536))) = some r := H; have A6 := Aside0.mk A60; clear A60
  as_aux_lemma =>
    obtain rfl := Option.some.inj H
    go_enter Tryz.func5, Tryz.ntmps5
    go_wp2_with (first | ((with_reducible refine gate_dst (N := 1) rfl ?_); refine box_event ?hg (N := 1) ?hd (cs := #[.int .i64 a0_0, .string a0_1, .string a0_2, .int .i64 a0_3, .int .u64 a0_4, .int .u64 a0_5, .slice A0_6 l0_6.length c0_6, .slice A0_7 l0_7.length c0_7]) (t := 26) ?hr ?_; (case hd => rfl); (case hg => rfl); (case hr => first | (go_simp; done) | (go_simp; rfl)); intro gb118 hg w7 hbox hb; have n0_ := Aside0.mk (below_step HW.zb hb); have n1_ := Aside0.mk (hbox); have n3_ := Aside0.mk ((by rw [hg]; exact (below_size HW.zb) : w.heap.size ≤ gb118)); clear HB; have HB := n0_; have BK118 := n1_; have GE118 := n3_; clear n0_ n1_ n3_; clear hb hbox hg; obtain ⟨hcz8_0, hcz8_1, hcz8_2, hcz8_3, hcz8_4, hcz8_5, hcz8_6, hcz8_7⟩ := HW.k8 BK118.out) | ((with_reducible refine gate_callee (f := 11) rfl ?_); refine HW.gz (some 4) rfl rfl Tryz.func11 (by kernel_rfl) rfl #[.agg #[.int .i64 a0_0, .string a0_1, .string a0_2, .int .i64 a0_3, .int .u64 a0_4, .int .u64 a0_5, .slice A0_6 l0_6.length c0_6, .slice A0_7 l0_7.length c0_7], .int .i64 1000] rfl ?_; (with_reducible refine (laws_docCount.calls k a0_0 a0_1 a0_2 a0_3 a0_4 a0_5 _ _ l0_6 _ _ l0_7 1000 t119 _ ?side1 ?side2 ?side3 ?side4 A2.out).mono ?_); (case side1 => repeat (first | exact (Kd.C_below HR0_6.out HB.out) | (with_reducible refine Kd.C_alloc ?_ _) | (with_reducible refine Kd.C_drewN ?_ _) | (with_reducible refine Kd.C_drew ?_))); (case side2 => exact HC0_6.out); (case side3 => repeat (first | exact (Kd.C_below HR0_7.out HB.out) | (with_reducible refine Kd.C_alloc ?_ _) | (with_reducible refine Kd.C_drewN ?_ _) | (with_reducible refine Kd.C_drew ?_))); (case side4 => exact HC0_7.out); rintro e w9 ⟨rfl, hb⟩; refine ⟨_, rfl, ?_⟩; replace BK118 := Aside0.mk (blk_below (HW.zB BK118.out) hb); replace HB := Aside0.mk (below_step HW.zb hb); (try clear hb); obtain ⟨hcz10_0, hcz10_1, hcz10_2, hcz10_3, hcz10_4, hcz10_5, hcz10_6, hcz10_7⟩ := HW.k8 BK118.out) | (go_at_call 12; (with_reducible refine (spec_DocRight.calls a0_0 a0_1 a0_2 a0_3 a0_4 a0_5 _ _ l0_6 _ _ l0_7 true _ ?side1 ?side2 ?side3 ?side4 A4.out).mono ?_); (case side1 => repeat (first | exact (Kd.C_below HR0_6.out HB.out) | (with_reducible refine Kd.C_alloc ?_ _) | (with_reducible refine Kd.C_drewN ?_ _) | (with_reducible refine Kd.C_drew ?_))); (case side2 => exact HC0_6.out); (case side3 => repeat (first | exact (Kd.C_below HR0_7.out HB.out) | (with_reducible refine Kd.C_alloc ?_ _) | (with_reducible refine Kd.C_drewN ?_ _) | (with_reducible refine Kd.C_drew ?_))); (case side4 => exact HC0_7.out); rintro e w11 ⟨rfl, hb⟩; replace BK118 := Aside0.mk (blk_below (HW.zB BK118.out) hb); replace HB := Aside0.mk (below_step HW.zb hb); (try clear hb); obtain ⟨hcz12_0, hcz12_1, hcz12_2, hcz12_3, hcz12_4, hcz12_5, hcz12_6, hcz12_7⟩ := HW.k8 BK118.out) | (go_at_call 13; (with_reducible refine (laws_docBytes.calls k a0_0 a0_1 a0_2 a0_3 a0_4 a0_5 _ _ l0_6 _ _ l0_7 t121 _ ?side1 ?side2 ?side3 ?side4 A6.out).mono ?_); (case side1 => repeat (first | exact (Kd.C_below HR0_6.out HB.out) | (with_reducible refine Kd.C_alloc ?_ _) | (with_reducible refine Kd.C_drewN ?_ _) | (with_reducible refine Kd.C_drew ?_))); (case side2 => exact HC0_6.out); (case side3 => repeat (first | exact (Kd.C_below HR0_7.out HB.out) | (with_reducible refine Kd.C_alloc ?_ _) | (with_reducible refine Kd.C_drewN ?_ _) | (with_reducible refine Kd.C_drew ?_))); (case side4 => exact HC0_7.out); rintro e w13 ⟨rfl, hb⟩; have n1_ := Aside0.mk (below_step HW.zb hb); clear HB; have HB := n1_; clear n1_; (try clear hb)))
    go_ret
    exact ⟨rfl, HW.zb⟩
def spec_BindHas.j0 : Nat → Int → Bool → Option (Bool)
  | 0, _, _ => none
  | k + 1, x0, x4 => if x4 = true then (some false) else ((spec_DocKnown.f x0).bind fun t122 => (some t122))
def spec_BindHas.f (k : Nat) (a0 : Int) : Option (Bool) := if a0 = 6 then (spec_BindHas.j0 k a0 (a0 == 6)) else (if a0 = 10 then (spec_BindHas.j0 k a0 (a0 == 10)) else (if a0 = 255 then (spec_BindHas.j0 k a0 (a0 == 255)) else (spec_BindHas.j0 k a0 (a0 == 127))))
theorem spec_BindHas.mono_l : ∀ k, (∀ y0 y1, LeO (spec_BindHas.j0 k y0 y1) (spec_BindHas.j0 (k + 1) y0 y1))
  | 0 => fun _ _ r h => by simp [spec_BindHas.j0] at h
  | k + 1 => by
    have ih0 := spec_BindHas.mono_l k
    · intro y0 y1
      unfold spec_BindHas.j0
      have m0_ := @ih0; exact HW.mo
theorem spec_BindHas.mono : ∀ a0 k, LeO (spec_BindHas.f k a0) (spec_BindHas.f (k + 1) a0) := by
  intro a0 k
  have ih0 := spec_BindHas.mono_l k
  unfold spec_BindHas.f
  have m0_ := @ih0; exact HW.mo
theorem spec_BindHas.calls (k : Nat) (a0 : Int) (r : Bool) (w : World) (h : spec_BindHas.f k a0 = some r) :
    Calls Tryz.prog 6 #[.int .i64 a0] w fun e w' => e = .returned (.bool r) ∧ Drawn0 w w' := by
  have H : (if a0 = 6 then (spec_BindHas.j0 k a0 (a0 == 6)) else (if a0 = 10 then (spec_BindHas.j0 k a0 (a0 == 10)) else (if a0 = 255 then (spec_BindHas.j0 k a0 (a0 == 255)) else (spec_BindHas.j0 k a0 (a0 == 127))))) = some r := h; clear h; have HC2 := Aside0.mk H; clear H
  go_enter Tryz.func6, Tryz.ntmps6
  go_upto_if 4 with (fail)
  go_cut [4] (fun v4 wc => ∃ (kq : Nat) (x4_1 : Bool), v4 = .bool x4_1 ∧ Aside0 (spec_BindHas.j0 kq a0 x4_1 = some r) ∧ Aside0 (kq ≤ k) ∧ Drawn0 w wc)
  case first =>
    have H := HC2.out; clear HC2
    by_cases c3 : a0 = 6
    · rw [if_pos c3] at H
      have c3b0 : (a0 == 6) = true := beq_iff_eq.mpr c3; have c3b1 : (a0 != 6) = false := bne_eq_false_iff_eq.mpr c3; clear c3
      (first | rw [c3b0] | (simp only [i64_w, i32_w]; rw [c3b0]) | skip)
      as_aux_lemma =>
        have H' := Aside0.mk H; clear H
        go_wp2
        go_meet
        case rel => exact ⟨_, ((a0 == 6)), HW.rs, H', ⟨by first | omega | exact Nat.le_refl _⟩, by repeat (first | exact Drawn0.refl _ | apply Drawn0.step)⟩
    rw [if_neg c3] at H; have c3b0 : (a0 == 6) = false := beq_eq_false_iff_ne.mpr c3; have c3b1 : (a0 != 6) = true := bne_iff_ne.mpr c3
    (first | rw [c3b0] | (simp only [i64_w, i32_w]; rw [c3b0]) | skip)
    by_cases c4 : a0 = 10
    · rw [if_pos c4] at H
      have c4b0 : (a0 == 10) = true := beq_iff_eq.mpr c4; have c4b1 : (a0 != 10) = false := bne_eq_false_iff_eq.mpr c4; clear c4
      as_aux_lemma =>
        have H' := Aside0.mk H; clear H
        go_wp2
        go_meet
        case rel => exact ⟨_, ((a0 == 10)), HW.rs, H', ⟨by first | omega | exact Nat.le_refl _⟩, by repeat (first | exact Drawn0.refl _ | apply Drawn0.step)⟩
    rw [if_neg c4] at H; have c4b0 : (a0 == 10) = false := beq_eq_false_iff_ne.mpr c4; have c4b1 : (a0 != 10) = true := bne_iff_ne.mpr c4
    by_cases c5 : a0 = 255
    · rw [if_pos c5] at H
      have c5b0 : (a0 == 255) = true := beq_iff_eq.mpr c5; have c5b1 : (a0 != 255) = false := bne_eq_false_iff_eq.mpr c5; clear c5
      as_aux_lemma =>
        have H' := Aside0.mk H; clear H
        go_wp2
        go_meet
        case rel => exact ⟨_, ((a0 == 255)), HW.rs, H', ⟨by first | omega | exact Nat.le_refl _⟩, by repeat (first | exact Drawn0.refl _ | apply Drawn0.step)⟩
    rw [if_neg c5] at H; have c5b0 : (a0 == 255) = false := beq_eq_false_iff_ne.mpr c5; have c5b1 : (a0 != 255) = true := bne_iff_ne.mpr c5
    as_aux_lemma =>
      have H' := Aside0.mk H; clear H
      go_wp2
      go_meet
      case rel => exact ⟨_, ((a0 == 127)), HW.rs, H', ⟨by first | omega | exact Nat.le_refl _⟩, by repeat (first | exact Drawn0.refl _ | apply Drawn0.step)⟩
  case rest =>
    clear HC2
    (try clear p2); (try clear c3); (try clear c3b0); (try clear c3b1); (try clear c4); (try clear c4b0); (try clear c4b1); (try clear c5); (try clear c5b0); (try clear c5b1)
    obtain ⟨kq, x4_1, rfl, HA, HJ1, ⟨mc1, rfl⟩⟩ := hcut
    cases kq with
    | zero => exact absurd HA.out (by simp [spec_BindHas.j0])
    | succ kj1 =>
      have H := HA.out; clear HA
      simp only [spec_BindHas.j0] at H
      by_cases c6 : x4_1 = true
      · subst c6
        have H1 : (some false) = some r := by rw [if_pos rfl] at H; exact H
        clear H; have H := H1; clear H1
        as_aux_lemma =>
          obtain rfl := Option.some.inj H
          go_wp2
          go_ret
          exact ⟨by first | rfl | (simp; done) | (simp [*]; done), by repeat (first | exact Drawn0.refl _ | apply Drawn0.step)⟩
      replace c6 := Bool.eq_false_iff.mpr c6; subst c6
      have H1 : ((spec_DocKnown.f a0).bind fun t122 => (some t122)) = some r := by rw [if_neg (show ¬ (false = true) by decide)] at H; exact H
      clear H; have H := H1; clear H1; replace H := Option.bind_eq_some_iff.mp H; obtain ⟨t122, A70, H⟩ := H; replace H : (some t122) = some r := H; have A7 := Aside0.mk A70; clear A70
      as_aux_lemma =>
        obtain rfl := Option.some.inj H
        go_wp2_with (first | ((with_reducible refine gate_callee (f := 14) rfl ?_); refine HW.gz (some 10) rfl rfl Tryz.func14 (by kernel_rfl) rfl #[.int .i64 a0] rfl ?_; (with_reducible refine (spec_DocKnown.calls a0 t122 _ A7.out).mono ?_); rintro e w' ⟨rfl, ⟨nd, rfl⟩⟩; refine ⟨_, rfl, ?_⟩))
        go_ret
        exact ⟨by first | rfl | (simp; done) | (simp [*]; done), by repeat (first | exact Drawn0.refl _ | apply Drawn0.step)⟩
def impl_some.f (a0_0 : Int) (l0_1 : List Int) : Option (Int × List Int) := some ((a0_0) % 256, l0_1)
theorem impl_some.calls (a0_0 : Int) (P0_1_ : Nat → Prop) (A0_1 : Option Addr) (c0_1 : Nat) (l0_1 : List Int) (r1 : Int) (r2 : List Int) (w : World) (hs0_1 : Kd.V (Kd.int .u8) 5 w w.heap.size (fun k_ => P0_1_ k_) (.slice A0_1 l0_1.length c0_1) l0_1) (h : impl_some.f a0_0 l0_1 = some (r1, r2)) :
    Calls Tryz.prog 15 #[.agg #[.int .i64 a0_0, .slice A0_1 l0_1.length c0_1]] w fun e w' => ∃ v1_ : Value, e = .returned (.agg #[.int .u8 r1, v1_]) ∧ Kd.V (Kd.int .u8) 5 w' w.heap.size (fun k_ => (P0_1_ k_ ∨ w.heap.size ≤ k_)) v1_ r2 ∧ Below w.heap.size w w' := by
  have hu32 := Tryz.underlying32; have hu41 := Tryz.underlying41; have HO0_1 := Aside0.mk (show Kd.V (Kd.int .u8) 5 w w.heap.size (fun k_ => (P0_1_ k_ ∨ w.heap.size ≤ k_)) (.slice A0_1 l0_1.length c0_1) l0_1 from Kd.V_mono hs0_1 (fun k_ hk => .inl hk)); have HB := Aside0.mk (Below.refl w.heap.size w); have H : (some ((a0_0) % 256, l0_1)) = some (r1, r2) := h; clear h
  as_aux_lemma =>
    simp only [Option.some.injEq, Prod.mk.injEq] at H
    obtain ⟨rfl, rfl⟩ := H
    go_enter Tryz.func15, Tryz.ntmps15
    go_wp2_with (first | ((with_reducible refine gate_dst (N := 1) rfl ?_); refine box_event ?hg (N := 1) ?hd (cs := #[.int .i64 a0_0, .slice A0_1 l0_1.length c0_1]) (t := 32) ?hr ?_; (case hd => rfl); (case hg => rfl); (case hr => first | (go_simp; done) | (go_simp; rfl)); intro gb123 hg w2 hbox hb; have n0_ := Aside0.mk (Kd.V_below (Kd.V_elderB (HW.zV HO0_1.out) gb123 (Nat.le_of_eq hg.symm)) hb); have n1_ := Aside0.mk (below_step HW.zb hb); have n2_ := Aside0.mk (hbox); have n4_ := Aside0.mk ((by rw [hg]; exact (below_size HW.zb) : w.heap.size ≤ gb123)); clear HO0_1; clear HB; have HO0_1 := n0_; have HB := n1_; have BK123 := n2_; have GE123 := n4_; clear n0_ n1_ n2_ n4_; clear hb hbox hg) | ((with_reducible refine gate_dst (N := 2) rfl ?_); refine box_event ?hg (N := 2) ?hd (cs := #[.int .u8 0, .slice none 0 0]) (t := 41) ?hr ?_; (case hd => rfl); (case hg => rfl); (case hr => first | (go_simp; done) | (go_simp; rfl)); intro gb124 hg w3 hbox hb; have n0_ := Aside0.mk (Kd.V_below (Kd.V_elderB (HW.zV HO0_1.out) gb124 (Nat.le_of_eq hg.symm)) hb); have n1_ := Aside0.mk (blk_below (HW.zB BK123.out) hb); have n2_ := Aside0.mk (below_step HW.zb hb); have n3_ := Aside0.mk (hbox); have n5_ := Aside0.mk ((by rw [hg]; exact (below_size HW.zb) : w.heap.size ≤ gb124)); have n6_ := Aside0.mk ((by rw [hg]; exact Nat.ne_of_lt (blk_lt (g := gb123) (o := .cells #[.int .i64 a0_0, .slice A0_1 l0_1.length c0_1] 32 (0, 0)) (HW.zB BK123.out)) : gb123 ≠ gb124)); have n7_ := Aside0.mk ((by rw [hg]; exact Nat.ne_of_gt (blk_lt (g := gb123) (o := .cells #[.int .i64 a0_0, .slice A0_1 l0_1.length c0_1] 32 (0, 0)) (HW.zB BK123.out)) : gb124 ≠ gb123)); clear HO0_1; clear BK123; clear HB; have HO0_1 := n0_; have BK123 := n1_; have HB := n2_; have BK124 := n3_; have GE124 := n5_; have NB123_124 := n6_; have NB124_123 := n7_; clear n0_ n1_ n2_ n3_ n5_ n6_ n7_; clear hb hbox hg; have hnb4 := NB123_124.out; have hnc4 := NB124_123.out; have hcz5_0 := HW.zc BK123.out 0 (.int .i64 a0_0); have hcz5_1 := HW.zc BK123.out 1 (.slice A0_1 l0_1.length c0_1); have hcz6_0 := HW.zc BK124.out 0 (.int .u8 0); have hcz6_1 := HW.zc BK124.out 1 (.slice none 0 0); have hfz7_0 := blk_frozen BK124.out 0; have hfz7_1 := blk_frozen BK124.out 1))
    refine bodyPost_ret (results_cell_row rfl _ _ gb124 41 #[.int .u8 ((a0_0) % 256), .slice A0_1 l0_1.length c0_1] (0, 0) _ rfl (by (with_reducible repeat (first | refine blk_drewN ?_ _ | refine blk_drew ?_ | refine blk_alloc ?_ _)); refine blk_put (cs := #[.int .u8 ((a0_0) % 256), .slice none 0 0]) ?_ 1 _ rfl; (with_reducible repeat (first | refine blk_drewN ?_ _ | refine blk_drew ?_ | refine blk_alloc ?_ _)); refine blk_put (cs := #[.int .u8 0, .slice none 0 0]) ?_ 0 _ rfl; exact HW.zB BK124.out) Tryz.underlying41 rfl (by kernel_rfl)) rfl ?_
    exact ⟨_, rfl, by (with_reducible repeat (first | apply Kd.V_alloc | apply Kd.V_drewN | apply Kd.V_drew)); exact Kd.V_mono (Kd.V_far (p := ⟨gb124, 1, none⟩) (Kd.V_far (p := ⟨gb124, 0, none⟩) (Kd.V_mono HO0_1.out (fun k_ hk => (⟨hk, hk.2⟩ : _ ∧ k_ ≠ gb124))) (fun _ hk => hk.2) (.int .u8 ((a0_0) % 256))) (fun _ hk => hk.2) (.slice A0_1 l0_1.length c0_1)) (fun _ hk => hk.1.1.1), HW.zb⟩
def bson_convertToCoreValue.f (a0_0 : Int) (l0_1 : List Int) : Option (Int × List Int) := some (a0_0, l0_1)
theorem bson_convertToCoreValue.calls (a0_0 : Int) (P0_1_ : Nat → Prop) (A0_1 : Option Addr) (c0_1 : Nat) (l0_1 : List Int) (r1 : Int) (r2 : List Int) (w : World) (hs0_1 : Kd.V (Kd.int .u8) 5 w w.heap.size (fun k_ => P0_1_ k_) (.slice A0_1 l0_1.length c0_1) l0_1) (h : bson_convertToCoreValue.f a0_0 l0_1 = some (r1, r2)) :
    Calls Tryz.prog 41 #[.agg #[.int .u8 a0_0, .slice A0_1 l0_1.length c0_1]] w fun e w' => ∃ v1_ : Value, e = .returned (.agg #[.int .u8 r1, v1_]) ∧ Kd.V (Kd.int .u8) 5 w' w.heap.size (fun k_ => (P0_1_ k_ ∨ w.heap.size ≤ k_)) v1_ r2 ∧ Below w.heap.size w w' := by
  have hu41 := Tryz.underlying41; have hu92 := Tryz.underlying92; have HO0_1 := Aside0.mk (show Kd.V (Kd.int .u8) 5 w w.heap.size (fun k_ => (P0_1_ k_ ∨ w.heap.size ≤ k_)) (.slice A0_1 l0_1.length c0_1) l0_1 from Kd.V_mono hs0_1 (fun k_ hk => .inl hk)); have HB := Aside0.mk (Below.refl w.heap.size w); have H : (some (a0_0, l0_1)) = some (r1, r2) := h; clear h
  as_aux_lemma =>
    simp only [Option.some.injEq, Prod.mk.injEq] at H
    obtain ⟨rfl, rfl⟩ := H
    go_enter Tryz.func41, Tryz.ntmps41
    go_wp2_with (first | ((with_reducible refine gate_dst (N := 1) rfl ?_); refine box_event ?hg (N := 1) ?hd (cs := #[.int .u8 a0_0, .slice A0_1 l0_1.length c0_1]) (t := 41) ?hr ?_; (case hd => rfl); (case hg => rfl); (case hr => first | (go_simp; done) | (go_simp; rfl)); intro gb125 hg w2 hbox hb; have n0_ := Aside0.mk (Kd.V_below (Kd.V_elderB (HW.zV HO0_1.out) gb125 (Nat.le_of_eq hg.symm)) hb); have n1_ := Aside0.mk (below_step HW.zb hb); have n2_ := Aside0.mk (hbox); have n4_ := Aside0.mk ((by rw [hg]; exact (below_size HW.zb) : w.heap.size ≤ gb125)); clear HO0_1; clear HB; have HO0_1 := n0_; have HB := n1_; have BK125 := n2_; have GE125 := n4_; clear n0_ n1_ n2_ n4_; clear hb hbox hg) | ((with_reducible refine gate_dst (N := 2) rfl ?_); refine box_event ?hg (N := 2) ?hd (cs := #[.int .u8 0, .slice none 0 0]) (t := 92) ?hr ?_; (case hd => rfl); (case hg => rfl); (case hr => first | (go_simp; done) | (go_simp; rfl)); intro gb126 hg w3 hbox hb; have n0_ := Aside0.mk (Kd.V_below (Kd.V_elderB (HW.zV HO0_1.out) gb126 (Nat.le_of_eq hg.symm)) hb); have n1_ := Aside0.mk (blk_below (HW.zB BK125.out) hb); have n2_ := Aside0.mk (below_step HW.zb hb); have n3_ := Aside0.mk (hbox); have n5_ := Aside0.mk ((by rw [hg]; exact (below_size HW.zb) : w.heap.size ≤ gb126)); have n6_ := Aside0.mk ((by rw [hg]; exact Nat.ne_of_lt (blk_lt (g := gb125) (o := .cells #[.int .u8 a0_0, .slice A0_1 l0_1.length c0_1] 41 (0, 0)) (HW.zB BK125.out)) : gb125 ≠ gb126)); have n7_ := Aside0.mk ((by rw [hg]; exact Nat.ne_of_gt (blk_lt (g := gb125) (o := .cells #[.int .u8 a0_0, .slice A0_1 l0_1.length c0_1] 41 (0, 0)) (HW.zB BK125.out)) : gb126 ≠ gb125)); clear HO0_1; clear BK125; clear HB; have HO0_1 := n0_; have BK125 := n1_; have HB := n2_; have BK126 := n3_; have GE126 := n5_; have NB125_126 := n6_; have NB126_125 := n7_; clear n0_ n1_ n2_ n3_ n5_ n6_ n7_; clear hb hbox hg; have hnb4 := NB125_126.out; have hnc4 := NB126_125.out; have hcz5_0 := HW.zc BK125.out 0 (.int .u8 a0_0); have hcz5_1 := HW.zc BK125.out 1 (.slice A0_1 l0_1.length c0_1); have hcz6_0 := HW.zc BK126.out 0 (.int .u8 0); have hcz6_1 := HW.zc BK126.out 1 (.slice none 0 0); have hfz7_0 := blk_frozen BK126.out 0; have hfz7_1 := blk_frozen BK126.out 1))
    refine bodyPost_ret (results_cell_row rfl _ _ gb126 92 #[.int .u8 a0_0, .slice A0_1 l0_1.length c0_1] (0, 0) _ rfl (by (with_reducible repeat (first | refine blk_drewN ?_ _ | refine blk_drew ?_ | refine blk_alloc ?_ _)); refine blk_put (cs := #[.int .u8 a0_0, .slice none 0 0]) ?_ 1 _ rfl; (with_reducible repeat (first | refine blk_drewN ?_ _ | refine blk_drew ?_ | refine blk_alloc ?_ _)); refine blk_put (cs := #[.int .u8 0, .slice none 0 0]) ?_ 0 _ rfl; exact HW.zB BK126.out) Tryz.underlying92 rfl (by kernel_rfl)) rfl ?_
    exact ⟨_, rfl, by (with_reducible repeat (first | apply Kd.V_alloc | apply Kd.V_drewN | apply Kd.V_drew)); exact Kd.V_mono (Kd.V_far (p := ⟨gb126, 1, none⟩) (Kd.V_far (p := ⟨gb126, 0, none⟩) (Kd.V_mono HO0_1.out (fun k_ hk => (⟨hk, hk.2⟩ : _ ∧ k_ ≠ gb126))) (fun _ hk => hk.2) (.int .u8 a0_0)) (fun _ hk => hk.2) (.slice A0_1 l0_1.length c0_1)) (fun _ hk => hk.1.1.1), HW.zb⟩
theorem le_at8 {w : World} {A : Option Addr} {l : List Int} (hC : Kd.C (Kd.int .u8) w A l.length l) (h8 : 8 ≤ l.length) : ∃ a, A = some a ∧ ∀ i, i < (l.take 8).length → w.cell? (a.add i) = some (.int .u8 ((l.take 8).getD i 0)) := by
  obtain ⟨a, hA, _⟩ := Kd.at_int hC 0 (by omega) (by omega)
  refine ⟨a, hA, fun i hi => ?_⟩
  have hi8 : i < 8 := by simp only [List.length_take] at hi; omega
  obtain ⟨a', hA', hx⟩ := Kd.at_int hC (i : Int) (by omega) (by omega)
  rw [hA] at hA'
  cases hA'
  rw [Int.toNat_natCast] at hx; rw [hx]
  simp [rd, rdOf, List.getD_eq_getElem?_getD, List.getElem?_take, hi8]
def binaryutil_ReadU64.f (l0 : List Int) : Option (Int × List Int × Bool) := if l0.length < 8 then some (0, l0, false) else if ∀ z ∈ l0.take 8, (Lit.int .u8 z).wf = true then some (Lib.leZ (l0.take 8), l0.drop 8, true) else none
theorem binaryutil_ReadU64.calls (P0_ : Nat → Prop) (A0 : Option Addr) (c0 : Nat) (l0 : List Int) (r1 : Int) (r2 : List Int) (r3 : Bool) (w : World) (hs0 : Kd.V (Kd.int .u8) 5 w w.heap.size (fun k_ => P0_ k_) (.slice A0 l0.length c0) l0) (h : binaryutil_ReadU64.f l0 = some (r1, r2, r3)) :
    Calls Tryz.prog 85 #[.slice A0 l0.length c0] w fun e w' => ∃ v1_ : Value, e = .returned (.tuple #[.int .u64 r1, v1_, .bool r3]) ∧ Kd.V (Kd.int .u8) 5 w' w.heap.size (fun k_ => (P0_ k_ ∨ w.heap.size ≤ k_)) v1_ r2 ∧ Below w.heap.size w w' := by
  unfold binaryutil_ReadU64.f at h
  by_cases hn : l0.length < 8
  · rw [if_pos hn] at h
    simp only [Option.some.injEq, Prod.mk.injEq] at h
    obtain ⟨rfl, rfl, rfl⟩ := h
    have hd : decide ((l0.length : Int) < 8) = true := decide_eq_true (by omega)
    have hd2 : decide (l0.length < 8) = true := decide_eq_true hn
    go_enter Tryz.func85, Tryz.ntmps85
    go_wp2
    go_ret3
    exact ⟨_, rfl, Kd.V_mono hs0 (fun k_ hk => .inl hk), Below.refl _ _⟩
  rw [if_neg hn] at h
  by_cases hw : ∀ z ∈ l0.take 8, (Lit.int .u8 z).wf = true
  case neg => rw [if_neg hw] at h; cases h
  rw [if_pos hw] at h
  simp only [Option.some.injEq, Prod.mk.injEq] at h
  obtain ⟨rfl, rfl, rfl⟩ := h
  have h8 : 8 ≤ l0.length := by omega
  obtain ⟨_, hroom, hC⟩ := Kd.V_reads' hs0; obtain ⟨a, rfl, hcell⟩ := le_at8 hC h8
  have hd : decide ((l0.length : Int) < 8) = false := decide_eq_false (by omega)
  have hd2 : decide (l0.length < 8) = false := decide_eq_false hn
  have hl8 : (l0.take 8).length = 8 := by simp only [List.length_take]; omega
  have ht : (l0.take 8).take 8 = l0.take 8 := by simp [List.take_take]
  obtain ⟨i0, hi0, _, hsz0, _⟩ := info_parts info5; have hF : Kd.F (Kd.int .u8) w (fun k_ => P0_ k_) (some a) l0.length l0 := (Kd.V_at (base := w.heap.size) hs0).2.2
  have hcut := cut_from (P := Tryz.prog) 23 5 .i64 Tryz.underlying23 hi0 1 hsz0 (some a) l0.length c0 8 (by omega) (by omega)
  have hr := Kd.F_cut (m := (8 : Int).toNat) (c := c0) hF (by show 8 ≤ l0.length; omega) hroom
  obtain ⟨A8, hA8⟩ : ∃ A1, A1 = (if c0 = (8 : Int).toNat then (some a) else ((some a) : Option Addr).map (·.add ((8 : Int).toNat * 1))) := ⟨_, rfl⟩; have hy : (l0.drop 8).length = l0.length - (8 : Int).toNat := List.length_drop
  have hr' : Kd.F (Kd.int .u8) w (fun k_ => P0_ k_) A8 (l0.drop 8).length (l0.drop 8) := by rw [hA8]; exact hr
  rw [← hA8] at hcut; clear hA8 hr hF
  have hV : Kd.V (Kd.int .u8) 5 w w.heap.size (fun k_ => P0_ k_) (.slice A8 (l0.drop 8).length (c0 - (8 : Int).toNat)) (l0.drop 8) := Kd.V_mk (by rw [hy]; exact Nat.sub_le_sub_right hroom _) hr'
  rw [hy] at hV; clear hr' hy hs0
  go_enter Tryz.func85, Tryz.ntmps85
  go_wp2
  refine start_ (n := 8) (S := fun _ => True) (ds := []) #[ff,ff,ff,ff,ff,ff,ff,ff] (by kernel_rfl) rfl rfl trivial (fun hHeld => ?_)
  refine take_ (i := 0) (N := some 9) (v := ?_) (a' := ?_) #[tt,ff,ff,ff,ff,ff,ff,ff] rfl rfl (by kernel_rfl) (fun _ _ _ h => h) (Or.inl ⟨by rfl, ?_⟩) hHeld ?_ ?_
  rotate_left
  · rintro w' _
    go_simp
    with_reducible rfl
  rotate_left
  · exact HW.pt
  refine HW.pz (i := 1) (N := some 10) #[tt,tt,ff,ff,ff,ff,ff,ff] ?_
  refine HW.pz (i := 3) (N := some 12) #[tt,tt,ff,tt,ff,ff,ff,ff] ?_
  refine pure_ (i := 4) (N := some 13) (v := .slice A8 (l0.length - (8 : Int).toNat) (c0 - (8 : Int).toNat)) (a' := ?_) #[tt,tt,ff,tt,tt,ff,ff,ff] rfl rfl (by kernel_rfl) (fun _ _ _ h => h) (Or.inl ⟨by rfl, ?_⟩) ?_ ?_
  · intro w'
    simp [execOp, Act.eval, Sem.run_bind]
    have hx : (Tryz.prog).underlying 23 = some (.slice ((Tryz.prog).elem 23)) := by kernel_rfl
    rw [(run_sliceAt_slice (P := Tryz.prog) (w := w') 23 (.slice (some a) l0.length c0) (some (.int .i64 8)) none none hx).trans (hcut w')]
    rfl
  rotate_left
  · exact HW.pt
  refine one_ (i := 2) (N := some 11) #[tt,tt,tt,tt,tt,ff,ff,ff] rfl rfl (by kernel_rfl) (by decide) (fun K_ hK => ?_)
  refine goes_ Tryz.func94 (by kernel_rfl) rfl #[.agg #[], .slice (some a) l0.length c0] (by rfl) rfl rfl HW.mt ?_
  refine (Tryz.binary_LE_Uint64_z a l0.length c0 (l0.take 8) w.drew h8 (Nat.le_of_eq hl8.symm) hcell hw).mono ?_
  rintro e w' ⟨rfl, hb⟩
  rw [ht]
  refine ⟨_, rfl, ?_⟩
  refine hK.out _ _ trivial (fun hHeld => ?_)
  clear hK K_
  refine HW.nz (N := (some 11)) ?_
  refine HW.pz (i := 5) (N := some 2) #[tt,tt,tt,tt,tt,tt,ff,ff] ?_
  refine HW.pz (i := 6) (N := some 3) #[tt,tt,tt,tt,tt,tt,tt,ff] ?_
  refine HW.pz (i := 7) (N := some 4) #[tt,tt,tt,tt,tt,tt,tt,tt] ?_
  refine done_ (by kernel_rfl) ?_
  go_wp2
  go_ret3
  exact ⟨_, rfl, Kd.V_mono (Kd.V_below hV (below_step (below_drew1 (Below.refl w.heap.size w)) hb)) (fun k_ hk => .inl hk), below_step (below_drew1 (Below.refl w.heap.size w)) hb⟩
end Go.Proofs.YtpbfigeaoefcmaaGreat.PBg
