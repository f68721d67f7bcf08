/- Printed by a program of this session (a turned copy of the printer of the kit): contracts of functions of the translation, each with the Lean function that it computes. Conditions: as each theorem states them. -/
import Derived.Test.YtpbfigeaoefcmaaDoorPDtx0
import Derived.Test.YtpbfigeaoefcmaaDoorPDtx1
import Derived.Test.YtpbfigeaoefcmaaDoorPDtx2
namespace Go.Proofs.YtpbfigeaoefcmaaDoor.PDt
open Go.RowKit Go.Proofs.YtpbfigeaoefcmaaDoorW.PrintWords Go.Proofs.YtpbfigeaoefcmaaDoorW.PrintLast Go.Proofs.YtpbfigeaoefcmaaDoorW.PrintMore
attribute [local go_sem] max2_int min2_int max_two min_two max_three min_three max_four min_four   -- for this text's walks alone
set_option linter.unusedVariables false
set_option linter.unusedSimpArgs false

/-! ### spec_DecBits: function 9 -/
mutual
def spec_DecBits.j0 : Nat → Int → Int → Bool → ByteArray → Int → Option (Int × Int)
  | 0, _, _, _, _, _ => none
  | k + 1, x4, x115000, x115001, x115002, x115003 => if x115000 = 1 then (some (Go.bits .or .u64 x4 8646911284551352320, 0)) else (if x115000 = 2 then (some (8935141660703064064, 0)) else (spec_DecBits.l0 k x4 0 0 0 x115000 x115001 x115002 x115003))
def spec_DecBits.l0 : Nat → Int → Int → Int → Int → Int → Bool → ByteArray → Int → Option (Int × Int)
  | 0, _, _, _, _, _, _, _, _ => none
  | k + 1, x4, x5, x6, x7, x115000, x115001, x115002, x115003 => if x7 < (x115002.size : Int) then (if 0 ≤ x7 then ((spec_decTimes.f x5 x6 (((bt x115002 x7) - 48) % 256)).bind fun bt115 => (spec_DecBits.l0 k x4 bt115.1 bt115.2.1 (wrap64 (x7 + 1)) x115000 x115001 x115002 x115003)) else (none)) else (some (Go.bits .or .u64 (Go.bits .or .u64 x4 (IntKind.u64.wrap ((IntKind.u64.wrap (wrap64 (x115003 - (-6176)))) * 562949953421312))) x5, x6))
end
def spec_DecBits.f (k : Nat) (a0_0 : Int) (a0_1 : Bool) (a0_2 : ByteArray) (a0_3 : Int) : Option (Int × Int) := if a0_1 = true then (spec_DecBits.j0 k 9223372036854775808 a0_0 a0_1 a0_2 a0_3) else (spec_DecBits.j0 k 0 a0_0 a0_1 a0_2 a0_3)
theorem spec_DecBits.mono_l : ∀ k, (∀ y0 y1 y2 y3 y4, LeO (spec_DecBits.j0 k y0 y1 y2 y3 y4) (spec_DecBits.j0 (k + 1) y0 y1 y2 y3 y4)) ∧ (∀ y0 y1 y2 y3 y4 y5 y6 y7, LeO (spec_DecBits.l0 k y0 y1 y2 y3 y4 y5 y6 y7) (spec_DecBits.l0 (k + 1) y0 y1 y2 y3 y4 y5 y6 y7))
  | 0 => ⟨fun _ _ _ _ _ r h => by simp [spec_DecBits.j0] at h, fun _ _ _ _ _ _ _ _ r h => by simp [spec_DecBits.l0] at h⟩
  | k + 1 => by
    obtain ⟨ih0, ih1⟩ := spec_DecBits.mono_l k
    refine ⟨?_, ?_⟩
    · intro y0 y1 y2 y3 y4
      unfold spec_DecBits.j0
      repeat' first
      | (with_reducible exact ih0 _ _ _ _ _)
      | (with_reducible exact ih1 _ _ _ _ _ _ _ _)
      | (with_reducible exact LeO.refl _)
      | (with_reducible exact LeO.none _)
      | (with_reducible refine LeO.ite ?_ ?_)
      | (with_reducible refine LeO.bind ?_ (fun _ => ?_))
      | exact ih0 _ _ _ _ _
      | exact ih1 _ _ _ _ _ _ _ _
      | exact LeO.none _
      | refine LeO.ite ?_ ?_
      | refine LeO.bind ?_ (fun _ => ?_)
    · intro y0 y1 y2 y3 y4 y5 y6 y7
      unfold spec_DecBits.l0
      repeat' first
      | (with_reducible exact ih0 _ _ _ _ _)
      | (with_reducible exact ih1 _ _ _ _ _ _ _ _)
      | (with_reducible exact LeO.refl _)
      | (with_reducible exact LeO.none _)
      | (with_reducible refine LeO.ite ?_ ?_)
      | (with_reducible refine LeO.bind ?_ (fun _ => ?_))
      | exact ih0 _ _ _ _ _
      | exact ih1 _ _ _ _ _ _ _ _
      | exact LeO.none _
      | refine LeO.ite ?_ ?_
      | refine LeO.bind ?_ (fun _ => ?_)
theorem spec_DecBits.mono : ∀ a0 a1 a2 a3 k, LeO (spec_DecBits.f k a0 a1 a2 a3) (spec_DecBits.f (k + 1) a0 a1 a2 a3) := by
  intro a0 a1 a2 a3 k
  obtain ⟨ih0, ih1⟩ := spec_DecBits.mono_l k
  unfold spec_DecBits.f
  repeat' first
      | (with_reducible exact ih0 _ _ _ _ _)
      | (with_reducible exact ih1 _ _ _ _ _ _ _ _)
      | (with_reducible exact LeO.refl _)
      | (with_reducible exact LeO.none _)
      | (with_reducible refine LeO.ite ?_ ?_)
      | (with_reducible refine LeO.bind ?_ (fun _ => ?_))
      | exact ih0 _ _ _ _ _
      | exact ih1 _ _ _ _ _ _ _ _
      | exact LeO.none _
      | refine LeO.ite ?_ ?_
      | refine LeO.bind ?_ (fun _ => ?_)
set_option maxHeartbeats 8000000 in
set_option maxRecDepth 100000 in
theorem spec_DecBits.calls (k : Nat) (a0_0 : Int) (a0_1 : Bool) (a0_2 : ByteArray) (a0_3 : Int) (r1 : Int) (r2 : Int) (w : World) (h : spec_DecBits.f k a0_0 a0_1 a0_2 a0_3 = some (r1, r2)) :
    Calls Tryd.prog 9 #[.agg #[.int .i64 a0_0, .bool a0_1, .string a0_2, .int .i64 a0_3]] w fun e w' => e = .returned (.tuple #[.int .u64 r1, .int .u64 r2]) ∧ Below w.heap.size w w' := by
  have hu27 := Tryd.underlying27
  have HB := Aside0.mk (Below.refl w.heap.size w)
  have H : (if a0_1 = true then (spec_DecBits.j0 k 9223372036854775808 a0_0 a0_1 a0_2 a0_3) else (spec_DecBits.j0 k 0 a0_0 a0_1 a0_2 a0_3)) = some (r1, r2) := h
  clear h
  have HC2 := Aside0.mk H
  clear H
  go_enter Tryd.func9, Tryd.ntmps9
  go_upto_if 9 with (first | ((with_reducible refine gate_dst (N := 1) rfl ?_); refine box_event ?hg (N := 1) ?hd (cs := #[.int .i64 a0_0, .bool a0_1, .string a0_2, .int .i64 a0_3]) (t := 27) ?hr ?_; (case hd => rfl); (case hg => rfl); (case hr => first | (go_simp; done) | (go_simp; rfl)); intro gb114 hg w3 hbox hb; have n0_ := Aside0.mk (below_step HW.zb hb); have n1_ := Aside0.mk (hbox); have n3_ := Aside0.mk ((by rw [hg]; exact (below_size HW.zb) : w.heap.size ≤ gb114)); clear HB; have HB := n0_; have BK114 := n1_; have GE114 := n3_; clear n0_ n1_ n3_; clear hb hbox hg; have hcz4_0 := HW.zc BK114.out 0 (.int .i64 a0_0); have hcz4_1 := HW.zc BK114.out 1 (.bool a0_1); have hcz4_2 := HW.zc BK114.out 2 (.string a0_2); have hcz4_3 := HW.zc BK114.out 3 (.int .i64 a0_3)))
  (try simp only [Act.put, List.setIfInBounds_toArray, List.set_cons_zero, List.set_cons_succ])
  go_cut [4] (fun v4 wc => ∃ (kq : Nat) (x4_1 : Int), v4 = .int .u64 x4_1 ∧ Aside0 (spec_DecBits.j0 kq x4_1 a0_0 a0_1 a0_2 a0_3 = some (r1, r2)) ∧ Aside0 (kq ≤ k) ∧ Aside0 (wc.heap[gb114]? = some (.cells #[.int .i64 a0_0, .bool a0_1, .string a0_2, .int .i64 a0_3] 27 (0, 0))) ∧ Aside0 (Below w.heap.size w wc))
  case first =>
    have H := HC2.out
    clear HC2
    by_cases c5 : a0_1 = true
    · subst c5
      have H1 : (spec_DecBits.j0 k 9223372036854775808 a0_0 true a0_2 a0_3) = some (r1, r2) := by rw [if_pos rfl] at H; exact H
      clear H
      have H := H1
      clear H1
      as_aux_lemma =>
        have H' := Aside0.mk H
        clear H
        go_wp2
        go_meet
        case rel => exact ⟨_, (9223372036854775808), (by first | rfl | (simp; done) | (simp [*]; done)), H', ⟨by first | omega | exact Nat.le_refl _⟩, ⟨by (with_reducible repeat (first | refine blk_drewN ?_ _ | refine blk_drew ?_ | refine blk_alloc ?_ _)); exact BK114.out⟩, ⟨HW.zb⟩⟩
    replace c5 := Bool.eq_false_iff.mpr c5
    subst c5
    have H1 : (spec_DecBits.j0 k 0 a0_0 false a0_2 a0_3) = some (r1, r2) := by rw [if_neg (show ¬ (false = true) by decide)] at H; exact H
    clear H
    have H := H1
    clear H1
    as_aux_lemma =>
      have H' := Aside0.mk H
      clear H
      go_wp2
      go_meet
      case rel => exact ⟨_, (0), (by first | rfl | (simp; done) | (simp [*]; done)), H', ⟨by first | omega | exact Nat.le_refl _⟩, ⟨by (with_reducible repeat (first | refine blk_drewN ?_ _ | refine blk_drew ?_ | refine blk_alloc ?_ _)); exact BK114.out⟩, ⟨HW.zb⟩⟩
  case rest =>
    clear HC2
    try clear p2
    try clear c5
    try clear hcz4_0
    try clear hcz4_1
    try clear hcz4_2
    try clear hcz4_3
    obtain ⟨kq, x4_1, rfl, HA, HJ1, BK114, HB⟩ := hcut
    cases kq with
    | zero => exact absurd HA.out (by simp [spec_DecBits.j0])
    | succ kj1 =>
      have H := HA.out
      clear HA
      simp only [spec_DecBits.j0] at H
      by_cases c6 : a0_0 = 1
      · rw [if_pos c6] at H
        have c6b0 : (a0_0 == 1) = true := beq_iff_eq.mpr c6
        have c6b1 : (a0_0 != 1) = false := bne_eq_false_iff_eq.mpr c6
        clear c6
        as_aux_lemma =>
          simp only [Option.some.injEq, Prod.mk.injEq] at H
          obtain ⟨rfl, rfl⟩ := H
          have hcz7_0 := HW.zc BK114.out 0 (.int .i64 a0_0)
          have hcz7_1 := HW.zc BK114.out 1 (.bool a0_1)
          have hcz7_2 := HW.zc BK114.out 2 (.string a0_2)
          have hcz7_3 := HW.zc BK114.out 3 (.int .i64 a0_3)
          go_wp2
          go_ret2
          exact ⟨by first | rfl | (simp [errW_none, errW_some] <;> rfl) | (simp [*, errW_none, errW_some] <;> rfl), HW.zb⟩
      rw [if_neg c6] at H
      have c6b0 : (a0_0 == 1) = false := beq_eq_false_iff_ne.mpr c6
      have c6b1 : (a0_0 != 1) = true := bne_iff_ne.mpr c6
      by_cases c8 : a0_0 = 2
      · rw [if_pos c8] at H
        have c8b0 : (a0_0 == 2) = true := beq_iff_eq.mpr c8
        have c8b1 : (a0_0 != 2) = false := bne_eq_false_iff_eq.mpr c8
        clear c8
        as_aux_lemma =>
          simp only [Option.some.injEq, Prod.mk.injEq] at H
          obtain ⟨rfl, rfl⟩ := H
          have hcz9_0 := HW.zc BK114.out 0 (.int .i64 a0_0)
          have hcz9_1 := HW.zc BK114.out 1 (.bool a0_1)
          have hcz9_2 := HW.zc BK114.out 2 (.string a0_2)
          have hcz9_3 := HW.zc BK114.out 3 (.int .i64 a0_3)
          go_wp2
          go_ret2
          exact ⟨by first | rfl | (simp [errW_none, errW_some] <;> rfl) | (simp [*, errW_none, errW_some] <;> rfl), HW.zb⟩
      rw [if_neg c8] at H
      have c8b0 : (a0_0 == 2) = false := beq_eq_false_iff_ne.mpr c8
      have c8b1 : (a0_0 != 2) = true := bne_iff_ne.mpr c8
      have H' := Aside0.mk H
      clear H
      have hcz10_0 := HW.zc BK114.out 0 (.int .i64 a0_0)
      have hcz10_1 := HW.zc BK114.out 1 (.bool a0_1)
      have hcz10_2 := HW.zc BK114.out 2 (.string a0_2)
      have hcz10_3 := HW.zc BK114.out 3 (.int .i64 a0_3)
      go_wp2
      go_loopg [5, 6, 7] kj1 (fun kq v5 v6 v7 w' => ∃ (x5_2 : Int) (x6_2 : Int) (x7_2 : Int), v5 = .int .u64 x5_2 ∧ v6 = .int .u64 x6_2 ∧ v7 = .int .i64 x7_2 ∧ Aside0 (spec_DecBits.l0 kq x4_1 x5_2 x6_2 x7_2 a0_0 a0_1 a0_2 a0_3 = some (r1, r2)) ∧ Aside0 (kq ≤ kj1) ∧ Aside0 (w'.heap[gb114]? = some (.cells #[.int .i64 a0_0, .bool a0_1, .string a0_2, .int .i64 a0_3] 27 (0, 0))) ∧ Aside0 (Below w.heap.size w w'))
      case atStart => exact ⟨(0), (0), (0), (by first | rfl | (simp; done) | (simp [*]; done)), (by first | rfl | (simp; done) | (simp [*]; done)), (by first | rfl | (simp; done) | (simp [*]; done)), H', ⟨Nat.le_refl _⟩, ⟨by (with_reducible repeat (first | refine blk_drewN ?_ _ | refine blk_drew ?_ | refine blk_alloc ?_ _)); exact BK114.out⟩, ⟨HW.zb⟩⟩
      case round =>
        clear H'
        try clear p2
        try clear c5
        try clear c6
        try clear c6b0
        try clear c6b1
        try clear c8
        try clear c8b0
        try clear c8b1
        try clear c9
        try clear hcz10_0
        try clear hcz10_1
        try clear hcz10_2
        try clear hcz10_3
        try clear hcz4_0
        try clear hcz4_1
        try clear hcz4_2
        try clear hcz4_3
        try clear hcz7_0
        try clear hcz7_1
        try clear hcz7_2
        try clear hcz7_3
        try clear hcz9_0
        try clear hcz9_1
        try clear hcz9_2
        try clear hcz9_3
        try clear p2
        obtain ⟨x5_2, x6_2, x7_2, rfl, rfl, rfl, HA, HK2, BK114, HB⟩ := hrel
        cases gk with
        | zero => exact absurd HA.out (by simp [spec_DecBits.l0])
        | succ k2 =>
          have H := HA.out
          clear HA
          simp only [spec_DecBits.l0] at H
          by_cases c11 : x7_2 < (a0_2.size : Int)
          rotate_left
          · rw [if_neg c11] at H
            have c11b0 : decide (x7_2 < (a0_2.size : Int)) = false := decide_eq_false c11
            clear c11
            as_aux_lemma =>
              simp only [Option.some.injEq, Prod.mk.injEq] at H
              obtain ⟨rfl, rfl⟩ := H
              have hcz17_0 := HW.zc BK114.out 0 (.int .i64 a0_0)
              have hcz17_1 := HW.zc BK114.out 1 (.bool a0_1)
              have hcz17_2 := HW.zc BK114.out 2 (.string a0_2)
              have hcz17_3 := HW.zc BK114.out 3 (.int .i64 a0_3)
              go_wp2
              go_ret2
              exact ⟨by first | rfl | (simp [errW_none, errW_some] <;> rfl) | (simp [*, errW_none, errW_some] <;> rfl), HW.zb⟩
          rw [if_pos c11] at H
          have c11b0 : decide (x7_2 < (a0_2.size : Int)) = true := decide_eq_true c11
          clear c11
          by_cases c12 : 0 ≤ x7_2
          rotate_left
          · rw [if_neg c12] at H
            exact absurd H (by simp)
          rw [if_pos c12] at H
          have c12b0 : decide (0 ≤ x7_2) = true := decide_eq_true c12
          clear c12
          replace H := Option.bind_eq_some_iff.mp H
          obtain ⟨⟨t115, t116, t117⟩, A140, H⟩ := H
          replace H : (spec_DecBits.l0 k2 x4_1 t115 t116 (wrap64 (x7_2 + 1)) a0_0 a0_1 a0_2 a0_3) = some (r1, r2) := H
          have A14 := Aside0.mk A140
          clear A140
          as_aux_lemma =>
            have H' := Aside0.mk H
            clear H
            have hcz15_0 := HW.zc BK114.out 0 (.int .i64 a0_0)
            have hcz15_1 := HW.zc BK114.out 1 (.bool a0_1)
            have hcz15_2 := HW.zc BK114.out 2 (.string a0_2)
            have hcz15_3 := HW.zc BK114.out 3 (.int .i64 a0_3)
            have p13 : 0 ≤ (x7_2 : Int) := of_decide_eq_true (by first | (with_reducible assumption) | assumption)
            have q13 : x7_2 < (a0_2.size : Int) := of_decide_eq_true (by first | (with_reducible assumption) | assumption)
            have hx13 := bt_at a0_2 x7_2
            replace p13 := eq_true p13
            replace q13 := eq_true q13
            go_wp2_with (first | ((with_reducible refine gate_callee (f := 14) rfl ?_); refine HW.gz (some 34) rfl rfl Tryd.func14 (by kernel_rfl) rfl #[.int .u64 x5_2, .int .u64 x6_2, .int .u64 (((bt a0_2 x7_2) - 48) % 256)] rfl ?_; (with_reducible refine (spec_decTimes.calls x5_2 x6_2 (((bt a0_2 x7_2) - 48) % 256) t115 t116 t117 _ A14.out).mono ?_); rintro e w16 ⟨rfl, hb⟩; refine ⟨_, rfl, ?_⟩; have n0_ := Aside0.mk (blk_below (g := gb114) (o := .cells #[.int .i64 a0_0, .bool a0_1, .string a0_2, .int .i64 a0_3] 27 (0, 0)) (HW.zB BK114.out) hb); have n1_ := Aside0.mk (below_step HW.zb hb); clear BK114; clear HB; have BK114 := n0_; have HB := n1_; clear n0_ n1_; (try clear hb); (try clear hb2); (try clear hk); (try clear hi)))
            go_roundg k2
            case measure => have := HJ1.out; have := HK2.out; omega
            case rel => exact ⟨(t115), (t116), (wrap64 (x7_2 + 1)), (by first | rfl | (simp; done) | (simp [*]; done)), (by first | rfl | (simp; done) | (simp [*]; done)), (by first | rfl | (simp; done) | (simp [*]; done)), H', ⟨by have := HJ1.out; have := HK2.out; omega⟩, ⟨by (with_reducible repeat (first | refine blk_drewN ?_ _ | refine blk_drew ?_ | refine blk_alloc ?_ _)); exact BK114.out⟩, ⟨HW.zb⟩⟩

/-! ### laws_decFits: function 4 -/
def laws_decFits.j0 : Nat → Int → Int → Bool → Int → Bool → ByteArray → Int → Option (Bool)
  | 0, _, _, _, _, _, _, _ => none
  | k + 1, x0, x1, x24, x123000, x123001, x123002, x123003 => if x24 = true then (some false) else ((spec_DecBits.f k x123000 x123001 x123002 x123003).bind fun bt124 => (if bt124.1 = x0 then (some (bt124.2 == x1)) else (some false)))
def laws_decFits.f (k : Nat) (a0 : Int) (a1 : Int) : Option (Bool) := (spec_DecOf.f k a0 a1).bind fun bt118 => ((spec_DecIs.f k bt118.1 bt118.2.1 bt118.2.2.1 bt118.2.2.2).bind fun t123 => (if t123 = true then (if (Go.bits .and .u64 (a0 / 2305843009213693952) 3) = 3 then (laws_decFits.j0 k a0 a1 (bt118.1 == 0) bt118.1 bt118.2.1 bt118.2.2.1 bt118.2.2.2) else (laws_decFits.j0 k a0 a1 false bt118.1 bt118.2.1 bt118.2.2.1 bt118.2.2.2)) else (laws_decFits.j0 k a0 a1 true bt118.1 bt118.2.1 bt118.2.2.1 bt118.2.2.2)))
theorem laws_decFits.mono_l : ∀ k, (∀ y0 y1 y2 y3 y4 y5 y6, LeO (laws_decFits.j0 k y0 y1 y2 y3 y4 y5 y6) (laws_decFits.j0 (k + 1) y0 y1 y2 y3 y4 y5 y6))
  | 0 => fun _ _ _ _ _ _ _ r h => by simp [laws_decFits.j0] at h
  | k + 1 => by
    have ih0 := laws_decFits.mono_l k
    · intro y0 y1 y2 y3 y4 y5 y6
      unfold laws_decFits.j0
      repeat' first
      | (with_reducible exact ih0 _ _ _ _ _ _ _)
      | (with_reducible exact spec_DecBits.mono _ _ _ _ _)
      | (with_reducible exact spec_DecIs.mono _ _ _ _ _)
      | (with_reducible exact spec_DecOf.mono _ _ _)
      | (with_reducible exact LeO.refl _)
      | (with_reducible exact LeO.none _)
      | (with_reducible refine LeO.ite ?_ ?_)
      | (with_reducible refine LeO.bind ?_ (fun _ => ?_))
      | exact ih0 _ _ _ _ _ _ _
      | exact spec_DecBits.mono _ _ _ _ _
      | exact spec_DecIs.mono _ _ _ _ _
      | exact spec_DecOf.mono _ _ _
      | exact LeO.none _
      | refine LeO.ite ?_ ?_
      | refine LeO.bind ?_ (fun _ => ?_)
theorem laws_decFits.mono : ∀ a0 a1 k, LeO (laws_decFits.f k a0 a1) (laws_decFits.f (k + 1) a0 a1) := by
  intro a0 a1 k
  have ih0 := laws_decFits.mono_l k
  unfold laws_decFits.f
  repeat' first
      | (with_reducible exact ih0 _ _ _ _ _ _ _)
      | (with_reducible exact spec_DecBits.mono _ _ _ _ _)
      | (with_reducible exact spec_DecIs.mono _ _ _ _ _)
      | (with_reducible exact spec_DecOf.mono _ _ _)
      | (with_reducible exact LeO.refl _)
      | (with_reducible exact LeO.none _)
      | (with_reducible refine LeO.ite ?_ ?_)
      | (with_reducible refine LeO.bind ?_ (fun _ => ?_))
      | exact ih0 _ _ _ _ _ _ _
      | exact spec_DecBits.mono _ _ _ _ _
      | exact spec_DecIs.mono _ _ _ _ _
      | exact spec_DecOf.mono _ _ _
      | exact LeO.none _
      | refine LeO.ite ?_ ?_
      | refine LeO.bind ?_ (fun _ => ?_)
set_option maxHeartbeats 8000000 in
set_option maxRecDepth 100000 in
theorem laws_decFits.calls (k : Nat) (a0 : Int) (a1 : Int) (r : Bool) (w : World) (h : laws_decFits.f k a0 a1 = some r) :
    Calls Tryd.prog 4 #[.int .u64 a0, .int .u64 a1] w fun e w' => e = .returned (.bool r) ∧ Below w.heap.size w w' := by
  have hu27 := Tryd.underlying27
  have HB := Aside0.mk (Below.refl w.heap.size w)
  have H : ((spec_DecOf.f k a0 a1).bind fun bt118 => ((spec_DecIs.f k bt118.1 bt118.2.1 bt118.2.2.1 bt118.2.2.2).bind fun t123 => (if t123 = true then (if (Go.bits .and .u64 (a0 / 2305843009213693952) 3) = 3 then (laws_decFits.j0 k a0 a1 (bt118.1 == 0) bt118.1 bt118.2.1 bt118.2.2.1 bt118.2.2.2) else (laws_decFits.j0 k a0 a1 false bt118.1 bt118.2.1 bt118.2.2.1 bt118.2.2.2)) else (laws_decFits.j0 k a0 a1 true bt118.1 bt118.2.1 bt118.2.2.1 bt118.2.2.2)))) = some r := h
  clear h
  replace H := Option.bind_eq_some_iff.mp H
  obtain ⟨⟨t118, t119, t120, t121⟩, A30, H⟩ := H
  replace H : ((spec_DecIs.f k t118 t119 t120 t121).bind fun t123 => (if t123 = true then (if (Go.bits .and .u64 (a0 / 2305843009213693952) 3) = 3 then (laws_decFits.j0 k a0 a1 (t118 == 0) t118 t119 t120 t121) else (laws_decFits.j0 k a0 a1 false t118 t119 t120 t121)) else (laws_decFits.j0 k a0 a1 true t118 t119 t120 t121))) = some r := H
  have A3 := Aside0.mk A30
  clear A30
  have HC4 := Aside0.mk H
  clear H
  go_enter Tryd.func4, Tryd.ntmps4
  go_upto_region 2 with (first | ((with_reducible refine gate_callee (f := 7) rfl ?_); refine HW.gz (some 10) rfl rfl Tryd.func7 (by kernel_rfl) rfl #[.int .u64 a0, .int .u64 a1] rfl ?_; (with_reducible refine (spec_DecOf.calls k a0 a1 t118 t119 t120 t121 _ A3.out).mono ?_); rintro e w5 ⟨rfl, hb⟩; refine ⟨_, rfl, ?_⟩; have n0_ := Aside0.mk (below_step HW.zb hb); clear HB; have HB := n0_; clear n0_; (try clear hb); (try clear hb2); (try clear hk); (try clear hi)) | ((with_reducible refine gate_dst (N := 5) rfl ?_); refine box_event ?hg (N := 5) ?hd (cs := #[.int .i64 0, .bool false, .string (⟨#[]⟩ : ByteArray), .int .i64 0]) (t := 27) ?hr ?_; (case hd => rfl); (case hg => rfl); (case hr => first | (go_simp; done) | (go_simp; rfl)); intro gb122 hg w6 hbox hb; have n0_ := Aside0.mk (below_step HW.zb hb); have n1_ := Aside0.mk (hbox); have n3_ := Aside0.mk ((by rw [hg]; exact (below_size HW.zb) : w.heap.size ≤ gb122)); clear HB; have HB := n0_; have BK122 := n1_; have GE122 := n3_; clear n0_ n1_ n3_; clear hb hbox hg; have hcz7_0 := HW.zc BK122.out 0 (.int .i64 0); have hcz7_1 := HW.zc BK122.out 1 (.bool false); have hcz7_2 := HW.zc BK122.out 2 (.string (⟨#[]⟩ : ByteArray)); have hcz7_3 := HW.zc BK122.out 3 (.int .i64 0); have hfz8_0 := blk_frozen BK122.out 0; have hfz8_1 := blk_frozen BK122.out 1; have hfz8_2 := blk_frozen BK122.out 2; have hfz8_3 := blk_frozen BK122.out 3))
  (try simp only [Act.put, List.setIfInBounds_toArray, List.set_cons_zero, List.set_cons_succ])
  go_cut [24] (fun v24 wc => ∃ (kq : Nat) (x24_3 : Bool), v24 = .bool x24_3 ∧ Aside0 (laws_decFits.j0 kq a0 a1 x24_3 t118 t119 t120 t121 = some r) ∧ Aside0 (kq ≤ k) ∧ Aside0 (wc.heap[gb122]? = some (.cells #[.int .i64 t118, .bool t119, .string t120, .int .i64 t121] 27 (0, 0))) ∧ Aside0 (Below w.heap.size w wc))
  case first =>
    have H := HC4.out
    clear HC4
    replace H := Option.bind_eq_some_iff.mp H
    obtain ⟨t123, A90, H⟩ := H
    replace H : (if t123 = true then (if (Go.bits .and .u64 (a0 / 2305843009213693952) 3) = 3 then (laws_decFits.j0 k a0 a1 (t118 == 0) t118 t119 t120 t121) else (laws_decFits.j0 k a0 a1 false t118 t119 t120 t121)) else (laws_decFits.j0 k a0 a1 true t118 t119 t120 t121)) = some r := H
    have A9 := Aside0.mk A90
    clear A90
    by_cases c10 : t123 = true
    rotate_left
    · replace c10 := Bool.eq_false_iff.mpr c10
      subst c10
      have H1 : (laws_decFits.j0 k a0 a1 true t118 t119 t120 t121) = some r := by rw [if_neg (show ¬ (false = true) by decide)] at H; exact H
      clear H
      have H := H1
      clear H1
      as_aux_lemma =>
        have H' := Aside0.mk H
        clear H
        have hcz19_0 := HW.zc BK122.out 0 (.int .i64 0)
        have hcz19_1 := HW.zc BK122.out 1 (.bool false)
        have hcz19_2 := HW.zc BK122.out 2 (.string (⟨#[]⟩ : ByteArray))
        have hcz19_3 := HW.zc BK122.out 3 (.int .i64 0)
        have hfz20_0 := blk_frozen BK122.out 0
        have hfz20_1 := blk_frozen BK122.out 1
        have hfz20_2 := blk_frozen BK122.out 2
        have hfz20_3 := blk_frozen BK122.out 3
        go_wp2_with (first | ((with_reducible refine gate_callee (f := 8) rfl ?_); refine HW.gz (some 12) rfl rfl Tryd.func8 (by kernel_rfl) rfl #[.agg #[.int .i64 t118, .bool t119, .string t120, .int .i64 t121]] rfl ?_; (with_reducible refine (spec_DecIs.calls k t118 t119 t120 t121 false _ A9.out).mono ?_); rintro e w21 ⟨rfl, hb⟩; refine ⟨_, rfl, ?_⟩; have n0_ := Aside0.mk (blk_below (g := gb122) (o := .cells #[.int .i64 t118, .bool t119, .string t120, .int .i64 t121] 27 (0, 0)) (by (with_reducible repeat (first | refine blk_drewN ?_ _ | refine blk_drew ?_ | refine blk_alloc ?_ _)); refine blk_put (cs := #[.int .i64 t118, .bool t119, .string t120, .int .i64 0]) ?_ 3 _ rfl; (with_reducible repeat (first | refine blk_drewN ?_ _ | refine blk_drew ?_ | refine blk_alloc ?_ _)); refine blk_put (cs := #[.int .i64 t118, .bool t119, .string (⟨#[]⟩ : ByteArray), .int .i64 0]) ?_ 2 _ rfl; (with_reducible repeat (first | refine blk_drewN ?_ _ | refine blk_drew ?_ | refine blk_alloc ?_ _)); refine blk_put (cs := #[.int .i64 t118, .bool false, .string (⟨#[]⟩ : ByteArray), .int .i64 0]) ?_ 1 _ rfl; (with_reducible repeat (first | refine blk_drewN ?_ _ | refine blk_drew ?_ | refine blk_alloc ?_ _)); refine blk_put (cs := #[.int .i64 0, .bool false, .string (⟨#[]⟩ : ByteArray), .int .i64 0]) ?_ 0 _ rfl; (with_reducible repeat (first | refine blk_drewN ?_ _ | refine blk_drew ?_ | refine blk_alloc ?_ _)); exact BK122.out) hb); have n1_ := Aside0.mk (below_step HW.zb hb); clear BK122; clear HB; have BK122 := n0_; have HB := n1_; clear n0_ n1_; (try clear hb); (try clear hb2); (try clear hk); (try clear hi)))
        go_meet
        case rel => exact ⟨_, (true), (by first | rfl | (simp; done) | (simp [*]; done)), H', ⟨by first | omega | exact Nat.le_refl _⟩, ⟨by (with_reducible repeat (first | refine blk_drewN ?_ _ | refine blk_drew ?_ | refine blk_alloc ?_ _)); exact BK122.out⟩, ⟨HW.zb⟩⟩
    subst c10
    have H1 : (if (Go.bits .and .u64 (a0 / 2305843009213693952) 3) = 3 then (laws_decFits.j0 k a0 a1 (t118 == 0) t118 t119 t120 t121) else (laws_decFits.j0 k a0 a1 false t118 t119 t120 t121)) = some r := by rw [if_pos rfl] at H; exact H
    clear H
    have H := H1
    clear H1
    by_cases c11 : (Go.bits .and .u64 (a0 / 2305843009213693952) 3) = 3
    · rw [if_pos c11] at H
      have c11b0 : ((Go.bits .and .u64 (a0 / 2305843009213693952) 3) == 3) = true := beq_iff_eq.mpr c11
      have c11b1 : ((Go.bits .and .u64 (a0 / 2305843009213693952) 3) != 3) = false := bne_eq_false_iff_eq.mpr c11
      clear c11
      (first | rw [c11b0] | (simp only [i64_w, i32_w]; rw [c11b0]) | skip)
      as_aux_lemma =>
        have H' := Aside0.mk H
        clear H
        have hcz12_0 := HW.zc BK122.out 0 (.int .i64 0)
        have hcz12_1 := HW.zc BK122.out 1 (.bool false)
        have hcz12_2 := HW.zc BK122.out 2 (.string (⟨#[]⟩ : ByteArray))
        have hcz12_3 := HW.zc BK122.out 3 (.int .i64 0)
        have hfz13_0 := blk_frozen BK122.out 0
        have hfz13_1 := blk_frozen BK122.out 1
        have hfz13_2 := blk_frozen BK122.out 2
        have hfz13_3 := blk_frozen BK122.out 3
        go_wp2_with (first | ((with_reducible refine gate_callee (f := 8) rfl ?_); refine HW.gz (some 12) rfl rfl Tryd.func8 (by kernel_rfl) rfl #[.agg #[.int .i64 t118, .bool t119, .string t120, .int .i64 t121]] rfl ?_; (with_reducible refine (spec_DecIs.calls k t118 t119 t120 t121 true _ A9.out).mono ?_); rintro e w14 ⟨rfl, hb⟩; refine ⟨_, rfl, ?_⟩; have n0_ := Aside0.mk (blk_below (g := gb122) (o := .cells #[.int .i64 t118, .bool t119, .string t120, .int .i64 t121] 27 (0, 0)) (by (with_reducible repeat (first | refine blk_drewN ?_ _ | refine blk_drew ?_ | refine blk_alloc ?_ _)); refine blk_put (cs := #[.int .i64 t118, .bool t119, .string t120, .int .i64 0]) ?_ 3 _ rfl; (with_reducible repeat (first | refine blk_drewN ?_ _ | refine blk_drew ?_ | refine blk_alloc ?_ _)); refine blk_put (cs := #[.int .i64 t118, .bool t119, .string (⟨#[]⟩ : ByteArray), .int .i64 0]) ?_ 2 _ rfl; (with_reducible repeat (first | refine blk_drewN ?_ _ | refine blk_drew ?_ | refine blk_alloc ?_ _)); refine blk_put (cs := #[.int .i64 t118, .bool false, .string (⟨#[]⟩ : ByteArray), .int .i64 0]) ?_ 1 _ rfl; (with_reducible repeat (first | refine blk_drewN ?_ _ | refine blk_drew ?_ | refine blk_alloc ?_ _)); refine blk_put (cs := #[.int .i64 0, .bool false, .string (⟨#[]⟩ : ByteArray), .int .i64 0]) ?_ 0 _ rfl; (with_reducible repeat (first | refine blk_drewN ?_ _ | refine blk_drew ?_ | refine blk_alloc ?_ _)); exact BK122.out) hb); have n1_ := Aside0.mk (below_step HW.zb hb); clear BK122; clear HB; have BK122 := n0_; have HB := n1_; clear n0_ n1_; (try clear hb); (try clear hb2); (try clear hk); (try clear hi); have hcz15_0 := HW.zc BK122.out 0 (.int .i64 t118); have hcz15_1 := HW.zc BK122.out 1 (.bool t119); have hcz15_2 := HW.zc BK122.out 2 (.string t120); have hcz15_3 := HW.zc BK122.out 3 (.int .i64 t121)))
        go_meet
        case rel => exact ⟨_, ((t118 == 0)), (by first | rfl | (simp; done) | (simp [*]; done)), H', ⟨by first | omega | exact Nat.le_refl _⟩, ⟨by (with_reducible repeat (first | refine blk_drewN ?_ _ | refine blk_drew ?_ | refine blk_alloc ?_ _)); exact BK122.out⟩, ⟨HW.zb⟩⟩
    rw [if_neg c11] at H
    have c11b0 : ((Go.bits .and .u64 (a0 / 2305843009213693952) 3) == 3) = false := beq_eq_false_iff_ne.mpr c11
    have c11b1 : ((Go.bits .and .u64 (a0 / 2305843009213693952) 3) != 3) = true := bne_iff_ne.mpr c11
    (first | rw [c11b0] | (simp only [i64_w, i32_w]; rw [c11b0]) | skip)
    as_aux_lemma =>
      have H' := Aside0.mk H
      clear H
      have hcz16_0 := HW.zc BK122.out 0 (.int .i64 0)
      have hcz16_1 := HW.zc BK122.out 1 (.bool false)
      have hcz16_2 := HW.zc BK122.out 2 (.string (⟨#[]⟩ : ByteArray))
      have hcz16_3 := HW.zc BK122.out 3 (.int .i64 0)
      have hfz17_0 := blk_frozen BK122.out 0
      have hfz17_1 := blk_frozen BK122.out 1
      have hfz17_2 := blk_frozen BK122.out 2
      have hfz17_3 := blk_frozen BK122.out 3
      go_wp2_with (first | ((with_reducible refine gate_callee (f := 8) rfl ?_); refine HW.gz (some 12) rfl rfl Tryd.func8 (by kernel_rfl) rfl #[.agg #[.int .i64 t118, .bool t119, .string t120, .int .i64 t121]] rfl ?_; (with_reducible refine (spec_DecIs.calls k t118 t119 t120 t121 true _ A9.out).mono ?_); rintro e w18 ⟨rfl, hb⟩; refine ⟨_, rfl, ?_⟩; have n0_ := Aside0.mk (blk_below (g := gb122) (o := .cells #[.int .i64 t118, .bool t119, .string t120, .int .i64 t121] 27 (0, 0)) (by (with_reducible repeat (first | refine blk_drewN ?_ _ | refine blk_drew ?_ | refine blk_alloc ?_ _)); refine blk_put (cs := #[.int .i64 t118, .bool t119, .string t120, .int .i64 0]) ?_ 3 _ rfl; (with_reducible repeat (first | refine blk_drewN ?_ _ | refine blk_drew ?_ | refine blk_alloc ?_ _)); refine blk_put (cs := #[.int .i64 t118, .bool t119, .string (⟨#[]⟩ : ByteArray), .int .i64 0]) ?_ 2 _ rfl; (with_reducible repeat (first | refine blk_drewN ?_ _ | refine blk_drew ?_ | refine blk_alloc ?_ _)); refine blk_put (cs := #[.int .i64 t118, .bool false, .string (⟨#[]⟩ : ByteArray), .int .i64 0]) ?_ 1 _ rfl; (with_reducible repeat (first | refine blk_drewN ?_ _ | refine blk_drew ?_ | refine blk_alloc ?_ _)); refine blk_put (cs := #[.int .i64 0, .bool false, .string (⟨#[]⟩ : ByteArray), .int .i64 0]) ?_ 0 _ rfl; (with_reducible repeat (first | refine blk_drewN ?_ _ | refine blk_drew ?_ | refine blk_alloc ?_ _)); exact BK122.out) hb); have n1_ := Aside0.mk (below_step HW.zb hb); clear BK122; clear HB; have BK122 := n0_; have HB := n1_; clear n0_ n1_; (try clear hb); (try clear hb2); (try clear hk); (try clear hi)))
      go_meet
      case rel => exact ⟨_, (false), (by first | rfl | (simp; done) | (simp [*]; done)), H', ⟨by first | omega | exact Nat.le_refl _⟩, ⟨by (with_reducible repeat (first | refine blk_drewN ?_ _ | refine blk_drew ?_ | refine blk_alloc ?_ _)); exact BK122.out⟩, ⟨HW.zb⟩⟩
  case rest =>
    clear HC4
    try clear c1
    try clear p2
    try clear c4
    try clear c7
    try clear c8
    try clear c10
    try clear c11
    try clear c11b0
    try clear c11b1
    try clear hcz12_0
    try clear hcz12_1
    try clear hcz12_2
    try clear hcz12_3
    try clear hcz15_0
    try clear hcz15_1
    try clear hcz15_2
    try clear hcz15_3
    try clear hcz16_0
    try clear hcz16_1
    try clear hcz16_2
    try clear hcz16_3
    try clear hcz19_0
    try clear hcz19_1
    try clear hcz19_2
    try clear hcz19_3
    try clear hcz7_0
    try clear hcz7_1
    try clear hcz7_2
    try clear hcz7_3
    try clear hfz13_0
    try clear hfz13_1
    try clear hfz13_2
    try clear hfz13_3
    try clear hfz17_0
    try clear hfz17_1
    try clear hfz17_2
    try clear hfz17_3
    try clear hfz20_0
    try clear hfz20_1
    try clear hfz20_2
    try clear hfz20_3
    try clear hfz8_0
    try clear hfz8_1
    try clear hfz8_2
    try clear hfz8_3
    obtain ⟨kq, x24_3, rfl, HA, HJ3, BK122, HB⟩ := hcut
    cases kq with
    | zero => exact absurd HA.out (by simp [laws_decFits.j0])
    | succ kj3 =>
      have H := HA.out
      clear HA
      simp only [laws_decFits.j0] at H
      by_cases c22 : x24_3 = true
      · subst c22
        have H1 : (some false) = some r := by rw [if_pos rfl] at H; exact H
        clear H
        have H := H1
        clear H1
        as_aux_lemma =>
          obtain rfl := Option.some.inj H
          go_wp2
          go_ret
          exact ⟨by first | rfl | (simp [errW_none, errW_some] <;> rfl) | (simp [*, errW_none, errW_some] <;> rfl), HW.zb⟩
      replace c22 := Bool.eq_false_iff.mpr c22
      subst c22
      have H1 : ((spec_DecBits.f kj3 t118 t119 t120 t121).bind fun bt124 => (if bt124.1 = a0 then (some (bt124.2 == a1)) else (some false))) = some r := by rw [if_neg (show ¬ (false = true) by decide)] at H; exact H
      clear H
      have H := H1
      clear H1
      replace H := Option.bind_eq_some_iff.mp H
      obtain ⟨⟨t124, t125⟩, A230, H⟩ := H
      replace H : (if t124 = a0 then (some (t125 == a1)) else (some false)) = some r := H
      have A23 := Aside0.mk A230
      clear A230
      by_cases c24 : t124 = a0
      · rw [if_pos c24] at H
        have c24b0 : (t124 == a0) = true := beq_iff_eq.mpr c24
        have c24b1 : (t124 != a0) = false := bne_eq_false_iff_eq.mpr c24
        clear c24
        as_aux_lemma =>
          obtain rfl := Option.some.inj H
          have hcz25_0 := HW.zc BK122.out 0 (.int .i64 t118)
          have hcz25_1 := HW.zc BK122.out 1 (.bool t119)
          have hcz25_2 := HW.zc BK122.out 2 (.string t120)
          have hcz25_3 := HW.zc BK122.out 3 (.int .i64 t121)
          go_wp2_with (first | ((with_reducible refine gate_callee (f := 9) rfl ?_); refine HW.gz (some 27) rfl rfl Tryd.func9 (by kernel_rfl) rfl #[.agg #[.int .i64 t118, .bool t119, .string t120, .int .i64 t121]] rfl ?_; (with_reducible refine (spec_DecBits.calls kj3 t118 t119 t120 t121 t124 t125 _ A23.out).mono ?_); rintro e w26 ⟨rfl, hb⟩; refine ⟨_, rfl, ?_⟩; have n0_ := Aside0.mk (blk_below (g := gb122) (o := .cells #[.int .i64 t118, .bool t119, .string t120, .int .i64 t121] 27 (0, 0)) (HW.zB BK122.out) hb); have n1_ := Aside0.mk (below_step HW.zb hb); clear BK122; clear HB; have BK122 := n0_; have HB := n1_; clear n0_ n1_; (try clear hb); (try clear hb2); (try clear hk); (try clear hi)))
          go_ret
          exact ⟨by first | rfl | (simp [errW_none, errW_some] <;> rfl) | (simp [*, errW_none, errW_some] <;> rfl), HW.zb⟩
      rw [if_neg c24] at H
      have c24b0 : (t124 == a0) = false := beq_eq_false_iff_ne.mpr c24
      have c24b1 : (t124 != a0) = true := bne_iff_ne.mpr c24
      as_aux_lemma =>
        obtain rfl := Option.some.inj H
        have hcz27_0 := HW.zc BK122.out 0 (.int .i64 t118)
        have hcz27_1 := HW.zc BK122.out 1 (.bool t119)
        have hcz27_2 := HW.zc BK122.out 2 (.string t120)
        have hcz27_3 := HW.zc BK122.out 3 (.int .i64 t121)
        go_wp2_with (first | ((with_reducible refine gate_callee (f := 9) rfl ?_); refine HW.gz (some 27) rfl rfl Tryd.func9 (by kernel_rfl) rfl #[.agg #[.int .i64 t118, .bool t119, .string t120, .int .i64 t121]] rfl ?_; (with_reducible refine (spec_DecBits.calls kj3 t118 t119 t120 t121 t124 t125 _ A23.out).mono ?_); rintro e w28 ⟨rfl, hb⟩; refine ⟨_, rfl, ?_⟩; have n1_ := Aside0.mk (below_step HW.zb hb); clear HB; have HB := n1_; clear n1_; (try clear hb); (try clear hb2); (try clear hk); (try clear hi)))
        go_ret
        exact ⟨by first | rfl | (simp [errW_none, errW_some] <;> rfl) | (simp [*, errW_none, errW_some] <;> rfl), HW.zb⟩

/-! ### bson_NewDecimal128: function 10 -/
def bson_NewDecimal128.f (a0 : Int) (a1 : Int) : Option (Int × Int) := some (a0, a1)
set_option maxHeartbeats 8000000 in
set_option maxRecDepth 100000 in
theorem bson_NewDecimal128.calls (a0 : Int) (a1 : Int) (r1 : Int) (r2 : Int) (w : World) (h : bson_NewDecimal128.f a0 a1 = some (r1, r2)) :
    Calls Tryd.prog 10 #[.int .u64 a0, .int .u64 a1] w fun e w' => e = .returned (.agg #[.int .u64 r1, .int .u64 r2]) ∧ Below w.heap.size w w' := by
  have hu34 := Tryd.underlying34
  have HB := Aside0.mk (Below.refl w.heap.size w)
  have H : (some (a0, a1)) = some (r1, r2) := h
  clear h
  as_aux_lemma =>
    simp only [Option.some.injEq, Prod.mk.injEq] at H
    obtain ⟨rfl, rfl⟩ := H
    go_enter Tryd.func10, Tryd.ntmps10
    go_wp2_with (first | ((with_reducible refine gate_dst (N := 4) rfl ?_); refine box_event ?hg (N := 4) ?hd (cs := #[.int .u64 0, .int .u64 0]) (t := 34) ?hr ?_; (case hd => rfl); (case hg => rfl); (case hr => first | (go_simp; done) | (go_simp; rfl)); intro gb126 hg w3 hbox hb; have n0_ := Aside0.mk (below_step HW.zb hb); have n1_ := Aside0.mk (hbox); have n3_ := Aside0.mk ((by rw [hg]; exact (below_size HW.zb) : w.heap.size ≤ gb126)); clear HB; have HB := n0_; have BK126 := n1_; have GE126 := n3_; clear n0_ n1_ n3_; clear hb hbox hg; have hcz4_0 := HW.zc BK126.out 0 (.int .u64 0); have hcz4_1 := HW.zc BK126.out 1 (.int .u64 0); have hfz5_0 := blk_frozen BK126.out 0; have hfz5_1 := blk_frozen BK126.out 1))
    refine bodyPost_ret (results_cell_row rfl _ _ gb126 34 #[.int .u64 a0, .int .u64 a1] (0, 0) _ rfl (by (with_reducible repeat (first | refine blk_drewN ?_ _ | refine blk_drew ?_ | refine blk_alloc ?_ _)); refine blk_put (cs := #[.int .u64 a0, .int .u64 0]) ?_ 1 _ rfl; (with_reducible repeat (first | refine blk_drewN ?_ _ | refine blk_drew ?_ | refine blk_alloc ?_ _)); refine blk_put (cs := #[.int .u64 0, .int .u64 0]) ?_ 0 _ rfl; (with_reducible repeat (first | refine blk_drewN ?_ _ | refine blk_drew ?_ | refine blk_alloc ?_ _)); exact BK126.out) Tryd.underlying34 rfl (by kernel_rfl)) rfl ?_
    exact ⟨by first | rfl | (simp [errW_none, errW_some] <;> rfl) | (simp [*, errW_none, errW_some] <;> rfl), HW.zb⟩

/-! ### decimal128_divmod: function 17 -/
def decimal128_divmod.f (a0 : Int) (a1 : Int) (a2 : Int) : Option (Int × Int × Int) := if (IntKind.u64.wrap (a2)) = 0 then (none) else (some (Go.bits .or .u64 (IntKind.u64.wrap ((IntKind.u64.wrap (Int.tdiv (a0 / 4294967296) (IntKind.u64.wrap (a2)))) * 4294967296)) (IntKind.u64.wrap (Int.tdiv (IntKind.u64.wrap ((IntKind.u64.wrap ((Int.tmod (a0 / 4294967296) (IntKind.u64.wrap (a2))) * 4294967296)) + (Go.bits .and .u64 a0 4294967295))) (IntKind.u64.wrap (a2)))), Go.bits .or .u64 (IntKind.u64.wrap ((IntKind.u64.wrap (Int.tdiv (IntKind.u64.wrap ((IntKind.u64.wrap ((Int.tmod (IntKind.u64.wrap ((IntKind.u64.wrap ((Int.tmod (a0 / 4294967296) (IntKind.u64.wrap (a2))) * 4294967296)) + (Go.bits .and .u64 a0 4294967295))) (IntKind.u64.wrap (a2))) * 4294967296)) + (a1 / 4294967296))) (IntKind.u64.wrap (a2)))) * 4294967296)) (IntKind.u64.wrap (Int.tdiv (IntKind.u64.wrap ((IntKind.u64.wrap ((Int.tmod (IntKind.u64.wrap ((IntKind.u64.wrap ((Int.tmod (IntKind.u64.wrap ((IntKind.u64.wrap ((Int.tmod (a0 / 4294967296) (IntKind.u64.wrap (a2))) * 4294967296)) + (Go.bits .and .u64 a0 4294967295))) (IntKind.u64.wrap (a2))) * 4294967296)) + (a1 / 4294967296))) (IntKind.u64.wrap (a2))) * 4294967296)) + (Go.bits .and .u64 a1 4294967295))) (IntKind.u64.wrap (a2)))), (Int.tmod (IntKind.u64.wrap ((IntKind.u64.wrap ((Int.tmod (IntKind.u64.wrap ((IntKind.u64.wrap ((Int.tmod (IntKind.u64.wrap ((IntKind.u64.wrap ((Int.tmod (a0 / 4294967296) (IntKind.u64.wrap (a2))) * 4294967296)) + (Go.bits .and .u64 a0 4294967295))) (IntKind.u64.wrap (a2))) * 4294967296)) + (a1 / 4294967296))) (IntKind.u64.wrap (a2))) * 4294967296)) + (Go.bits .and .u64 a1 4294967295))) (IntKind.u64.wrap (a2))) % 4294967296))
set_option maxHeartbeats 8000000 in
set_option maxRecDepth 100000 in
theorem decimal128_divmod.calls (a0 : Int) (a1 : Int) (a2 : Int) (r1 : Int) (r2 : Int) (r3 : Int) (w : World) (h : decimal128_divmod.f a0 a1 a2 = some (r1, r2, r3)) :
    Calls Tryd.prog 17 #[.int .u64 a0, .int .u64 a1, .int .u32 a2] w fun e w' => e = .returned (.tuple #[.int .u64 r1, .int .u64 r2, .int .u32 r3]) ∧ Drawn0 w w' := by
  have H : (if (IntKind.u64.wrap (a2)) = 0 then (none) else (some (Go.bits .or .u64 (IntKind.u64.wrap ((IntKind.u64.wrap (Int.tdiv (a0 / 4294967296) (IntKind.u64.wrap (a2)))) * 4294967296)) (IntKind.u64.wrap (Int.tdiv (IntKind.u64.wrap ((IntKind.u64.wrap ((Int.tmod (a0 / 4294967296) (IntKind.u64.wrap (a2))) * 4294967296)) + (Go.bits .and .u64 a0 4294967295))) (IntKind.u64.wrap (a2)))), Go.bits .or .u64 (IntKind.u64.wrap ((IntKind.u64.wrap (Int.tdiv (IntKind.u64.wrap ((IntKind.u64.wrap ((Int.tmod (IntKind.u64.wrap ((IntKind.u64.wrap ((Int.tmod (a0 / 4294967296) (IntKind.u64.wrap (a2))) * 4294967296)) + (Go.bits .and .u64 a0 4294967295))) (IntKind.u64.wrap (a2))) * 4294967296)) + (a1 / 4294967296))) (IntKind.u64.wrap (a2)))) * 4294967296)) (IntKind.u64.wrap (Int.tdiv (IntKind.u64.wrap ((IntKind.u64.wrap ((Int.tmod (IntKind.u64.wrap ((IntKind.u64.wrap ((Int.tmod (IntKind.u64.wrap ((IntKind.u64.wrap ((Int.tmod (a0 / 4294967296) (IntKind.u64.wrap (a2))) * 4294967296)) + (Go.bits .and .u64 a0 4294967295))) (IntKind.u64.wrap (a2))) * 4294967296)) + (a1 / 4294967296))) (IntKind.u64.wrap (a2))) * 4294967296)) + (Go.bits .and .u64 a1 4294967295))) (IntKind.u64.wrap (a2)))), (Int.tmod (IntKind.u64.wrap ((IntKind.u64.wrap ((Int.tmod (IntKind.u64.wrap ((IntKind.u64.wrap ((Int.tmod (IntKind.u64.wrap ((IntKind.u64.wrap ((Int.tmod (a0 / 4294967296) (IntKind.u64.wrap (a2))) * 4294967296)) + (Go.bits .and .u64 a0 4294967295))) (IntKind.u64.wrap (a2))) * 4294967296)) + (a1 / 4294967296))) (IntKind.u64.wrap (a2))) * 4294967296)) + (Go.bits .and .u64 a1 4294967295))) (IntKind.u64.wrap (a2))) % 4294967296))) = some (r1, r2, r3) := h
  clear h
  by_cases c4 : (IntKind.u64.wrap (a2)) = 0
  · rw [if_pos c4] at H
    exact absurd H (by simp)
  rw [if_neg c4] at H
  have c4b0 : ((IntKind.u64.wrap (a2)) == 0) = false := beq_eq_false_iff_ne.mpr c4
  have c4b1 : ((IntKind.u64.wrap (a2)) != 0) = true := bne_iff_ne.mpr c4
  as_aux_lemma =>
    simp only [Option.some.injEq, Prod.mk.injEq] at H
    obtain ⟨rfl, rfl, rfl⟩ := H
    go_enter Tryd.func17, Tryd.ntmps17
    go_wp2
    go_ret3
    exact ⟨by first | rfl | (simp; done) | (simp [*]; done), by repeat (first | exact Drawn0.refl _ | apply Drawn0.step)⟩

/-! ### strconv_Itoa_18: function 18 -/
def strconv_Itoa_18.f (a0 : Int) : Option ByteArray := if -9223372036854775808 ≤ a0 ∧ a0 ≤ 9223372036854775807 then some ⟨(Lib.itoa a0).toArray⟩ else none
theorem strconv_Itoa_18.calls (a0 : Int) (r : ByteArray) (w : World) (hlaid : Ito.LaidT w) (h : strconv_Itoa_18.f a0 = some r) :
    Calls Tryd.prog 18 #[.int .i64 a0] w fun e w' => e = .returned (.string r) ∧ Below w.heap.size w w' := by
  unfold strconv_Itoa_18.f at h
  by_cases hs : -9223372036854775808 ≤ a0 ∧ a0 ≤ 9223372036854775807
  rotate_left
  · rw [if_neg hs] at h; cases h
  rw [if_pos hs] at h
  obtain rfl := Option.some.inj h
  refine (Tryd.strconv_Itoa a0 hs.1 hs.2 w hlaid).mono ?_
  rintro e w' ⟨rfl, k, os, rfl⟩
  exact ⟨rfl, Lib.below_grow _ w (Nat.le_refl _) k os⟩

-- NOT PRINTED: function 15 (decimal128_String)

-- NOT PRINTED: function 11 (bson_Decimal128_String)

-- NOT PRINTED: function 5 (impl_DecText)

end Go.Proofs.YtpbfigeaoefcmaaDoor.PDt
