/- Printed by a program of this session (a turned copy of the printer of the kit): contracts of functions of the translation, each with the Lean function that it computes. Conditions: as each theorem states them. -/
import Derived.Test.YtpbfigeaoefcmaaDoorPDtx0
namespace Go.Proofs.YtpbfigeaoefcmaaDoor.PDt
open Go.RowKit Go.Proofs.YtpbfigeaoefcmaaDoorW.PrintWords Go.Proofs.YtpbfigeaoefcmaaDoorW.PrintLast Go.Proofs.YtpbfigeaoefcmaaDoorW.PrintMore
attribute [local go_sem] max2_int min2_int max_two min_two max_three min_three max_four min_four   -- for this text's walks alone
set_option linter.unusedVariables false
set_option linter.unusedSimpArgs false

/-! ### spec_DecIs: function 8 -/
mutual
def spec_DecIs.j0 : Nat → Bool → Int → Bool → ByteArray → Int → Option (Bool)
  | 0, _, _, _, _, _ => none
  | k + 1, x46, x114000, x114001, x114002, x114003 => if x46 = true then (some false) else (spec_DecIs.l0 k 0 x114000 x114001 x114002 x114003)
def spec_DecIs.l0 : Nat → Int → Int → Bool → ByteArray → Int → Option (Bool)
  | 0, _, _, _, _, _ => none
  | k + 1, x3, x114000, x114001, x114002, x114003 => if x3 < (x114002.size : Int) then (if 0 ≤ x3 then (if (bt x114002 x3) < 48 then (spec_DecIs.j2 k x3 true x114000 x114001 x114002 x114003) else (spec_DecIs.j2 k x3 (decide ((bt x114002 x3) > 57)) x114000 x114001 x114002 x114003)) else (none)) else (some true)
def spec_DecIs.j2 : Nat → Int → Bool → Int → Bool → ByteArray → Int → Option (Bool)
  | 0, _, _, _, _, _, _ => none
  | k + 1, x3, x65, x114000, x114001, x114002, x114003 => if x65 = true then (some false) else (spec_DecIs.l0 k (wrap64 (x3 + 1)) x114000 x114001 x114002 x114003)
end
def spec_DecIs.f (k : Nat) (a0_0 : Int) (a0_1 : Bool) (a0_2 : ByteArray) (a0_3 : Int) : Option (Bool) := if a0_0 = 0 then (if (a0_2.size : Int) < 1 then (spec_DecIs.j0 k true a0_0 a0_1 a0_2 a0_3) else (if (a0_2.size : Int) > 34 then (spec_DecIs.j0 k true a0_0 a0_1 a0_2 a0_3) else (if (a0_2.size : Int) > 1 then (if 0 < (a0_2.size : Int) then (if (bt a0_2 0) = 48 then (spec_DecIs.j0 k true a0_0 a0_1 a0_2 a0_3) else (if a0_3 < (-6176) then (spec_DecIs.j0 k true a0_0 a0_1 a0_2 a0_3) else (spec_DecIs.j0 k (decide (a0_3 > 6111)) a0_0 a0_1 a0_2 a0_3))) else (none)) else (if a0_3 < (-6176) then (spec_DecIs.j0 k true a0_0 a0_1 a0_2 a0_3) else (spec_DecIs.j0 k (decide (a0_3 > 6111)) a0_0 a0_1 a0_2 a0_3))))) else (if a0_0 = 1 then (some true) else (some (a0_0 == 2)))
theorem spec_DecIs.mono_l : ∀ k, (∀ y0 y1 y2 y3 y4, LeO (spec_DecIs.j0 k y0 y1 y2 y3 y4) (spec_DecIs.j0 (k + 1) y0 y1 y2 y3 y4)) ∧ (∀ y0 y1 y2 y3 y4, LeO (spec_DecIs.l0 k y0 y1 y2 y3 y4) (spec_DecIs.l0 (k + 1) y0 y1 y2 y3 y4)) ∧ (∀ y0 y1 y2 y3 y4 y5, LeO (spec_DecIs.j2 k y0 y1 y2 y3 y4 y5) (spec_DecIs.j2 (k + 1) y0 y1 y2 y3 y4 y5))
  | 0 => ⟨fun _ _ _ _ _ r h => by simp [spec_DecIs.j0] at h, fun _ _ _ _ _ r h => by simp [spec_DecIs.l0] at h, fun _ _ _ _ _ _ r h => by simp [spec_DecIs.j2] at h⟩
  | k + 1 => by
    obtain ⟨ih0, ih1, ih2⟩ := spec_DecIs.mono_l k
    refine ⟨?_, ?_, ?_⟩
    · intro y0 y1 y2 y3 y4
      unfold spec_DecIs.j0
      repeat' first
      | (with_reducible exact ih0 _ _ _ _ _)
      | (with_reducible exact ih1 _ _ _ _ _)
      | (with_reducible exact ih2 _ _ _ _ _ _)
      | (with_reducible exact LeO.refl _)
      | (with_reducible exact LeO.none _)
      | (with_reducible refine LeO.ite ?_ ?_)
      | (with_reducible refine LeO.bind ?_ (fun _ => ?_))
      | exact ih0 _ _ _ _ _
      | exact ih1 _ _ _ _ _
      | exact ih2 _ _ _ _ _ _
      | exact LeO.none _
      | refine LeO.ite ?_ ?_
      | refine LeO.bind ?_ (fun _ => ?_)
    · intro y0 y1 y2 y3 y4
      unfold spec_DecIs.l0
      repeat' first
      | (with_reducible exact ih0 _ _ _ _ _)
      | (with_reducible exact ih1 _ _ _ _ _)
      | (with_reducible exact ih2 _ _ _ _ _ _)
      | (with_reducible exact LeO.refl _)
      | (with_reducible exact LeO.none _)
      | (with_reducible refine LeO.ite ?_ ?_)
      | (with_reducible refine LeO.bind ?_ (fun _ => ?_))
      | exact ih0 _ _ _ _ _
      | exact ih1 _ _ _ _ _
      | exact ih2 _ _ _ _ _ _
      | exact LeO.none _
      | refine LeO.ite ?_ ?_
      | refine LeO.bind ?_ (fun _ => ?_)
    · intro y0 y1 y2 y3 y4 y5
      unfold spec_DecIs.j2
      repeat' first
      | (with_reducible exact ih0 _ _ _ _ _)
      | (with_reducible exact ih1 _ _ _ _ _)
      | (with_reducible exact ih2 _ _ _ _ _ _)
      | (with_reducible exact LeO.refl _)
      | (with_reducible exact LeO.none _)
      | (with_reducible refine LeO.ite ?_ ?_)
      | (with_reducible refine LeO.bind ?_ (fun _ => ?_))
      | exact ih0 _ _ _ _ _
      | exact ih1 _ _ _ _ _
      | exact ih2 _ _ _ _ _ _
      | exact LeO.none _
      | refine LeO.ite ?_ ?_
      | refine LeO.bind ?_ (fun _ => ?_)
theorem spec_DecIs.mono : ∀ a0 a1 a2 a3 k, LeO (spec_DecIs.f k a0 a1 a2 a3) (spec_DecIs.f (k + 1) a0 a1 a2 a3) := by
  intro a0 a1 a2 a3 k
  obtain ⟨ih0, ih1, ih2⟩ := spec_DecIs.mono_l k
  unfold spec_DecIs.f
  repeat' first
      | (with_reducible exact ih0 _ _ _ _ _)
      | (with_reducible exact ih1 _ _ _ _ _)
      | (with_reducible exact ih2 _ _ _ _ _ _)
      | (with_reducible exact LeO.refl _)
      | (with_reducible exact LeO.none _)
      | (with_reducible refine LeO.ite ?_ ?_)
      | (with_reducible refine LeO.bind ?_ (fun _ => ?_))
      | exact ih0 _ _ _ _ _
      | exact ih1 _ _ _ _ _
      | exact ih2 _ _ _ _ _ _
      | exact LeO.none _
      | refine LeO.ite ?_ ?_
      | refine LeO.bind ?_ (fun _ => ?_)
set_option maxHeartbeats 8000000 in
set_option maxRecDepth 100000 in
theorem spec_DecIs.calls (k : Nat) (a0_0 : Int) (a0_1 : Bool) (a0_2 : ByteArray) (a0_3 : Int) (r : Bool) (w : World) (h : spec_DecIs.f k a0_0 a0_1 a0_2 a0_3 = some r) :
    Calls Tryd.prog 8 #[.agg #[.int .i64 a0_0, .bool a0_1, .string a0_2, .int .i64 a0_3]] w fun e w' => e = .returned (.bool r) ∧ Below w.heap.size w w' := by
  have hu27 := Tryd.underlying27
  have HB := Aside0.mk (Below.refl w.heap.size w)
  have H : (if a0_0 = 0 then (if (a0_2.size : Int) < 1 then (spec_DecIs.j0 k true a0_0 a0_1 a0_2 a0_3) else (if (a0_2.size : Int) > 34 then (spec_DecIs.j0 k true a0_0 a0_1 a0_2 a0_3) else (if (a0_2.size : Int) > 1 then (if 0 < (a0_2.size : Int) then (if (bt a0_2 0) = 48 then (spec_DecIs.j0 k true a0_0 a0_1 a0_2 a0_3) else (if a0_3 < (-6176) then (spec_DecIs.j0 k true a0_0 a0_1 a0_2 a0_3) else (spec_DecIs.j0 k (decide (a0_3 > 6111)) a0_0 a0_1 a0_2 a0_3))) else (none)) else (if a0_3 < (-6176) then (spec_DecIs.j0 k true a0_0 a0_1 a0_2 a0_3) else (spec_DecIs.j0 k (decide (a0_3 > 6111)) a0_0 a0_1 a0_2 a0_3))))) else (if a0_0 = 1 then (some true) else (some (a0_0 == 2)))) = some r := h
  clear h
  by_cases c2 : a0_0 = 0
  rotate_left
  · rw [if_neg c2] at H
    have c2b0 : (a0_0 == 0) = false := beq_eq_false_iff_ne.mpr c2
    have c2b1 : (a0_0 != 0) = true := bne_iff_ne.mpr c2
    by_cases c33 : a0_0 = 1
    · rw [if_pos c33] at H
      have c33b0 : (a0_0 == 1) = true := beq_iff_eq.mpr c33
      have c33b1 : (a0_0 != 1) = false := bne_eq_false_iff_eq.mpr c33
      clear c33
      as_aux_lemma =>
        obtain rfl := Option.some.inj H
        go_enter Tryd.func8, Tryd.ntmps8
        go_wp2_with (first | ((with_reducible refine gate_dst (N := 1) rfl ?_); (try (refine gate_guard (by rfl) ?_; dsimp only)); refine box_event ?hg (N := 1) ?hd (cs := #[.int .i64 a0_0, .bool a0_1, .string a0_2, .int .i64 a0_3]) (t := 27) ?hr ?_; (case hd => rfl); (case hg => rfl); (case hr => first | (go_simp; done) | (go_simp; rfl)); intro gb113 hg w34 hbox hb; have n0_ := Aside0.mk (below_step HW.zb hb); have n1_ := Aside0.mk (hbox); have n3_ := Aside0.mk ((by rw [hg]; exact (below_size HW.zb) : w.heap.size ≤ gb113)); clear HB; have HB := n0_; have BK113 := n1_; have GE113 := n3_; clear n0_ n1_ n3_; clear hb hbox hg; have hcz35_0 := HW.zc BK113.out 0 (.int .i64 a0_0); have hcz35_1 := HW.zc BK113.out 1 (.bool a0_1); have hcz35_2 := HW.zc BK113.out 2 (.string a0_2); have hcz35_3 := HW.zc BK113.out 3 (.int .i64 a0_3)))
        go_ret
        exact ⟨by first | rfl | (simp [errW_none, errW_some] <;> rfl) | (simp [*, errW_none, errW_some] <;> rfl), HW.zb⟩
    rw [if_neg c33] at H
    have c33b0 : (a0_0 == 1) = false := beq_eq_false_iff_ne.mpr c33
    have c33b1 : (a0_0 != 1) = true := bne_iff_ne.mpr c33
    as_aux_lemma =>
      obtain rfl := Option.some.inj H
      go_enter Tryd.func8, Tryd.ntmps8
      go_wp2_with (first | ((with_reducible refine gate_dst (N := 1) rfl ?_); (try (refine gate_guard (by rfl) ?_; dsimp only)); refine box_event ?hg (N := 1) ?hd (cs := #[.int .i64 a0_0, .bool a0_1, .string a0_2, .int .i64 a0_3]) (t := 27) ?hr ?_; (case hd => rfl); (case hg => rfl); (case hr => first | (go_simp; done) | (go_simp; rfl)); intro gb113 hg w36 hbox hb; have n0_ := Aside0.mk (below_step HW.zb hb); have n1_ := Aside0.mk (hbox); have n3_ := Aside0.mk ((by rw [hg]; exact (below_size HW.zb) : w.heap.size ≤ gb113)); clear HB; have HB := n0_; have BK113 := n1_; have GE113 := n3_; clear n0_ n1_ n3_; clear hb hbox hg; have hcz37_0 := HW.zc BK113.out 0 (.int .i64 a0_0); have hcz37_1 := HW.zc BK113.out 1 (.bool a0_1); have hcz37_2 := HW.zc BK113.out 2 (.string a0_2); have hcz37_3 := HW.zc BK113.out 3 (.int .i64 a0_3)))
      go_ret
      exact ⟨by first | rfl | (simp [errW_none, errW_some] <;> rfl) | (simp [*, errW_none, errW_some] <;> rfl), HW.zb⟩
  rw [if_pos c2] at H
  have c2b0 : (a0_0 == 0) = true := beq_iff_eq.mpr c2
  have c2b1 : (a0_0 != 0) = false := bne_eq_false_iff_eq.mpr c2
  clear c2
  have HC3 := Aside0.mk H
  clear H
  go_enter Tryd.func8, Tryd.ntmps8
  go_upto_region 3 with (first | ((with_reducible refine gate_dst (N := 1) rfl ?_); (try (refine gate_guard (by rfl) ?_; dsimp only)); refine box_event ?hg (N := 1) ?hd (cs := #[.int .i64 a0_0, .bool a0_1, .string a0_2, .int .i64 a0_3]) (t := 27) ?hr ?_; (case hd => rfl); (case hg => rfl); (case hr => first | (go_simp; done) | (go_simp; rfl)); intro gb113 hg w4 hbox hb; have n0_ := Aside0.mk (below_step HW.zb hb); have n1_ := Aside0.mk (hbox); have n3_ := Aside0.mk ((by rw [hg]; exact (below_size HW.zb) : w.heap.size ≤ gb113)); clear HB; have HB := n0_; have BK113 := n1_; have GE113 := n3_; clear n0_ n1_ n3_; clear hb hbox hg; have hcz5_0 := HW.zc BK113.out 0 (.int .i64 a0_0); have hcz5_1 := HW.zc BK113.out 1 (.bool a0_1); have hcz5_2 := HW.zc BK113.out 2 (.string a0_2); have hcz5_3 := HW.zc BK113.out 3 (.int .i64 a0_3)))
  (try simp only [Act.put, List.setIfInBounds_toArray, List.set_cons_zero, List.set_cons_succ])
  go_cut [46] (fun v46 wc => ∃ (kq : Nat) (x46_2 : Bool), v46 = .bool x46_2 ∧ Aside0 (spec_DecIs.j0 kq x46_2 a0_0 a0_1 a0_2 a0_3 = some r) ∧ Aside0 (kq ≤ k) ∧ Aside0 (wc.heap[gb113]? = some (.cells #[.int .i64 a0_0, .bool a0_1, .string a0_2, .int .i64 a0_3] 27 (0, 0))) ∧ Aside0 (Below w.heap.size w wc))
  case first =>
    have H := HC3.out
    clear HC3
    by_cases c6 : (a0_2.size : Int) < 1
    · rw [if_pos c6] at H
      have c6b0 : decide ((a0_2.size : Int) < 1) = true := decide_eq_true c6
      have c6b1 : decide (a0_2.size < 1) = true := decide_eq_true (by omega)
      clear c6
      (first | rw [c6b0] | (simp only [i64_w, i32_w]; rw [c6b0]) | skip)
      as_aux_lemma =>
        have H' := Aside0.mk H
        clear H
        have hcz7_0 := HW.zc BK113.out 0 (.int .i64 a0_0)
        have hcz7_1 := HW.zc BK113.out 1 (.bool a0_1)
        have hcz7_2 := HW.zc BK113.out 2 (.string a0_2)
        have hcz7_3 := HW.zc BK113.out 3 (.int .i64 a0_3)
        go_wp2
        go_meet
        case rel => exact ⟨_, (true), (by first | rfl | (simp; done) | (simp [*]; done)), H', ⟨by first | omega | exact Nat.le_refl _⟩, ⟨by (with_reducible repeat (first | refine blk_drewN ?_ _ | refine blk_drew ?_ | refine blk_alloc ?_ _)); exact BK113.out⟩, ⟨HW.zb⟩⟩
    rw [if_neg c6] at H
    have c6b0 : decide ((a0_2.size : Int) < 1) = false := decide_eq_false c6
    have c6b1 : decide (a0_2.size < 1) = false := decide_eq_false (by omega)
    clear c6
    (first | rw [c6b0] | (simp only [i64_w, i32_w]; rw [c6b0]) | skip)
    by_cases c8 : (a0_2.size : Int) > 34
    · rw [if_pos c8] at H
      have c8b0 : decide (34 < (a0_2.size : Int)) = true := decide_eq_true c8
      have c8b1 : decide (34 < a0_2.size) = true := decide_eq_true (by omega)
      clear c8
      as_aux_lemma =>
        have H' := Aside0.mk H
        clear H
        have hcz9_0 := HW.zc BK113.out 0 (.int .i64 a0_0)
        have hcz9_1 := HW.zc BK113.out 1 (.bool a0_1)
        have hcz9_2 := HW.zc BK113.out 2 (.string a0_2)
        have hcz9_3 := HW.zc BK113.out 3 (.int .i64 a0_3)
        go_wp2
        go_meet
        case rel => exact ⟨_, (true), (by first | rfl | (simp; done) | (simp [*]; done)), H', ⟨by first | omega | exact Nat.le_refl _⟩, ⟨by (with_reducible repeat (first | refine blk_drewN ?_ _ | refine blk_drew ?_ | refine blk_alloc ?_ _)); exact BK113.out⟩, ⟨HW.zb⟩⟩
    rw [if_neg c8] at H
    have c8b0 : decide (34 < (a0_2.size : Int)) = false := decide_eq_false c8
    have c8b1 : decide (34 < a0_2.size) = false := decide_eq_false (by omega)
    clear c8
    by_cases c10 : (a0_2.size : Int) > 1
    rotate_left
    · rw [if_neg c10] at H
      have c10b0 : decide (1 < (a0_2.size : Int)) = false := decide_eq_false c10
      have c10b1 : decide (1 < a0_2.size) = false := decide_eq_false (by omega)
      clear c10
      by_cases c18 : a0_3 < (-6176)
      · rw [if_pos c18] at H
        have c18b0 : decide (a0_3 < (-6176)) = true := decide_eq_true c18
        clear c18
        as_aux_lemma =>
          have H' := Aside0.mk H
          clear H
          have hcz19_0 := HW.zc BK113.out 0 (.int .i64 a0_0)
          have hcz19_1 := HW.zc BK113.out 1 (.bool a0_1)
          have hcz19_2 := HW.zc BK113.out 2 (.string a0_2)
          have hcz19_3 := HW.zc BK113.out 3 (.int .i64 a0_3)
          go_wp2
          go_meet
          case rel => exact ⟨_, (true), (by first | rfl | (simp; done) | (simp [*]; done)), H', ⟨by first | omega | exact Nat.le_refl _⟩, ⟨by (with_reducible repeat (first | refine blk_drewN ?_ _ | refine blk_drew ?_ | refine blk_alloc ?_ _)); exact BK113.out⟩, ⟨HW.zb⟩⟩
      rw [if_neg c18] at H
      have c18b0 : decide (a0_3 < (-6176)) = false := decide_eq_false c18
      clear c18
      as_aux_lemma =>
        have H' := Aside0.mk H
        clear H
        have hcz20_0 := HW.zc BK113.out 0 (.int .i64 a0_0)
        have hcz20_1 := HW.zc BK113.out 1 (.bool a0_1)
        have hcz20_2 := HW.zc BK113.out 2 (.string a0_2)
        have hcz20_3 := HW.zc BK113.out 3 (.int .i64 a0_3)
        go_wp2
        go_meet
        case rel => exact ⟨_, (decide (a0_3 > 6111)), (by first | rfl | (simp; done) | (simp [*]; done)), H', ⟨by first | omega | exact Nat.le_refl _⟩, ⟨by (with_reducible repeat (first | refine blk_drewN ?_ _ | refine blk_drew ?_ | refine blk_alloc ?_ _)); exact BK113.out⟩, ⟨HW.zb⟩⟩
    rw [if_pos c10] at H
    have c10b0 : decide (1 < (a0_2.size : Int)) = true := decide_eq_true c10
    have c10b1 : decide (1 < a0_2.size) = true := decide_eq_true (by omega)
    clear c10
    by_cases c11 : 0 < (a0_2.size : Int)
    rotate_left
    · rw [if_neg c11] at H
      exact absurd H (by simp)
    rw [if_pos c11] at H
    have c11b0 : decide (0 < (a0_2.size : Int)) = true := decide_eq_true c11
    have c11b1 : decide (0 < a0_2.size) = true := decide_eq_true (by omega)
    clear c11
    by_cases c13 : (bt a0_2 0) = 48
    · rw [if_pos c13] at H
      have c13b0 : ((bt a0_2 0) == 48) = true := beq_iff_eq.mpr c13
      have c13b1 : ((bt a0_2 0) != 48) = false := bne_eq_false_iff_eq.mpr c13
      clear c13
      as_aux_lemma =>
        have H' := Aside0.mk H
        clear H
        have hcz14_0 := HW.zc BK113.out 0 (.int .i64 a0_0)
        have hcz14_1 := HW.zc BK113.out 1 (.bool a0_1)
        have hcz14_2 := HW.zc BK113.out 2 (.string a0_2)
        have hcz14_3 := HW.zc BK113.out 3 (.int .i64 a0_3)
        have p12 : 0 ≤ (0 : Int) := (by omega)
        have q12 : 0 < a0_2.size := (by have : (0 : Int) < (a0_2.size : Int) := of_decide_eq_true (by first | (with_reducible assumption) | assumption); omega)
        have hx12 : ∀ h : 0 < a0_2.size, ((a0_2[0]'h).toNat : Int) = bt a0_2 0 := bt_at a0_2 0
        clear p12
        have qi12 : (0 < (a0_2.size : Int)) = True := eq_true (of_decide_eq_true (by first | (with_reducible assumption) | assumption))
        replace q12 := eq_true q12
        go_wp2
        go_meet
        case rel => exact ⟨_, (true), (by first | rfl | (simp; done) | (simp [*]; done)), H', ⟨by first | omega | exact Nat.le_refl _⟩, ⟨by (with_reducible repeat (first | refine blk_drewN ?_ _ | refine blk_drew ?_ | refine blk_alloc ?_ _)); exact BK113.out⟩, ⟨HW.zb⟩⟩
    rw [if_neg c13] at H
    have c13b0 : ((bt a0_2 0) == 48) = false := beq_eq_false_iff_ne.mpr c13
    have c13b1 : ((bt a0_2 0) != 48) = true := bne_iff_ne.mpr c13
    by_cases c15 : a0_3 < (-6176)
    · rw [if_pos c15] at H
      have c15b0 : decide (a0_3 < (-6176)) = true := decide_eq_true c15
      clear c15
      as_aux_lemma =>
        have H' := Aside0.mk H
        clear H
        have hcz16_0 := HW.zc BK113.out 0 (.int .i64 a0_0)
        have hcz16_1 := HW.zc BK113.out 1 (.bool a0_1)
        have hcz16_2 := HW.zc BK113.out 2 (.string a0_2)
        have hcz16_3 := HW.zc BK113.out 3 (.int .i64 a0_3)
        have p12 : 0 ≤ (0 : Int) := (by omega)
        have q12 : 0 < a0_2.size := (by have : (0 : Int) < (a0_2.size : Int) := of_decide_eq_true (by first | (with_reducible assumption) | assumption); omega)
        have hx12 : ∀ h : 0 < a0_2.size, ((a0_2[0]'h).toNat : Int) = bt a0_2 0 := bt_at a0_2 0
        clear p12
        have qi12 : (0 < (a0_2.size : Int)) = True := eq_true (of_decide_eq_true (by first | (with_reducible assumption) | assumption))
        replace q12 := eq_true q12
        go_wp2
        go_meet
        case rel => exact ⟨_, (true), (by first | rfl | (simp; done) | (simp [*]; done)), H', ⟨by first | omega | exact Nat.le_refl _⟩, ⟨by (with_reducible repeat (first | refine blk_drewN ?_ _ | refine blk_drew ?_ | refine blk_alloc ?_ _)); exact BK113.out⟩, ⟨HW.zb⟩⟩
    rw [if_neg c15] at H
    have c15b0 : decide (a0_3 < (-6176)) = false := decide_eq_false c15
    clear c15
    as_aux_lemma =>
      have H' := Aside0.mk H
      clear H
      have hcz17_0 := HW.zc BK113.out 0 (.int .i64 a0_0)
      have hcz17_1 := HW.zc BK113.out 1 (.bool a0_1)
      have hcz17_2 := HW.zc BK113.out 2 (.string a0_2)
      have hcz17_3 := HW.zc BK113.out 3 (.int .i64 a0_3)
      have p12 : 0 ≤ (0 : Int) := (by omega)
      have q12 : 0 < a0_2.size := (by have : (0 : Int) < (a0_2.size : Int) := of_decide_eq_true (by first | (with_reducible assumption) | assumption); omega)
      have hx12 : ∀ h : 0 < a0_2.size, ((a0_2[0]'h).toNat : Int) = bt a0_2 0 := bt_at a0_2 0
      clear p12
      have qi12 : (0 < (a0_2.size : Int)) = True := eq_true (of_decide_eq_true (by first | (with_reducible assumption) | assumption))
      replace q12 := eq_true q12
      go_wp2
      go_meet
      case rel => exact ⟨_, (decide (a0_3 > 6111)), (by first | rfl | (simp; done) | (simp [*]; done)), H', ⟨by first | omega | exact Nat.le_refl _⟩, ⟨by (with_reducible repeat (first | refine blk_drewN ?_ _ | refine blk_drew ?_ | refine blk_alloc ?_ _)); exact BK113.out⟩, ⟨HW.zb⟩⟩
  case rest =>
    clear HC3
    try clear c1
    try clear p1
    try clear q1
    try clear hx1
    try clear qi1
    try clear c2
    try clear c2b0
    try clear c2b1
    try clear p2
    try clear c6
    try clear c6b0
    try clear c6b1
    try clear c8
    try clear c8b0
    try clear c8b1
    try clear c10
    try clear c10b0
    try clear c10b1
    try clear c11
    try clear c11b0
    try clear c11b1
    try clear p12
    try clear q12
    try clear hx12
    try clear qi12
    try clear c13
    try clear c13b0
    try clear c13b1
    try clear c15
    try clear c15b0
    try clear c18
    try clear c18b0
    try clear hcz14_0
    try clear hcz14_1
    try clear hcz14_2
    try clear hcz14_3
    try clear hcz16_0
    try clear hcz16_1
    try clear hcz16_2
    try clear hcz16_3
    try clear hcz17_0
    try clear hcz17_1
    try clear hcz17_2
    try clear hcz17_3
    try clear hcz19_0
    try clear hcz19_1
    try clear hcz19_2
    try clear hcz19_3
    try clear hcz20_0
    try clear hcz20_1
    try clear hcz20_2
    try clear hcz20_3
    try clear hcz5_0
    try clear hcz5_1
    try clear hcz5_2
    try clear hcz5_3
    try clear hcz7_0
    try clear hcz7_1
    try clear hcz7_2
    try clear hcz7_3
    try clear hcz9_0
    try clear hcz9_1
    try clear hcz9_2
    try clear hcz9_3
    try clear p12
    try clear q12
    obtain ⟨kq, x46_2, rfl, HA, HJ2, BK113, HB⟩ := hcut
    cases kq with
    | zero => exact absurd HA.out (by simp [spec_DecIs.j0])
    | succ kj2 =>
      have H := HA.out
      clear HA
      simp only [spec_DecIs.j0] at H
      by_cases c21 : x46_2 = true
      · subst c21
        have H1 : (some false) = some r := by rw [if_pos rfl] at H; exact H
        clear H
        have H := H1
        clear H1
        as_aux_lemma =>
          obtain rfl := Option.some.inj H
          go_wp2
          go_ret
          exact ⟨by first | rfl | (simp [errW_none, errW_some] <;> rfl) | (simp [*, errW_none, errW_some] <;> rfl), HW.zb⟩
      replace c21 := Bool.eq_false_iff.mpr c21
      subst c21
      have H1 : (spec_DecIs.l0 kj2 0 a0_0 a0_1 a0_2 a0_3) = some r := by rw [if_neg (show ¬ (false = true) by decide)] at H; exact H
      clear H
      have H := H1
      clear H1
      have H' := Aside0.mk H
      clear H
      go_wp2
      go_loopg [3] kj2 (fun kq v3 w' => ∃ (x3_2 : Int), v3 = .int .i64 x3_2 ∧ Aside0 (spec_DecIs.l0 kq x3_2 a0_0 a0_1 a0_2 a0_3 = some r) ∧ Aside0 (kq ≤ kj2) ∧ Aside0 (w'.heap[gb113]? = some (.cells #[.int .i64 a0_0, .bool a0_1, .string a0_2, .int .i64 a0_3] 27 (0, 0))) ∧ Aside0 (Below w.heap.size w w'))
      case atStart => exact ⟨(0), (by first | rfl | (simp; done) | (simp [*]; done)), H', ⟨Nat.le_refl _⟩, ⟨by (with_reducible repeat (first | refine blk_drewN ?_ _ | refine blk_drew ?_ | refine blk_alloc ?_ _)); exact BK113.out⟩, ⟨HW.zb⟩⟩
      case round =>
        clear H'
        try clear c1
        try clear p1
        try clear q1
        try clear hx1
        try clear qi1
        try clear c2
        try clear c2b0
        try clear c2b1
        try clear p2
        try clear c6
        try clear c6b0
        try clear c6b1
        try clear c8
        try clear c8b0
        try clear c8b1
        try clear c10
        try clear c10b0
        try clear c10b1
        try clear c11
        try clear c11b0
        try clear c11b1
        try clear p12
        try clear q12
        try clear hx12
        try clear qi12
        try clear c13
        try clear c13b0
        try clear c13b1
        try clear c15
        try clear c15b0
        try clear c18
        try clear c18b0
        try clear c21
        try clear hcz14_0
        try clear hcz14_1
        try clear hcz14_2
        try clear hcz14_3
        try clear hcz16_0
        try clear hcz16_1
        try clear hcz16_2
        try clear hcz16_3
        try clear hcz17_0
        try clear hcz17_1
        try clear hcz17_2
        try clear hcz17_3
        try clear hcz19_0
        try clear hcz19_1
        try clear hcz19_2
        try clear hcz19_3
        try clear hcz20_0
        try clear hcz20_1
        try clear hcz20_2
        try clear hcz20_3
        try clear hcz5_0
        try clear hcz5_1
        try clear hcz5_2
        try clear hcz5_3
        try clear hcz7_0
        try clear hcz7_1
        try clear hcz7_2
        try clear hcz7_3
        try clear hcz9_0
        try clear hcz9_1
        try clear hcz9_2
        try clear hcz9_3
        try clear p1
        try clear p12
        try clear p2
        try clear q1
        try clear q12
        obtain ⟨x3_2, rfl, HA, HK2, BK113, HB⟩ := hrel
        cases gk with
        | zero => exact absurd HA.out (by simp [spec_DecIs.l0])
        | succ k2 =>
          have H := HA.out
          clear HA
          simp only [spec_DecIs.l0] at H
          by_cases c22 : x3_2 < (a0_2.size : Int)
          rotate_left
          · rw [if_neg c22] at H
            have c22b0 : decide (x3_2 < (a0_2.size : Int)) = false := decide_eq_false c22
            clear c22
            as_aux_lemma =>
              obtain rfl := Option.some.inj H
              have hcz32_0 := HW.zc BK113.out 0 (.int .i64 a0_0)
              have hcz32_1 := HW.zc BK113.out 1 (.bool a0_1)
              have hcz32_2 := HW.zc BK113.out 2 (.string a0_2)
              have hcz32_3 := HW.zc BK113.out 3 (.int .i64 a0_3)
              go_wp2
              go_ret
              exact ⟨by first | rfl | (simp [errW_none, errW_some] <;> rfl) | (simp [*, errW_none, errW_some] <;> rfl), HW.zb⟩
          rw [if_pos c22] at H
          have c22b0 : decide (x3_2 < (a0_2.size : Int)) = true := decide_eq_true c22
          clear c22
          have HC23 := Aside0.mk H
          clear H
          have hcz24_0 := HW.zc BK113.out 0 (.int .i64 a0_0)
          have hcz24_1 := HW.zc BK113.out 1 (.bool a0_1)
          have hcz24_2 := HW.zc BK113.out 2 (.string a0_2)
          have hcz24_3 := HW.zc BK113.out 3 (.int .i64 a0_3)
          go_upto_region 8 with (fail)
          go_cut [65] (fun v65 wc => ∃ (kq : Nat) (x65_22 : Bool), v65 = .bool x65_22 ∧ Aside0 (spec_DecIs.j2 kq x3_2 x65_22 a0_0 a0_1 a0_2 a0_3 = some r) ∧ Aside0 (kq ≤ k2) ∧ Aside0 (wc.heap[gb113]? = some (.cells #[.int .i64 a0_0, .bool a0_1, .string a0_2, .int .i64 a0_3] 27 (0, 0))) ∧ Aside0 (Below w.heap.size w wc))
          case first =>
            have H := HC23.out
            clear HC23
            by_cases c25 : 0 ≤ x3_2
            rotate_left
            · rw [if_neg c25] at H
              exact absurd H (by simp)
            rw [if_pos c25] at H
            have c25b0 : decide (0 ≤ x3_2) = true := decide_eq_true c25
            clear c25
            (first | rw [c25b0] | (simp only [i64_w, i32_w]; rw [c25b0]) | skip)
            by_cases c27 : (bt a0_2 x3_2) < 48
            · rw [if_pos c27] at H
              have c27b0 : decide ((bt a0_2 x3_2) < 48) = true := decide_eq_true c27
              clear c27
              as_aux_lemma =>
                have H' := Aside0.mk H
                clear H
                have hcz28_0 := HW.zc BK113.out 0 (.int .i64 a0_0)
                have hcz28_1 := HW.zc BK113.out 1 (.bool a0_1)
                have hcz28_2 := HW.zc BK113.out 2 (.string a0_2)
                have hcz28_3 := HW.zc BK113.out 3 (.int .i64 a0_3)
                have p26 : 0 ≤ (x3_2 : Int) := of_decide_eq_true (by first | (with_reducible assumption) | assumption)
                have q26 : x3_2 < (a0_2.size : Int) := of_decide_eq_true (by first | (with_reducible assumption) | assumption)
                have hx26 := bt_at a0_2 x3_2
                replace p26 := eq_true p26
                replace q26 := eq_true q26
                go_wp2
                go_meet
                case rel => exact ⟨_, (true), (by first | rfl | (simp; done) | (simp [*]; done)), H', ⟨by have := HJ2.out; have := HK2.out; first | omega | exact Nat.le_refl _⟩, ⟨by (with_reducible repeat (first | refine blk_drewN ?_ _ | refine blk_drew ?_ | refine blk_alloc ?_ _)); exact BK113.out⟩, ⟨HW.zb⟩⟩
            rw [if_neg c27] at H
            have c27b0 : decide ((bt a0_2 x3_2) < 48) = false := decide_eq_false c27
            clear c27
            as_aux_lemma =>
              have H' := Aside0.mk H
              clear H
              have hcz30_0 := HW.zc BK113.out 0 (.int .i64 a0_0)
              have hcz30_1 := HW.zc BK113.out 1 (.bool a0_1)
              have hcz30_2 := HW.zc BK113.out 2 (.string a0_2)
              have hcz30_3 := HW.zc BK113.out 3 (.int .i64 a0_3)
              have p26 : 0 ≤ (x3_2 : Int) := of_decide_eq_true (by first | (with_reducible assumption) | assumption)
              have q26 : x3_2 < (a0_2.size : Int) := of_decide_eq_true (by first | (with_reducible assumption) | assumption)
              have hx26 := bt_at a0_2 x3_2
              replace p26 := eq_true p26
              replace q26 := eq_true q26
              have p29 : 0 ≤ (x3_2 : Int) := of_decide_eq_true (by first | (with_reducible assumption) | assumption)
              have q29 : x3_2 < (a0_2.size : Int) := of_decide_eq_true (by first | (with_reducible assumption) | assumption)
              have hx29 := bt_at a0_2 x3_2
              replace p29 := eq_true p29
              replace q29 := eq_true q29
              go_wp2
              go_meet
              case rel => exact ⟨_, (decide ((bt a0_2 x3_2) > 57)), (by first | rfl | (simp; done) | (simp [*]; done)), H', ⟨by have := HJ2.out; have := HK2.out; first | omega | exact Nat.le_refl _⟩, ⟨by (with_reducible repeat (first | refine blk_drewN ?_ _ | refine blk_drew ?_ | refine blk_alloc ?_ _)); exact BK113.out⟩, ⟨HW.zb⟩⟩
          case rest =>
            clear HC23
            try clear c1
            try clear p1
            try clear q1
            try clear hx1
            try clear qi1
            try clear c2
            try clear c2b0
            try clear c2b1
            try clear p2
            try clear q2
            try clear hx2
            try clear c6
            try clear c6b0
            try clear c6b1
            try clear c8
            try clear c8b0
            try clear c8b1
            try clear c10
            try clear c10b0
            try clear c10b1
            try clear c11
            try clear c11b0
            try clear c11b1
            try clear p12
            try clear q12
            try clear hx12
            try clear qi12
            try clear c13
            try clear c13b0
            try clear c13b1
            try clear c15
            try clear c15b0
            try clear c18
            try clear c18b0
            try clear c21
            try clear c22
            try clear c22b0
            try clear c25
            try clear c25b0
            try clear p26
            try clear q26
            try clear hx26
            try clear c27
            try clear c27b0
            try clear p29
            try clear q29
            try clear hx29
            try clear hcz14_0
            try clear hcz14_1
            try clear hcz14_2
            try clear hcz14_3
            try clear hcz16_0
            try clear hcz16_1
            try clear hcz16_2
            try clear hcz16_3
            try clear hcz17_0
            try clear hcz17_1
            try clear hcz17_2
            try clear hcz17_3
            try clear hcz19_0
            try clear hcz19_1
            try clear hcz19_2
            try clear hcz19_3
            try clear hcz20_0
            try clear hcz20_1
            try clear hcz20_2
            try clear hcz20_3
            try clear hcz24_0
            try clear hcz24_1
            try clear hcz24_2
            try clear hcz24_3
            try clear hcz28_0
            try clear hcz28_1
            try clear hcz28_2
            try clear hcz28_3
            try clear hcz30_0
            try clear hcz30_1
            try clear hcz30_2
            try clear hcz30_3
            try clear hcz5_0
            try clear hcz5_1
            try clear hcz5_2
            try clear hcz5_3
            try clear hcz7_0
            try clear hcz7_1
            try clear hcz7_2
            try clear hcz7_3
            try clear hcz9_0
            try clear hcz9_1
            try clear hcz9_2
            try clear hcz9_3
            try clear p1
            try clear p12
            try clear p2
            try clear p26
            try clear p29
            try clear q1
            try clear q12
            try clear q26
            try clear q29
            obtain ⟨kq, x65_22, rfl, HA, HJ22, BK113, HB⟩ := hcut
            cases kq with
            | zero => exact absurd HA.out (by simp [spec_DecIs.j2])
            | succ kj22 =>
              have H := HA.out
              clear HA
              simp only [spec_DecIs.j2] at H
              by_cases c31 : x65_22 = true
              · subst c31
                have H1 : (some false) = some r := by rw [if_pos rfl] at H; exact H
                clear H
                have H := H1
                clear H1
                as_aux_lemma =>
                  obtain rfl := Option.some.inj H
                  go_wp2
                  go_ret
                  exact ⟨by first | rfl | (simp [errW_none, errW_some] <;> rfl) | (simp [*, errW_none, errW_some] <;> rfl), HW.zb⟩
              replace c31 := Bool.eq_false_iff.mpr c31
              subst c31
              have H1 : (spec_DecIs.l0 kj22 (wrap64 (x3_2 + 1)) a0_0 a0_1 a0_2 a0_3) = some r := by rw [if_neg (show ¬ (false = true) by decide)] at H; exact H
              clear H
              have H := H1
              clear H1
              as_aux_lemma =>
                have H' := Aside0.mk H
                clear H
                go_wp2
                go_roundg kj22
                case measure => have := HJ2.out; have := HK2.out; have := HJ22.out; omega
                case rel => exact ⟨(wrap64 (x3_2 + 1)), (by first | rfl | (simp; done) | (simp [*]; done)), H', ⟨by have := HJ2.out; have := HK2.out; have := HJ22.out; omega⟩, ⟨by (with_reducible repeat (first | refine blk_drewN ?_ _ | refine blk_drew ?_ | refine blk_alloc ?_ _)); exact BK113.out⟩, ⟨HW.zb⟩⟩

/-! ### spec_decTimes: function 14 -/
/-- A round: a limb's new value, and what is carried. -/
def spec_decTimes.n (x c : Int) : Int := IntKind.u64.wrap (IntKind.u64.wrap (x * 10) + c)
def spec_decTimes.lo (n : Int) : Int := bits BinOp.and IntKind.u64 n 4294967295
/-- 10 times a number of 128 bits, and a digit. -/
def spec_decTimes.f (a0 a1 a2 : Int) : Option (Int × Int × Bool) :=
  let n0 := spec_decTimes.n (spec_decTimes.lo a1) a2
  let n1 := spec_decTimes.n (a1 / 4294967296) (n0 / 4294967296)
  let n2 := spec_decTimes.n (spec_decTimes.lo a0) (n1 / 4294967296)
  let n3 := spec_decTimes.n (a0 / 4294967296) (n2 / 4294967296)
  some (bits BinOp.or IntKind.u64 (spec_decTimes.lo n2) (IntKind.u64.wrap (spec_decTimes.lo n3 * 4294967296)), bits BinOp.or IntKind.u64 (spec_decTimes.lo n0) (IntKind.u64.wrap (spec_decTimes.lo n1 * 4294967296)), n3 / 4294967296 == 0)
set_option maxHeartbeats 4000000 in
set_option maxRecDepth 100000 in
theorem spec_decTimes.calls (a0 a1 a2 : Int) (r0 r1 : Int) (r2 : Bool) (w : World) (h : spec_decTimes.f a0 a1 a2 = some (r0, r1, r2)) :
    Calls Tryd.prog 14 #[.int .u64 a0, .int .u64 a1, .int .u64 a2] w fun e w' => e = .returned (.tuple #[.int .u64 r0, .int .u64 r1, .bool r2]) ∧ Below w.heap.size w w' := by
  go_enter Tryd.func14, Tryd.ntmps14
  go_wp2
  refine wp_loop_rounds 5 ?_
  iterate 5
    rw [rounds_succ]
    go_wp2
  go_region
  go_wp2
  cases h
  refine bodyPost_ret (v := .tuple #[.int .u64 _, .int .u64 _, .bool _]) (by simp [results, Tryd.results14, go_sem] <;> exact ⟨rfl, rfl, rfl⟩) rfl ⟨rfl, ((Below.refl _ w).alloc (Nat.le_refl _) _).drew⟩

end Go.Proofs.YtpbfigeaoefcmaaDoor.PDt
