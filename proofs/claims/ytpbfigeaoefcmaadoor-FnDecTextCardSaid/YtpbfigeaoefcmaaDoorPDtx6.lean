/- Printed by a program of this session (a turned copy of the printer of the kit): contracts of functions of the translation, each with the Lean function that it computes. Conditions: as each theorem states them. -/
import Derived.Test.YtpbfigeaoefcmaaDoorPDtx0
import Derived.Test.YtpbfigeaoefcmaaDoorPDtx1
import Derived.Test.YtpbfigeaoefcmaaDoorPDtx3
import Derived.Test.YtpbfigeaoefcmaaDoorPDtx4
import Derived.Test.YtpbfigeaoefcmaaDoorPDtx5
namespace Go.Proofs.YtpbfigeaoefcmaaDoor.PDt
open Go.RowKit Go.Proofs.YtpbfigeaoefcmaaDoorW.PrintWords Go.Proofs.YtpbfigeaoefcmaaDoorW.PrintLast Go.Proofs.YtpbfigeaoefcmaaDoorW.PrintMore
attribute [local go_sem] max2_int min2_int max_two min_two max_three min_three max_four min_four   -- for this text's walks alone
set_option linter.unusedVariables false
set_option linter.unusedSimpArgs false

/-! ### spec_DecText: function 6 -/
mutual
def spec_DecText.j0 : Nat → ByteArray → Int → Bool → ByteArray → Int → Option (ByteArray)
  | 0, _, _, _, _, _ => none
  | k + 1, x3, x159000, x159001, x159002, x159003 => if x159000 = 2 then (some (⟨#[78, 97, 78]⟩ : ByteArray)) else (if x159000 = 1 then (if x3.size + 8 ≤ 9223372036854775807 then (some (x3 ++ (⟨#[73, 110, 102, 105, 110, 105, 116, 121]⟩ : ByteArray))) else (none)) else (if x159003 > 0 then (spec_DecText.j1 k x3 x159002 (wrap64 ((wrap64 (x159003 + (x159002.size : Int))) - 1)) true x159000 x159001 x159002 x159003) else (spec_DecText.j1 k x3 x159002 (wrap64 ((wrap64 (x159003 + (x159002.size : Int))) - 1)) (decide ((wrap64 ((wrap64 (x159003 + (x159002.size : Int))) - 1)) < (-6))) x159000 x159001 x159002 x159003)))
def spec_DecText.j1 : Nat → ByteArray → ByteArray → Int → Bool → Int → Bool → ByteArray → Int → Option (ByteArray)
  | 0, _, _, _, _, _, _, _, _ => none
  | k + 1, x3, x4, x5, x32, x159000, x159001, x159002, x159003 => if x32 = true then (if 0 ≤ 1 then (if 1 ≤ (x4.size : Int) then (if (x4.size : Int) > 1 then (if 1 + (x4.extract 1 x4.size).size ≤ 9223372036854775807 then (if (x4.extract 0 1).size + ((⟨#[46]⟩ : ByteArray) ++ (x4.extract 1 x4.size)).size ≤ 9223372036854775807 then (spec_DecText.j2 k x3 x5 ((x4.extract 0 1) ++ ((⟨#[46]⟩ : ByteArray) ++ (x4.extract 1 x4.size)))) else (none)) else (none)) else (spec_DecText.j2 k x3 x5 (x4.extract 0 1))) else (none)) else (none)) else (if x159003 = 0 then (if x3.size + x4.size ≤ 9223372036854775807 then (some (x3 ++ x4)) else (none)) else (spec_DecText.l0 k x3 x4 x159000 x159001 x159002 x159003))
def spec_DecText.j2 : Nat → ByteArray → Int → ByteArray → Option (ByteArray)
  | 0, _, _, _ => none
  | k + 1, x3, x5, x6 => if x5 ≥ 0 then (if x3.size + x6.size ≤ 9223372036854775807 then (if (x3 ++ x6).size + 2 ≤ 9223372036854775807 then ((spec_decNumber.f k x5).bind fun t159 => (if ((x3 ++ x6) ++ (⟨#[69, 43]⟩ : ByteArray)).size + t159.size ≤ 9223372036854775807 then (some (((x3 ++ x6) ++ (⟨#[69, 43]⟩ : ByteArray)) ++ t159)) else (none))) else (none)) else (none)) else (if x3.size + x6.size ≤ 9223372036854775807 then (if (x3 ++ x6).size + 1 ≤ 9223372036854775807 then ((spec_decNumber.f k x5).bind fun t160 => (if ((x3 ++ x6) ++ (⟨#[69]⟩ : ByteArray)).size + t160.size ≤ 9223372036854775807 then (some (((x3 ++ x6) ++ (⟨#[69]⟩ : ByteArray)) ++ t160)) else (none))) else (none)) else (none))
def spec_DecText.l0 : Nat → ByteArray → ByteArray → Int → Bool → ByteArray → Int → Option (ByteArray)
  | 0, _, _, _, _, _, _ => none
  | k + 1, x3, x4, x159000, x159001, x159002, x159003 => if (x4.size : Int) ≤ (wrap64 (-x159003)) then (if 1 + x4.size ≤ 9223372036854775807 then (spec_DecText.l0 k x3 ((⟨#[48]⟩ : ByteArray) ++ x4) x159000 x159001 x159002 x159003) else (none)) else (if 0 ≤ (wrap64 ((x4.size : Int) + x159003)) then (if (wrap64 ((x4.size : Int) + x159003)) ≤ (x4.size : Int) then (if x3.size + (x4.extract 0 ((wrap64 ((x4.size : Int) + x159003)) : Int).toNat).size ≤ 9223372036854775807 then (if (x3 ++ (x4.extract 0 ((wrap64 ((x4.size : Int) + x159003)) : Int).toNat)).size + 1 ≤ 9223372036854775807 then (if ((x3 ++ (x4.extract 0 ((wrap64 ((x4.size : Int) + x159003)) : Int).toNat)) ++ (⟨#[46]⟩ : ByteArray)).size + (x4.extract ((wrap64 ((x4.size : Int) + x159003)) : Int).toNat x4.size).size ≤ 9223372036854775807 then (some (((x3 ++ (x4.extract 0 ((wrap64 ((x4.size : Int) + x159003)) : Int).toNat)) ++ (⟨#[46]⟩ : ByteArray)) ++ (x4.extract ((wrap64 ((x4.size : Int) + x159003)) : Int).toNat x4.size))) else (none)) else (none)) else (none)) else (none)) else (none))
end
def spec_DecText.f (k : Nat) (a0_0 : Int) (a0_1 : Bool) (a0_2 : ByteArray) (a0_3 : Int) : Option (ByteArray) := if a0_1 = true then (spec_DecText.j0 k (⟨#[45]⟩ : ByteArray) a0_0 a0_1 a0_2 a0_3) else (spec_DecText.j0 k (⟨#[]⟩ : ByteArray) a0_0 a0_1 a0_2 a0_3)
theorem spec_DecText.mono_l : ∀ k, (∀ y0 y1 y2 y3 y4, LeO (spec_DecText.j0 k y0 y1 y2 y3 y4) (spec_DecText.j0 (k + 1) y0 y1 y2 y3 y4)) ∧ (∀ y0 y1 y2 y3 y4 y5 y6 y7, LeO (spec_DecText.j1 k y0 y1 y2 y3 y4 y5 y6 y7) (spec_DecText.j1 (k + 1) y0 y1 y2 y3 y4 y5 y6 y7)) ∧ (∀ y0 y1 y2, LeO (spec_DecText.j2 k y0 y1 y2) (spec_DecText.j2 (k + 1) y0 y1 y2)) ∧ (∀ y0 y1 y2 y3 y4 y5, LeO (spec_DecText.l0 k y0 y1 y2 y3 y4 y5) (spec_DecText.l0 (k + 1) y0 y1 y2 y3 y4 y5))
  | 0 => ⟨fun _ _ _ _ _ r h => by simp [spec_DecText.j0] at h, fun _ _ _ _ _ _ _ _ r h => by simp [spec_DecText.j1] at h, fun _ _ _ r h => by simp [spec_DecText.j2] at h, fun _ _ _ _ _ _ r h => by simp [spec_DecText.l0] at h⟩
  | k + 1 => by
    obtain ⟨ih0, ih1, ih2, ih3⟩ := spec_DecText.mono_l k
    refine ⟨?_, ?_, ?_, ?_⟩
    · intro y0 y1 y2 y3 y4
      unfold spec_DecText.j0
      repeat' first
      | (with_reducible exact ih0 _ _ _ _ _)
      | (with_reducible exact ih1 _ _ _ _ _ _ _ _)
      | (with_reducible exact ih2 _ _ _)
      | (with_reducible exact ih3 _ _ _ _ _ _)
      | (with_reducible exact spec_decNumber.mono _ _)
      | (with_reducible exact LeO.refl _)
      | (with_reducible exact LeO.none _)
      | (with_reducible refine LeO.ite ?_ ?_)
      | (with_reducible refine LeO.bind ?_ (fun _ => ?_))
      | exact ih0 _ _ _ _ _
      | exact ih1 _ _ _ _ _ _ _ _
      | exact ih2 _ _ _
      | exact ih3 _ _ _ _ _ _
      | exact spec_decNumber.mono _ _
      | exact LeO.none _
      | refine LeO.ite ?_ ?_
      | refine LeO.bind ?_ (fun _ => ?_)
    · intro y0 y1 y2 y3 y4 y5 y6 y7
      unfold spec_DecText.j1
      repeat' first
      | (with_reducible exact ih0 _ _ _ _ _)
      | (with_reducible exact ih1 _ _ _ _ _ _ _ _)
      | (with_reducible exact ih2 _ _ _)
      | (with_reducible exact ih3 _ _ _ _ _ _)
      | (with_reducible exact spec_decNumber.mono _ _)
      | (with_reducible exact LeO.refl _)
      | (with_reducible exact LeO.none _)
      | (with_reducible refine LeO.ite ?_ ?_)
      | (with_reducible refine LeO.bind ?_ (fun _ => ?_))
      | exact ih0 _ _ _ _ _
      | exact ih1 _ _ _ _ _ _ _ _
      | exact ih2 _ _ _
      | exact ih3 _ _ _ _ _ _
      | exact spec_decNumber.mono _ _
      | exact LeO.none _
      | refine LeO.ite ?_ ?_
      | refine LeO.bind ?_ (fun _ => ?_)
    · intro y0 y1 y2
      unfold spec_DecText.j2
      repeat' first
      | (with_reducible exact ih0 _ _ _ _ _)
      | (with_reducible exact ih1 _ _ _ _ _ _ _ _)
      | (with_reducible exact ih2 _ _ _)
      | (with_reducible exact ih3 _ _ _ _ _ _)
      | (with_reducible exact spec_decNumber.mono _ _)
      | (with_reducible exact LeO.refl _)
      | (with_reducible exact LeO.none _)
      | (with_reducible refine LeO.ite ?_ ?_)
      | (with_reducible refine LeO.bind ?_ (fun _ => ?_))
      | exact ih0 _ _ _ _ _
      | exact ih1 _ _ _ _ _ _ _ _
      | exact ih2 _ _ _
      | exact ih3 _ _ _ _ _ _
      | exact spec_decNumber.mono _ _
      | exact LeO.none _
      | refine LeO.ite ?_ ?_
      | refine LeO.bind ?_ (fun _ => ?_)
    · intro y0 y1 y2 y3 y4 y5
      unfold spec_DecText.l0
      repeat' first
      | (with_reducible exact ih0 _ _ _ _ _)
      | (with_reducible exact ih1 _ _ _ _ _ _ _ _)
      | (with_reducible exact ih2 _ _ _)
      | (with_reducible exact ih3 _ _ _ _ _ _)
      | (with_reducible exact spec_decNumber.mono _ _)
      | (with_reducible exact LeO.refl _)
      | (with_reducible exact LeO.none _)
      | (with_reducible refine LeO.ite ?_ ?_)
      | (with_reducible refine LeO.bind ?_ (fun _ => ?_))
      | exact ih0 _ _ _ _ _
      | exact ih1 _ _ _ _ _ _ _ _
      | exact ih2 _ _ _
      | exact ih3 _ _ _ _ _ _
      | exact spec_decNumber.mono _ _
      | exact LeO.none _
      | refine LeO.ite ?_ ?_
      | refine LeO.bind ?_ (fun _ => ?_)
theorem spec_DecText.mono : ∀ a0 a1 a2 a3 k, LeO (spec_DecText.f k a0 a1 a2 a3) (spec_DecText.f (k + 1) a0 a1 a2 a3) := by
  intro a0 a1 a2 a3 k
  obtain ⟨ih0, ih1, ih2, ih3⟩ := spec_DecText.mono_l k
  unfold spec_DecText.f
  repeat' first
      | (with_reducible exact ih0 _ _ _ _ _)
      | (with_reducible exact ih1 _ _ _ _ _ _ _ _)
      | (with_reducible exact ih2 _ _ _)
      | (with_reducible exact ih3 _ _ _ _ _ _)
      | (with_reducible exact spec_decNumber.mono _ _)
      | (with_reducible exact LeO.refl _)
      | (with_reducible exact LeO.none _)
      | (with_reducible refine LeO.ite ?_ ?_)
      | (with_reducible refine LeO.bind ?_ (fun _ => ?_))
      | exact ih0 _ _ _ _ _
      | exact ih1 _ _ _ _ _ _ _ _
      | exact ih2 _ _ _
      | exact ih3 _ _ _ _ _ _
      | exact spec_decNumber.mono _ _
      | exact LeO.none _
      | refine LeO.ite ?_ ?_
      | refine LeO.bind ?_ (fun _ => ?_)
set_option maxHeartbeats 8000000 in
set_option maxRecDepth 100000 in
theorem spec_DecText.calls (k : Nat) (a0_0 : Int) (a0_1 : Bool) (a0_2 : ByteArray) (a0_3 : Int) (r : ByteArray) (w : World) (h : spec_DecText.f k a0_0 a0_1 a0_2 a0_3 = some r) :
    Calls Tryd.prog 6 #[.agg #[.int .i64 a0_0, .bool a0_1, .string a0_2, .int .i64 a0_3]] w fun e w' => e = .returned (.string r) ∧ Below w.heap.size w w' := by
  have hu27 := Tryd.underlying27
  have HB := Aside0.mk (Below.refl w.heap.size w)
  have H : (if a0_1 = true then (spec_DecText.j0 k (⟨#[45]⟩ : ByteArray) a0_0 a0_1 a0_2 a0_3) else (spec_DecText.j0 k (⟨#[]⟩ : ByteArray) a0_0 a0_1 a0_2 a0_3)) = some r := h
  clear h
  have HC2 := Aside0.mk H
  clear H
  go_enter Tryd.func6, Tryd.ntmps6
  go_upto_if 9 with (first | ((with_reducible refine gate_dst (N := 1) rfl ?_); refine box_event ?hg (N := 1) ?hd (cs := #[.int .i64 a0_0, .bool a0_1, .string a0_2, .int .i64 a0_3]) (t := 27) ?hr ?_; (case hd => rfl); (case hg => rfl); (case hr => first | (go_simp; done) | (go_simp; rfl)); intro gb158 hg w3 hbox hb; have n0_ := Aside0.mk (below_step HW.zb hb); have n1_ := Aside0.mk (hbox); have n3_ := Aside0.mk ((by rw [hg]; exact (below_size HW.zb) : w.heap.size ≤ gb158)); clear HB; have HB := n0_; have BK158 := n1_; have GE158 := n3_; clear n0_ n1_ n3_; clear hb hbox hg; have hcz4_0 := HW.zc BK158.out 0 (.int .i64 a0_0); have hcz4_1 := HW.zc BK158.out 1 (.bool a0_1); have hcz4_2 := HW.zc BK158.out 2 (.string a0_2); have hcz4_3 := HW.zc BK158.out 3 (.int .i64 a0_3)))
  repeat (go_quiet (first | ((with_reducible refine gate_dst (N := 1) rfl ?_); refine box_event ?hg (N := 1) ?hd (cs := #[.int .i64 a0_0, .bool a0_1, .string a0_2, .int .i64 a0_3]) (t := 27) ?hr ?_; (case hd => rfl); (case hg => rfl); (case hr => first | (go_simp; done) | (go_simp; rfl)); intro gb158 hg w3 hbox hb; have n0_ := Aside0.mk (below_step HW.zb hb); have n1_ := Aside0.mk (hbox); have n3_ := Aside0.mk ((by rw [hg]; exact (below_size HW.zb) : w.heap.size ≤ gb158)); clear HB; have HB := n0_; have BK158 := n1_; have GE158 := n3_; clear n0_ n1_ n3_; clear hb hbox hg; have hcz4_0 := HW.zc BK158.out 0 (.int .i64 a0_0); have hcz4_1 := HW.zc BK158.out 1 (.bool a0_1); have hcz4_2 := HW.zc BK158.out 2 (.string a0_2); have hcz4_3 := HW.zc BK158.out 3 (.int .i64 a0_3))); go_upto_if 9 with (first | ((with_reducible refine gate_dst (N := 1) rfl ?_); refine box_event ?hg (N := 1) ?hd (cs := #[.int .i64 a0_0, .bool a0_1, .string a0_2, .int .i64 a0_3]) (t := 27) ?hr ?_; (case hd => rfl); (case hg => rfl); (case hr => first | (go_simp; done) | (go_simp; rfl)); intro gb158 hg w3 hbox hb; have n0_ := Aside0.mk (below_step HW.zb hb); have n1_ := Aside0.mk (hbox); have n3_ := Aside0.mk ((by rw [hg]; exact (below_size HW.zb) : w.heap.size ≤ gb158)); clear HB; have HB := n0_; have BK158 := n1_; have GE158 := n3_; clear n0_ n1_ n3_; clear hb hbox hg; have hcz4_0 := HW.zc BK158.out 0 (.int .i64 a0_0); have hcz4_1 := HW.zc BK158.out 1 (.bool a0_1); have hcz4_2 := HW.zc BK158.out 2 (.string a0_2); have hcz4_3 := HW.zc BK158.out 3 (.int .i64 a0_3))))
  (try simp only [Act.put, List.setIfInBounds_toArray, List.set_cons_zero, List.set_cons_succ])
  go_cut [3] (fun v3 wc => ∃ (kq : Nat) (x3_1 : ByteArray), v3 = .string x3_1 ∧ Aside0 (spec_DecText.j0 kq x3_1 a0_0 a0_1 a0_2 a0_3 = some r) ∧ Aside0 (kq ≤ k) ∧ Aside0 (wc.heap[gb158]? = some (.cells #[.int .i64 a0_0, .bool a0_1, .string a0_2, .int .i64 a0_3] 27 (0, 0))) ∧ Aside0 (Below w.heap.size w wc))
  case first =>
    have H := HC2.out
    clear HC2
    by_cases c5 : a0_1 = true
    · subst c5
      have H1 : (spec_DecText.j0 k (⟨#[45]⟩ : ByteArray) a0_0 true a0_2 a0_3) = some r := by rw [if_pos rfl] at H; exact H
      clear H
      have H := H1
      clear H1
      as_aux_lemma =>
        have H' := Aside0.mk H
        clear H
        go_wp2
        repeat (go_quiet (fail); try go_wp2)
        go_meet
        case rel => exact ⟨_, ((⟨#[45]⟩ : ByteArray)), (by first | rfl | (simp; done) | (simp [*]; done)), H', ⟨by first | omega | exact Nat.le_refl _⟩, ⟨by (with_reducible repeat (first | refine blk_drewN ?_ _ | refine blk_drew ?_ | refine blk_alloc ?_ _)); exact BK158.out⟩, ⟨HW.zb⟩⟩
    replace c5 := Bool.eq_false_iff.mpr c5
    subst c5
    have H1 : (spec_DecText.j0 k (⟨#[]⟩ : ByteArray) a0_0 false a0_2 a0_3) = some r := by rw [if_neg (show ¬ (false = true) by decide)] at H; exact H
    clear H
    have H := H1
    clear H1
    as_aux_lemma =>
      have H' := Aside0.mk H
      clear H
      go_wp2
      repeat (go_quiet (fail); try go_wp2)
      go_meet
      case rel => exact ⟨_, ((⟨#[]⟩ : ByteArray)), (by first | rfl | (simp; done) | (simp [*]; done)), H', ⟨by first | omega | exact Nat.le_refl _⟩, ⟨by (with_reducible repeat (first | refine blk_drewN ?_ _ | refine blk_drew ?_ | refine blk_alloc ?_ _)); exact BK158.out⟩, ⟨HW.zb⟩⟩
  case rest =>
    clear HC2
    try clear p2
    try clear c5
    try clear hcz4_0
    try clear hcz4_1
    try clear hcz4_2
    try clear hcz4_3
    obtain ⟨kq, x3_1, rfl, HA, HJ1, BK158, HB⟩ := hcut
    cases kq with
    | zero => exact absurd HA.out (by simp [spec_DecText.j0])
    | succ kj1 =>
      have H := HA.out
      clear HA
      simp only [spec_DecText.j0] at H
      by_cases c6 : a0_0 = 2
      · rw [if_pos c6] at H
        have c6b0 : (a0_0 == 2) = true := beq_iff_eq.mpr c6
        have c6b1 : (a0_0 != 2) = false := bne_eq_false_iff_eq.mpr c6
        clear c6
        as_aux_lemma =>
          obtain rfl := Option.some.inj H
          have hcz7_0 := HW.zc BK158.out 0 (.int .i64 a0_0)
          have hcz7_1 := HW.zc BK158.out 1 (.bool a0_1)
          have hcz7_2 := HW.zc BK158.out 2 (.string a0_2)
          have hcz7_3 := HW.zc BK158.out 3 (.int .i64 a0_3)
          go_wp2
          repeat (go_quiet (fail); try go_wp2)
          go_ret
          exact ⟨by first | rfl | (simp [errW_none, errW_some] <;> rfl) | (simp [*, errW_none, errW_some] <;> rfl), HW.zb⟩
      rw [if_neg c6] at H
      have c6b0 : (a0_0 == 2) = false := beq_eq_false_iff_ne.mpr c6
      have c6b1 : (a0_0 != 2) = true := bne_iff_ne.mpr c6
      by_cases c8 : a0_0 = 1
      · rw [if_pos c8] at H
        have c8b0 : (a0_0 == 1) = true := beq_iff_eq.mpr c8
        have c8b1 : (a0_0 != 1) = false := bne_eq_false_iff_eq.mpr c8
        clear c8
        by_cases c9 : x3_1.size + 8 ≤ 9223372036854775807
        rotate_left
        · rw [if_neg c9] at H
          exact absurd H (by simp)
        rw [if_pos c9] at H
        have c9b0 := eq_true c9
        have c9b1 : decide (x3_1.size + 8 ≤ 9223372036854775807) = true := decide_eq_true c9
        try have c9b2 : (9223372036854775807 < x3_1.size + 8) = False := eq_false (Nat.not_lt.2 c9)
        (try have c9b3 := c9; simp at c9b3; have c9b4 := eq_false (Nat.not_lt.2 c9b3))
        as_aux_lemma =>
          obtain rfl := Option.some.inj H
          have hcz10_0 := HW.zc BK158.out 0 (.int .i64 a0_0)
          have hcz10_1 := HW.zc BK158.out 1 (.bool a0_1)
          have hcz10_2 := HW.zc BK158.out 2 (.string a0_2)
          have hcz10_3 := HW.zc BK158.out 3 (.int .i64 a0_3)
          go_wp2
          repeat (go_quiet (fail); try go_wp2)
          go_ret
          exact ⟨by first | rfl | (simp [errW_none, errW_some] <;> rfl) | (simp [*, errW_none, errW_some] <;> rfl), HW.zb⟩
      rw [if_neg c8] at H
      have c8b0 : (a0_0 == 1) = false := beq_eq_false_iff_ne.mpr c8
      have c8b1 : (a0_0 != 1) = true := bne_iff_ne.mpr c8
      have HC11 := Aside0.mk H
      clear H
      have hcz12_0 := HW.zc BK158.out 0 (.int .i64 a0_0)
      have hcz12_1 := HW.zc BK158.out 1 (.bool a0_1)
      have hcz12_2 := HW.zc BK158.out 2 (.string a0_2)
      have hcz12_3 := HW.zc BK158.out 3 (.int .i64 a0_3)
      go_upto_region 11 with (fail)
      repeat (go_quiet (fail); go_upto_region 11 with (fail))
      go_cut [32] (fun v32 wc => ∃ (kq : Nat) (x32_10 : Bool), v32 = .bool x32_10 ∧ Aside0 (spec_DecText.j1 kq x3_1 a0_2 (wrap64 ((wrap64 (a0_3 + (a0_2.size : Int))) - 1)) x32_10 a0_0 a0_1 a0_2 a0_3 = some r) ∧ Aside0 (kq ≤ kj1) ∧ Aside0 (wc.heap[gb158]? = some (.cells #[.int .i64 a0_0, .bool a0_1, .string a0_2, .int .i64 a0_3] 27 (0, 0))) ∧ Aside0 (Below w.heap.size w wc))
      case first =>
        have H := HC11.out
        clear HC11
        by_cases c13 : a0_3 > 0
        · rw [if_pos c13] at H
          have c13b0 : decide (0 < a0_3) = true := decide_eq_true c13
          clear c13
          (first | rw [c13b0] | (simp only [i64_w, i32_w]; rw [c13b0]) | skip)
          as_aux_lemma =>
            have H' := Aside0.mk H
            clear H
            have hcz14_0 := HW.zc BK158.out 0 (.int .i64 a0_0)
            have hcz14_1 := HW.zc BK158.out 1 (.bool a0_1)
            have hcz14_2 := HW.zc BK158.out 2 (.string a0_2)
            have hcz14_3 := HW.zc BK158.out 3 (.int .i64 a0_3)
            go_wp2
            repeat (go_quiet (fail); try go_wp2)
            go_meet
            case rel => exact ⟨_, (true), (by first | rfl | (simp; done) | (simp [*]; done)), H', ⟨by have := HJ1.out; first | omega | exact Nat.le_refl _⟩, ⟨by (with_reducible repeat (first | refine blk_drewN ?_ _ | refine blk_drew ?_ | refine blk_alloc ?_ _)); exact BK158.out⟩, ⟨HW.zb⟩⟩
        rw [if_neg c13] at H
        have c13b0 : decide (0 < a0_3) = false := decide_eq_false c13
        clear c13
        (first | rw [c13b0] | (simp only [i64_w, i32_w]; rw [c13b0]) | skip)
        as_aux_lemma =>
          have H' := Aside0.mk H
          clear H
          have hcz15_0 := HW.zc BK158.out 0 (.int .i64 a0_0)
          have hcz15_1 := HW.zc BK158.out 1 (.bool a0_1)
          have hcz15_2 := HW.zc BK158.out 2 (.string a0_2)
          have hcz15_3 := HW.zc BK158.out 3 (.int .i64 a0_3)
          go_wp2
          repeat (go_quiet (fail); try go_wp2)
          go_meet
          case rel => exact ⟨_, (decide ((wrap64 ((wrap64 (a0_3 + (a0_2.size : Int))) - 1)) < (-6))), (by first | rfl | (simp; done) | (simp [*]; done)), H', ⟨by have := HJ1.out; first | omega | exact Nat.le_refl _⟩, ⟨by (with_reducible repeat (first | refine blk_drewN ?_ _ | refine blk_drew ?_ | refine blk_alloc ?_ _)); exact BK158.out⟩, ⟨HW.zb⟩⟩
      case rest =>
        clear HC11
        try clear c1
        try clear p2
        try clear c5
        try clear c6
        try clear c6b0
        try clear c6b1
        try clear p6
        try clear c8
        try clear c8b0
        try clear c8b1
        try clear c9
        try clear c9b0
        try clear c9b1
        try clear c9b2
        try clear c13
        try clear c13b0
        try clear hcz10_0
        try clear hcz10_1
        try clear hcz10_2
        try clear hcz10_3
        try clear hcz12_0
        try clear hcz12_1
        try clear hcz12_2
        try clear hcz12_3
        try clear hcz14_0
        try clear hcz14_1
        try clear hcz14_2
        try clear hcz14_3
        try clear hcz15_0
        try clear hcz15_1
        try clear hcz15_2
        try clear hcz15_3
        try clear hcz4_0
        try clear hcz4_1
        try clear hcz4_2
        try clear hcz4_3
        try clear hcz7_0
        try clear hcz7_1
        try clear hcz7_2
        try clear hcz7_3
        try clear p2
        obtain ⟨kq, x32_10, rfl, HA, HJ10, BK158, HB⟩ := hcut
        cases kq with
        | zero => exact absurd HA.out (by simp [spec_DecText.j1])
        | succ kj10 =>
          have H := HA.out
          clear HA
          simp only [spec_DecText.j1] at H
          by_cases c16 : x32_10 = true
          · subst c16
            have H1 : (if 0 ≤ 1 then (if 1 ≤ (a0_2.size : Int) then (if (a0_2.size : Int) > 1 then (if 1 + (a0_2.extract 1 a0_2.size).size ≤ 9223372036854775807 then (if (a0_2.extract 0 1).size + ((⟨#[46]⟩ : ByteArray) ++ (a0_2.extract 1 a0_2.size)).size ≤ 9223372036854775807 then (spec_DecText.j2 kj10 x3_1 (wrap64 ((wrap64 (a0_3 + (a0_2.size : Int))) - 1)) ((a0_2.extract 0 1) ++ ((⟨#[46]⟩ : ByteArray) ++ (a0_2.extract 1 a0_2.size)))) else (none)) else (none)) else (spec_DecText.j2 kj10 x3_1 (wrap64 ((wrap64 (a0_3 + (a0_2.size : Int))) - 1)) (a0_2.extract 0 1))) else (none)) else (none)) = some r := by rw [if_pos rfl] at H; exact H
            clear H
            have H := H1
            clear H1
            by_cases c17 : 0 ≤ 1
            rotate_left
            · rw [if_neg c17] at H
              exact absurd H (by simp)
            rw [if_pos c17] at H
            have c17b0 := eq_true c17
            have c17b1 : decide (0 ≤ 1) = true := decide_eq_true c17
            clear c17
            by_cases c18 : 1 ≤ (a0_2.size : Int)
            rotate_left
            · rw [if_neg c18] at H
              exact absurd H (by simp)
            rw [if_pos c18] at H
            have c18b0 := eq_true c18
            have c18b1 : decide (1 ≤ (a0_2.size : Int)) = true := decide_eq_true c18
            clear c18
            have HC19 := Aside0.mk H
            clear H
            go_upto_if 37 with (fail)
            repeat (go_quiet (fail); go_upto_if 37 with (fail))
            go_cut [6] (fun v6 wc => ∃ (kq : Nat) (x6_18 : ByteArray), v6 = .string x6_18 ∧ Aside0 (spec_DecText.j2 kq x3_1 (wrap64 ((wrap64 (a0_3 + (a0_2.size : Int))) - 1)) x6_18 = some r) ∧ Aside0 (kq ≤ kj10) ∧ Aside0 (Below w.heap.size w wc))
            case first =>
              have H := HC19.out
              clear HC19
              by_cases c20 : (a0_2.size : Int) > 1
              rotate_left
              · rw [if_neg c20] at H
                have c20b0 : decide (1 < (a0_2.size : Int)) = false := decide_eq_false c20
                have c20b1 : decide (1 < a0_2.size) = false := decide_eq_false (by omega)
                clear c20
                (first | rw [c20b0] | (simp only [i64_w, i32_w]; rw [c20b0]) | skip)
                as_aux_lemma =>
                  have H' := Aside0.mk H
                  clear H
                  go_wp2
                  repeat (go_quiet (fail); try go_wp2)
                  go_meet
                  case rel => exact ⟨_, (a0_2.extract 0 1), (by first | rfl | (simp; done) | (simp [*]; done)), H', ⟨by have := HJ1.out; have := HJ10.out; first | omega | exact Nat.le_refl _⟩, ⟨HW.zb⟩⟩
              rw [if_pos c20] at H
              have c20b0 : decide (1 < (a0_2.size : Int)) = true := decide_eq_true c20
              have c20b1 : decide (1 < a0_2.size) = true := decide_eq_true (by omega)
              clear c20
              (first | rw [c20b0] | (simp only [i64_w, i32_w]; rw [c20b0]) | skip)
              have c21b0 := eq_true (of_decide_eq_true (by first | (with_reducible assumption) | assumption) : 1 ≤ (a0_2.size : Int))
              by_cases c22 : 1 + (a0_2.extract 1 a0_2.size).size ≤ 9223372036854775807
              rotate_left
              · rw [if_neg c22] at H
                exact absurd H (by simp)
              rw [if_pos c22] at H
              have c22b0 := eq_true c22
              have c22b1 : decide (1 + (a0_2.extract 1 a0_2.size).size ≤ 9223372036854775807) = true := decide_eq_true c22
              try have c22b2 : (9223372036854775807 < 1 + (a0_2.extract 1 a0_2.size).size) = False := eq_false (Nat.not_lt.2 c22)
              (try have c22b3 := c22; simp at c22b3; have c22b4 := eq_false (Nat.not_lt.2 c22b3))
              by_cases c23 : (a0_2.extract 0 1).size + ((⟨#[46]⟩ : ByteArray) ++ (a0_2.extract 1 a0_2.size)).size ≤ 9223372036854775807
              rotate_left
              · rw [if_neg c23] at H
                exact absurd H (by simp)
              rw [if_pos c23] at H
              have c23b0 := eq_true c23
              have c23b1 : decide ((a0_2.extract 0 1).size + ((⟨#[46]⟩ : ByteArray) ++ (a0_2.extract 1 a0_2.size)).size ≤ 9223372036854775807) = true := decide_eq_true c23
              try have c23b2 : (9223372036854775807 < (a0_2.extract 0 1).size + ((⟨#[46]⟩ : ByteArray) ++ (a0_2.extract 1 a0_2.size)).size) = False := eq_false (Nat.not_lt.2 c23)
              (try have c23b3 := c23; simp at c23b3; have c23b4 := eq_false (Nat.not_lt.2 c23b3))
              as_aux_lemma =>
                have H' := Aside0.mk H
                clear H
                go_wp2
                repeat (go_quiet (fail); try go_wp2)
                go_meet
                case rel => exact ⟨_, ((a0_2.extract 0 1) ++ ((⟨#[46]⟩ : ByteArray) ++ (a0_2.extract 1 a0_2.size))), (by first | rfl | (simp; done) | (simp [*]; done)), H', ⟨by have := HJ1.out; have := HJ10.out; first | omega | exact Nat.le_refl _⟩, ⟨HW.zb⟩⟩
            case rest =>
              clear HC19
              try clear c1
              try clear c2
              try clear p2
              try clear c5
              try clear c6
              try clear c6b0
              try clear c6b1
              try clear p6
              try clear c8
              try clear c8b0
              try clear c8b1
              try clear c9
              try clear c9b0
              try clear c9b1
              try clear c9b2
              try clear c13
              try clear c13b0
              try clear c16
              try clear c17
              try clear c17b0
              try clear c17b1
              try clear c18
              try clear c18b0
              try clear c18b1
              try clear c20
              try clear c20b0
              try clear c20b1
              try clear c21
              try clear c21b0
              try clear c22
              try clear c22b0
              try clear c22b1
              try clear c22b2
              try clear c23
              try clear c23b0
              try clear c23b1
              try clear c23b2
              try clear hcz10_0
              try clear hcz10_1
              try clear hcz10_2
              try clear hcz10_3
              try clear hcz12_0
              try clear hcz12_1
              try clear hcz12_2
              try clear hcz12_3
              try clear hcz14_0
              try clear hcz14_1
              try clear hcz14_2
              try clear hcz14_3
              try clear hcz15_0
              try clear hcz15_1
              try clear hcz15_2
              try clear hcz15_3
              try clear hcz4_0
              try clear hcz4_1
              try clear hcz4_2
              try clear hcz4_3
              try clear hcz7_0
              try clear hcz7_1
              try clear hcz7_2
              try clear hcz7_3
              try clear p2
              try clear p6
              obtain ⟨kq, x6_18, rfl, HA, HJ18, HB⟩ := hcut
              cases kq with
              | zero => exact absurd HA.out (by simp [spec_DecText.j2])
              | succ kj18 =>
                have H := HA.out
                clear HA
                simp only [spec_DecText.j2] at H
                by_cases c24 : (wrap64 ((wrap64 (a0_3 + (a0_2.size : Int))) - 1)) ≥ 0
                · rw [if_pos c24] at H
                  have c24b0 : decide (0 ≤ (wrap64 ((wrap64 (a0_3 + (a0_2.size : Int))) - 1))) = true := decide_eq_true c24
                  clear c24
                  by_cases c25 : x3_1.size + x6_18.size ≤ 9223372036854775807
                  rotate_left
                  · rw [if_neg c25] at H
                    exact absurd H (by simp)
                  rw [if_pos c25] at H
                  have c25b0 := eq_true c25
                  have c25b1 : decide (x3_1.size + x6_18.size ≤ 9223372036854775807) = true := decide_eq_true c25
                  try have c25b2 : (9223372036854775807 < x3_1.size + x6_18.size) = False := eq_false (Nat.not_lt.2 c25)
                  (try have c25b3 := c25; simp at c25b3; have c25b4 := eq_false (Nat.not_lt.2 c25b3))
                  by_cases c26 : (x3_1 ++ x6_18).size + 2 ≤ 9223372036854775807
                  rotate_left
                  · rw [if_neg c26] at H
                    exact absurd H (by simp)
                  rw [if_pos c26] at H
                  have c26b0 := eq_true c26
                  have c26b1 : decide ((x3_1 ++ x6_18).size + 2 ≤ 9223372036854775807) = true := decide_eq_true c26
                  try have c26b2 : (9223372036854775807 < (x3_1 ++ x6_18).size + 2) = False := eq_false (Nat.not_lt.2 c26)
                  (try have c26b3 := c26; simp at c26b3; have c26b4 := eq_false (Nat.not_lt.2 c26b3))
                  replace H := Option.bind_eq_some_iff.mp H
                  obtain ⟨t159, A270, H⟩ := H
                  replace H : (if ((x3_1 ++ x6_18) ++ (⟨#[69, 43]⟩ : ByteArray)).size + t159.size ≤ 9223372036854775807 then (some (((x3_1 ++ x6_18) ++ (⟨#[69, 43]⟩ : ByteArray)) ++ t159)) else (none)) = some r := H
                  have A27 := Aside0.mk A270
                  clear A270
                  by_cases c28 : ((x3_1 ++ x6_18) ++ (⟨#[69, 43]⟩ : ByteArray)).size + t159.size ≤ 9223372036854775807
                  rotate_left
                  · rw [if_neg c28] at H
                    exact absurd H (by simp)
                  rw [if_pos c28] at H
                  have c28b0 := eq_true c28
                  have c28b1 : decide (((x3_1 ++ x6_18) ++ (⟨#[69, 43]⟩ : ByteArray)).size + t159.size ≤ 9223372036854775807) = true := decide_eq_true c28
                  try have c28b2 : (9223372036854775807 < ((x3_1 ++ x6_18) ++ (⟨#[69, 43]⟩ : ByteArray)).size + t159.size) = False := eq_false (Nat.not_lt.2 c28)
                  (try have c28b3 := c28; simp at c28b3; have c28b4 := eq_false (Nat.not_lt.2 c28b3))
                  as_aux_lemma =>
                    obtain rfl := Option.some.inj H
                    go_wp2_with (first | (go_at_call 12; (with_reducible refine (spec_decNumber.calls kj18 (wrap64 ((wrap64 (a0_3 + (a0_2.size : Int))) - 1)) t159 _ A27.out).mono ?_); rintro e w29 ⟨rfl, hb⟩; have n0_ := Aside0.mk (below_step HW.zb hb); clear HB; have HB := n0_; clear n0_; (try clear hb); (try clear hb2); (try clear hk); (try clear hi)))
                    repeat (go_quiet (first | (go_at_call 12; (with_reducible refine (spec_decNumber.calls kj18 (wrap64 ((wrap64 (a0_3 + (a0_2.size : Int))) - 1)) t159 _ A27.out).mono ?_); rintro e w29 ⟨rfl, hb⟩; have n0_ := Aside0.mk (below_step HW.zb hb); clear HB; have HB := n0_; clear n0_; (try clear hb); (try clear hb2); (try clear hk); (try clear hi))); try go_wp2_with (first | (go_at_call 12; (with_reducible refine (spec_decNumber.calls kj18 (wrap64 ((wrap64 (a0_3 + (a0_2.size : Int))) - 1)) t159 _ A27.out).mono ?_); rintro e w29 ⟨rfl, hb⟩; have n0_ := Aside0.mk (below_step HW.zb hb); clear HB; have HB := n0_; clear n0_; (try clear hb); (try clear hb2); (try clear hk); (try clear hi))))
                    go_ret
                    exact ⟨by first | rfl | (simp [errW_none, errW_some] <;> rfl) | (simp [*, errW_none, errW_some] <;> rfl), HW.zb⟩
                rw [if_neg c24] at H
                have c24b0 : decide (0 ≤ (wrap64 ((wrap64 (a0_3 + (a0_2.size : Int))) - 1))) = false := decide_eq_false c24
                clear c24
                by_cases c30 : x3_1.size + x6_18.size ≤ 9223372036854775807
                rotate_left
                · rw [if_neg c30] at H
                  exact absurd H (by simp)
                rw [if_pos c30] at H
                have c30b0 := eq_true c30
                have c30b1 : decide (x3_1.size + x6_18.size ≤ 9223372036854775807) = true := decide_eq_true c30
                try have c30b2 : (9223372036854775807 < x3_1.size + x6_18.size) = False := eq_false (Nat.not_lt.2 c30)
                (try have c30b3 := c30; simp at c30b3; have c30b4 := eq_false (Nat.not_lt.2 c30b3))
                by_cases c31 : (x3_1 ++ x6_18).size + 1 ≤ 9223372036854775807
                rotate_left
                · rw [if_neg c31] at H
                  exact absurd H (by simp)
                rw [if_pos c31] at H
                have c31b0 := eq_true c31
                have c31b1 : decide ((x3_1 ++ x6_18).size + 1 ≤ 9223372036854775807) = true := decide_eq_true c31
                try have c31b2 : (9223372036854775807 < (x3_1 ++ x6_18).size + 1) = False := eq_false (Nat.not_lt.2 c31)
                (try have c31b3 := c31; simp at c31b3; have c31b4 := eq_false (Nat.not_lt.2 c31b3))
                replace H := Option.bind_eq_some_iff.mp H
                obtain ⟨t160, A320, H⟩ := H
                replace H : (if ((x3_1 ++ x6_18) ++ (⟨#[69]⟩ : ByteArray)).size + t160.size ≤ 9223372036854775807 then (some (((x3_1 ++ x6_18) ++ (⟨#[69]⟩ : ByteArray)) ++ t160)) else (none)) = some r := H
                have A32 := Aside0.mk A320
                clear A320
                by_cases c33 : ((x3_1 ++ x6_18) ++ (⟨#[69]⟩ : ByteArray)).size + t160.size ≤ 9223372036854775807
                rotate_left
                · rw [if_neg c33] at H
                  exact absurd H (by simp)
                rw [if_pos c33] at H
                have c33b0 := eq_true c33
                have c33b1 : decide (((x3_1 ++ x6_18) ++ (⟨#[69]⟩ : ByteArray)).size + t160.size ≤ 9223372036854775807) = true := decide_eq_true c33
                try have c33b2 : (9223372036854775807 < ((x3_1 ++ x6_18) ++ (⟨#[69]⟩ : ByteArray)).size + t160.size) = False := eq_false (Nat.not_lt.2 c33)
                (try have c33b3 := c33; simp at c33b3; have c33b4 := eq_false (Nat.not_lt.2 c33b3))
                as_aux_lemma =>
                  obtain rfl := Option.some.inj H
                  go_wp2_with (first | (go_at_call 12; (with_reducible refine (spec_decNumber.calls kj18 (wrap64 ((wrap64 (a0_3 + (a0_2.size : Int))) - 1)) t160 _ A32.out).mono ?_); rintro e w34 ⟨rfl, hb⟩; have n0_ := Aside0.mk (below_step HW.zb hb); clear HB; have HB := n0_; clear n0_; (try clear hb); (try clear hb2); (try clear hk); (try clear hi)))
                  repeat (go_quiet (first | (go_at_call 12; (with_reducible refine (spec_decNumber.calls kj18 (wrap64 ((wrap64 (a0_3 + (a0_2.size : Int))) - 1)) t160 _ A32.out).mono ?_); rintro e w34 ⟨rfl, hb⟩; have n0_ := Aside0.mk (below_step HW.zb hb); clear HB; have HB := n0_; clear n0_; (try clear hb); (try clear hb2); (try clear hk); (try clear hi))); try go_wp2_with (first | (go_at_call 12; (with_reducible refine (spec_decNumber.calls kj18 (wrap64 ((wrap64 (a0_3 + (a0_2.size : Int))) - 1)) t160 _ A32.out).mono ?_); rintro e w34 ⟨rfl, hb⟩; have n0_ := Aside0.mk (below_step HW.zb hb); clear HB; have HB := n0_; clear n0_; (try clear hb); (try clear hb2); (try clear hk); (try clear hi))))
                  go_ret
                  exact ⟨by first | rfl | (simp [errW_none, errW_some] <;> rfl) | (simp [*, errW_none, errW_some] <;> rfl), HW.zb⟩
          replace c16 := Bool.eq_false_iff.mpr c16
          subst c16
          have H1 : (if a0_3 = 0 then (if x3_1.size + a0_2.size ≤ 9223372036854775807 then (some (x3_1 ++ a0_2)) else (none)) else (spec_DecText.l0 kj10 x3_1 a0_2 a0_0 a0_1 a0_2 a0_3)) = some r := by rw [if_neg (show ¬ (false = true) by decide)] at H; exact H
          clear H
          have H := H1
          clear H1
          by_cases c35 : a0_3 = 0
          · rw [if_pos c35] at H
            have c35b0 : (a0_3 == 0) = true := beq_iff_eq.mpr c35
            have c35b1 : (a0_3 != 0) = false := bne_eq_false_iff_eq.mpr c35
            clear c35
            by_cases c36 : x3_1.size + a0_2.size ≤ 9223372036854775807
            rotate_left
            · rw [if_neg c36] at H
              exact absurd H (by simp)
            rw [if_pos c36] at H
            have c36b0 := eq_true c36
            have c36b1 : decide (x3_1.size + a0_2.size ≤ 9223372036854775807) = true := decide_eq_true c36
            try have c36b2 : (9223372036854775807 < x3_1.size + a0_2.size) = False := eq_false (Nat.not_lt.2 c36)
            (try have c36b3 := c36; simp at c36b3; have c36b4 := eq_false (Nat.not_lt.2 c36b3))
            as_aux_lemma =>
              obtain rfl := Option.some.inj H
              have hcz37_0 := HW.zc BK158.out 0 (.int .i64 a0_0)
              have hcz37_1 := HW.zc BK158.out 1 (.bool a0_1)
              have hcz37_2 := HW.zc BK158.out 2 (.string a0_2)
              have hcz37_3 := HW.zc BK158.out 3 (.int .i64 a0_3)
              go_wp2
              repeat (go_quiet (fail); try go_wp2)
              go_ret
              exact ⟨by first | rfl | (simp [errW_none, errW_some] <;> rfl) | (simp [*, errW_none, errW_some] <;> rfl), HW.zb⟩
          rw [if_neg c35] at H
          have c35b0 : (a0_3 == 0) = false := beq_eq_false_iff_ne.mpr c35
          have c35b1 : (a0_3 != 0) = true := bne_iff_ne.mpr c35
          have H' := Aside0.mk H
          clear H
          have hcz38_0 := HW.zc BK158.out 0 (.int .i64 a0_0)
          have hcz38_1 := HW.zc BK158.out 1 (.bool a0_1)
          have hcz38_2 := HW.zc BK158.out 2 (.string a0_2)
          have hcz38_3 := HW.zc BK158.out 3 (.int .i64 a0_3)
          go_wp2
          repeat (go_quiet (fail); try go_wp2)
          go_loopg [4] kj10 (fun kq v4 w' => ∃ (x4_3 : ByteArray), v4 = .string x4_3 ∧ Aside0 (spec_DecText.l0 kq x3_1 x4_3 a0_0 a0_1 a0_2 a0_3 = some r) ∧ Aside0 (kq ≤ kj10) ∧ Aside0 (w'.heap[gb158]? = some (.cells #[.int .i64 a0_0, .bool a0_1, .string a0_2, .int .i64 a0_3] 27 (0, 0))) ∧ Aside0 (Below w.heap.size w w'))
          case atStart => exact ⟨(a0_2), (by first | rfl | (simp; done) | (simp [*]; done)), H', ⟨Nat.le_refl _⟩, ⟨by (with_reducible repeat (first | refine blk_drewN ?_ _ | refine blk_drew ?_ | refine blk_alloc ?_ _)); exact BK158.out⟩, ⟨HW.zb⟩⟩
          case round =>
            clear H'
            try clear c1
            try clear c2
            try clear p2
            try clear c3
            try clear c5
            try clear c6
            try clear c6b0
            try clear c6b1
            try clear p6
            try clear c8
            try clear c8b0
            try clear c8b1
            try clear c9
            try clear c9b0
            try clear c9b1
            try clear c9b2
            try clear c13
            try clear c13b0
            try clear c16
            try clear c17
            try clear c17b0
            try clear c17b1
            try clear c18
            try clear c18b0
            try clear c18b1
            try clear c20
            try clear c20b0
            try clear c20b1
            try clear c21
            try clear c21b0
            try clear c22
            try clear c22b0
            try clear c22b1
            try clear c22b2
            try clear c23
            try clear c23b0
            try clear c23b1
            try clear c23b2
            try clear c24
            try clear c24b0
            try clear c25
            try clear c25b0
            try clear c25b1
            try clear c25b2
            try clear c26
            try clear c26b0
            try clear c26b1
            try clear c26b2
            try clear c28
            try clear c28b0
            try clear c28b1
            try clear c28b2
            try clear c30
            try clear c30b0
            try clear c30b1
            try clear c30b2
            try clear c31
            try clear c31b0
            try clear c31b1
            try clear c31b2
            try clear c33
            try clear c33b0
            try clear c33b1
            try clear c33b2
            try clear c35
            try clear c35b0
            try clear c35b1
            try clear c36
            try clear c36b0
            try clear c36b1
            try clear c36b2
            try clear hcz10_0
            try clear hcz10_1
            try clear hcz10_2
            try clear hcz10_3
            try clear hcz12_0
            try clear hcz12_1
            try clear hcz12_2
            try clear hcz12_3
            try clear hcz14_0
            try clear hcz14_1
            try clear hcz14_2
            try clear hcz14_3
            try clear hcz15_0
            try clear hcz15_1
            try clear hcz15_2
            try clear hcz15_3
            try clear hcz37_0
            try clear hcz37_1
            try clear hcz37_2
            try clear hcz37_3
            try clear hcz38_0
            try clear hcz38_1
            try clear hcz38_2
            try clear hcz38_3
            try clear hcz4_0
            try clear hcz4_1
            try clear hcz4_2
            try clear hcz4_3
            try clear hcz7_0
            try clear hcz7_1
            try clear hcz7_2
            try clear hcz7_3
            try clear p2
            try clear p6
            obtain ⟨x4_3, rfl, HA, HK3, BK158, HB⟩ := hrel
            cases gk with
            | zero => exact absurd HA.out (by simp [spec_DecText.l0])
            | succ k3 =>
              have H := HA.out
              clear HA
              simp only [spec_DecText.l0] at H
              by_cases c39 : (x4_3.size : Int) ≤ (wrap64 (-a0_3))
              · rw [if_pos c39] at H
                have c39b0 : decide ((x4_3.size : Int) ≤ (wrap64 (-a0_3))) = true := decide_eq_true c39
                clear c39
                by_cases c40 : 1 + x4_3.size ≤ 9223372036854775807
                rotate_left
                · rw [if_neg c40] at H
                  exact absurd H (by simp)
                rw [if_pos c40] at H
                have c40b0 := eq_true c40
                have c40b1 : decide (1 + x4_3.size ≤ 9223372036854775807) = true := decide_eq_true c40
                try have c40b2 : (9223372036854775807 < 1 + x4_3.size) = False := eq_false (Nat.not_lt.2 c40)
                (try have c40b3 := c40; simp at c40b3; have c40b4 := eq_false (Nat.not_lt.2 c40b3))
                as_aux_lemma =>
                  have H' := Aside0.mk H
                  clear H
                  have hcz41_0 := HW.zc BK158.out 0 (.int .i64 a0_0)
                  have hcz41_1 := HW.zc BK158.out 1 (.bool a0_1)
                  have hcz41_2 := HW.zc BK158.out 2 (.string a0_2)
                  have hcz41_3 := HW.zc BK158.out 3 (.int .i64 a0_3)
                  go_wp2
                  repeat (go_quiet (fail); try go_wp2)
                  go_roundg k3
                  case measure => have := HJ1.out; have := HJ10.out; have := HK3.out; omega
                  case rel => exact ⟨((⟨#[48]⟩ : ByteArray) ++ x4_3), (by first | rfl | (simp; done) | (simp [*]; done)), H', ⟨by have := HJ1.out; have := HJ10.out; have := HK3.out; omega⟩, ⟨by (with_reducible repeat (first | refine blk_drewN ?_ _ | refine blk_drew ?_ | refine blk_alloc ?_ _)); exact BK158.out⟩, ⟨HW.zb⟩⟩
              rw [if_neg c39] at H
              have c39b0 : decide ((x4_3.size : Int) ≤ (wrap64 (-a0_3))) = false := decide_eq_false c39
              clear c39
              obtain ⟨ji42, hji42⟩ : ∃ j_ : Int, (wrap64 ((x4_3.size : Int) + a0_3)) = j_ := ⟨_, rfl⟩
              replace H : (if 0 ≤ (ji42) then (if (ji42) ≤ (x4_3.size : Int) then (if x3_1.size + (x4_3.extract 0 ((ji42) : Int).toNat).size ≤ 9223372036854775807 then (if (x3_1 ++ (x4_3.extract 0 ((ji42) : Int).toNat)).size + 1 ≤ 9223372036854775807 then (if ((x3_1 ++ (x4_3.extract 0 ((ji42) : Int).toNat)) ++ (⟨#[46]⟩ : ByteArray)).size + (x4_3.extract ((ji42) : Int).toNat x4_3.size).size ≤ 9223372036854775807 then (some (((x3_1 ++ (x4_3.extract 0 ((ji42) : Int).toNat)) ++ (⟨#[46]⟩ : ByteArray)) ++ (x4_3.extract ((ji42) : Int).toNat x4_3.size))) else (none)) else (none)) else (none)) else (none)) else (none)) = some r := by first | (rw [hji42] at H; exact H) | (simp only [hji42] at H ⊢; exact H)
              have hji42w : (IntKind.i64.wrap ((x4_3.size : Int) + a0_3)) = ji42 := (i64_w _).trans hji42
              by_cases c43 : 0 ≤ (ji42)
              rotate_left
              · rw [if_neg c43] at H
                exact absurd H (by simp)
              rw [if_pos c43] at H
              have c43b0 := eq_true c43
              have c43b1 : decide (0 ≤ (ji42)) = true := decide_eq_true c43
              clear c43
              by_cases c44 : (ji42) ≤ (x4_3.size : Int)
              rotate_left
              · rw [if_neg c44] at H
                exact absurd H (by simp)
              rw [if_pos c44] at H
              have c44b0 := eq_true c44
              have c44b1 : decide ((ji42) ≤ (x4_3.size : Int)) = true := decide_eq_true c44
              clear c44
              by_cases c45 : x3_1.size + (x4_3.extract 0 ((ji42) : Int).toNat).size ≤ 9223372036854775807
              rotate_left
              · rw [if_neg c45] at H
                exact absurd H (by simp)
              rw [if_pos c45] at H
              have c45b0 := eq_true c45
              have c45b1 : decide (x3_1.size + (x4_3.extract 0 ((ji42) : Int).toNat).size ≤ 9223372036854775807) = true := decide_eq_true c45
              try have c45b2 : (9223372036854775807 < x3_1.size + (x4_3.extract 0 ((ji42) : Int).toNat).size) = False := eq_false (Nat.not_lt.2 c45)
              (try have c45b3 := c45; simp at c45b3; have c45b4 := eq_false (Nat.not_lt.2 c45b3))
              by_cases c46 : (x3_1 ++ (x4_3.extract 0 ((ji42) : Int).toNat)).size + 1 ≤ 9223372036854775807
              rotate_left
              · rw [if_neg c46] at H
                exact absurd H (by simp)
              rw [if_pos c46] at H
              have c46b0 := eq_true c46
              have c46b1 : decide ((x3_1 ++ (x4_3.extract 0 ((ji42) : Int).toNat)).size + 1 ≤ 9223372036854775807) = true := decide_eq_true c46
              try have c46b2 : (9223372036854775807 < (x3_1 ++ (x4_3.extract 0 ((ji42) : Int).toNat)).size + 1) = False := eq_false (Nat.not_lt.2 c46)
              (try have c46b3 := c46; simp at c46b3; have c46b4 := eq_false (Nat.not_lt.2 c46b3))
              have c47b0 := eq_true (of_decide_eq_true (by first | (with_reducible assumption) | assumption) : 0 ≤ (ji42))
              have c48b0 := eq_true (of_decide_eq_true (by first | (with_reducible assumption) | assumption) : (ji42) ≤ (x4_3.size : Int))
              by_cases c49 : ((x3_1 ++ (x4_3.extract 0 ((ji42) : Int).toNat)) ++ (⟨#[46]⟩ : ByteArray)).size + (x4_3.extract ((ji42) : Int).toNat x4_3.size).size ≤ 9223372036854775807
              rotate_left
              · rw [if_neg c49] at H
                exact absurd H (by simp)
              rw [if_pos c49] at H
              have c49b0 := eq_true c49
              have c49b1 : decide (((x3_1 ++ (x4_3.extract 0 ((ji42) : Int).toNat)) ++ (⟨#[46]⟩ : ByteArray)).size + (x4_3.extract ((ji42) : Int).toNat x4_3.size).size ≤ 9223372036854775807) = true := decide_eq_true c49
              try have c49b2 : (9223372036854775807 < ((x3_1 ++ (x4_3.extract 0 ((ji42) : Int).toNat)) ++ (⟨#[46]⟩ : ByteArray)).size + (x4_3.extract ((ji42) : Int).toNat x4_3.size).size) = False := eq_false (Nat.not_lt.2 c49)
              have c4s_ : min ji42.toNat x4_3.size = ji42.toNat := Nat.min_eq_left (by have h1_ := of_eq_true c47b0; have h2_ := of_eq_true c48b0; omega)
              have c45b6 : (9223372036854775807 < x3_1.size + ji42.toNat) = False := eq_false (by have h_ := c45; simp only [ByteArray.size_append, ByteArray.size_extract, Nat.sub_zero, c4s_] at h_; omega)
              have c46b6 : (9223372036854775807 < x3_1.size + ji42.toNat + 1) = False := eq_false (by have h_ := c46; simp only [ByteArray.size_append, ByteArray.size_extract, Nat.sub_zero, c4s_] at h_; omega)
              have c49b6 : (9223372036854775807 < x3_1.size + ji42.toNat + 1 + (x4_3.size - ji42.toNat)) = False := eq_false (by have h_ := c49; have h1_ : (⟨#[46]⟩ : ByteArray).size = 1 := rfl; simp only [ByteArray.size_append, ByteArray.size_extract, h1_, Nat.sub_zero, c4s_, Nat.min_self] at h_; omega)
              clear c4s_
              as_aux_lemma =>
                obtain rfl := Option.some.inj H
                have hcz50_0 := HW.zc BK158.out 0 (.int .i64 a0_0)
                have hcz50_1 := HW.zc BK158.out 1 (.bool a0_1)
                have hcz50_2 := HW.zc BK158.out 2 (.string a0_2)
                have hcz50_3 := HW.zc BK158.out 3 (.int .i64 a0_3)
                go_wp2
                repeat (go_quiet (fail); try go_wp2)
                go_ret
                exact ⟨by first | rfl | (simp [errW_none, errW_some] <;> rfl) | (simp only [← hji42]; first | rfl | (simp [errW_none, errW_some] <;> rfl)) | (simp [*, errW_none, errW_some] <;> rfl), HW.zb⟩

/-! ### laws_FnDecText: function 3 -/
def laws_FnDecText.f (k : Nat) (a0 : Int) (a1 : Int) : Option (Bool) := (laws_decFits.f k a0 a1).bind fun t161 => (if t161 = true then ((impl_DecText.f a0 a1).bind fun t162 => ((spec_DecOf.f k a0 a1).bind fun bt163 => ((spec_DecText.f k bt163.1 bt163.2.1 bt163.2.2.1 bt163.2.2.2).bind fun t167 => (some (t162.toList == t167.toList))))) else (some true))
theorem laws_FnDecText.mono : ∀ a0 a1 k, LeO (laws_FnDecText.f k a0 a1) (laws_FnDecText.f (k + 1) a0 a1) := by
  intro a0 a1 k
  unfold laws_FnDecText.f
  repeat' first
      | (with_reducible exact laws_decFits.mono _ _ _)
      | (with_reducible exact spec_DecOf.mono _ _ _)
      | (with_reducible exact spec_DecText.mono _ _ _ _ _)
      | (with_reducible exact LeO.refl _)
      | (with_reducible exact LeO.none _)
      | (with_reducible refine LeO.ite ?_ ?_)
      | (with_reducible refine LeO.bind ?_ (fun _ => ?_))
      | exact laws_decFits.mono _ _ _
      | exact spec_DecOf.mono _ _ _
      | exact spec_DecText.mono _ _ _ _ _
      | exact LeO.none _
      | refine LeO.ite ?_ ?_
      | refine LeO.bind ?_ (fun _ => ?_)
set_option maxHeartbeats 8000000 in
set_option maxRecDepth 100000 in
theorem laws_FnDecText.calls (k : Nat) (a0 : Int) (a1 : Int) (r : Bool) (w : World) (hlaid : Ito.LaidT w) (h : laws_FnDecText.f k a0 a1 = some r) :
    Calls Tryd.prog 3 #[.int .u64 a0, .int .u64 a1] w fun e w' => e = .returned (.bool r) ∧ Below w.heap.size w w' := by
  have HB := Aside0.mk (Below.refl w.heap.size w)
  have HLAID := Aside0.mk hlaid
  clear hlaid
  have H : ((laws_decFits.f k a0 a1).bind fun t161 => (if t161 = true then ((impl_DecText.f a0 a1).bind fun t162 => ((spec_DecOf.f k a0 a1).bind fun bt163 => ((spec_DecText.f k bt163.1 bt163.2.1 bt163.2.2.1 bt163.2.2.2).bind fun t167 => (some (t162.toList == t167.toList))))) else (some true))) = some r := h
  clear h
  replace H := Option.bind_eq_some_iff.mp H
  obtain ⟨t161, A30, H⟩ := H
  replace H : (if t161 = true then ((impl_DecText.f a0 a1).bind fun t162 => ((spec_DecOf.f k a0 a1).bind fun bt163 => ((spec_DecText.f k bt163.1 bt163.2.1 bt163.2.2.1 bt163.2.2.2).bind fun t167 => (some (t162.toList == t167.toList))))) else (some true)) = some r := H
  have A3 := Aside0.mk A30
  clear A30
  by_cases c4 : t161 = true
  rotate_left
  · replace c4 := Bool.eq_false_iff.mpr c4
    subst c4
    have H1 : (some true) = some r := by rw [if_neg (show ¬ (false = true) by decide)] at H; exact H
    clear H
    have H := H1
    clear H1
    as_aux_lemma =>
      obtain rfl := Option.some.inj H
      go_enter Tryd.func3, Tryd.ntmps3
      go_wp2_with (first | ((with_reducible refine gate_callee (f := 4) rfl ?_); refine HW.gz (some 7) rfl rfl Tryd.func4 (by kernel_rfl) rfl #[.int .u64 a0, .int .u64 a1] rfl ?_; (with_reducible refine (laws_decFits.calls k a0 a1 false _ A3.out).mono ?_); rintro e w12 ⟨rfl, hb⟩; refine ⟨_, rfl, ?_⟩; have n0_ := Aside0.mk (below_step HW.zb hb); clear HB; have HB := n0_; clear n0_; (try clear hb); (try clear hb2); (try clear hk); (try clear hi)))
      go_ret
      exact ⟨by first | rfl | (simp [errW_none, errW_some] <;> rfl) | (simp [*, errW_none, errW_some] <;> rfl), HW.zb⟩
  subst c4
  have H1 : ((impl_DecText.f a0 a1).bind fun t162 => ((spec_DecOf.f k a0 a1).bind fun bt163 => ((spec_DecText.f k bt163.1 bt163.2.1 bt163.2.2.1 bt163.2.2.2).bind fun t167 => (some (t162.toList == t167.toList))))) = some r := by rw [if_pos rfl] at H; exact H
  clear H
  have H := H1
  clear H1
  replace H := Option.bind_eq_some_iff.mp H
  obtain ⟨t162, A50, H⟩ := H
  replace H : ((spec_DecOf.f k a0 a1).bind fun bt163 => ((spec_DecText.f k bt163.1 bt163.2.1 bt163.2.2.1 bt163.2.2.2).bind fun t167 => (some (t162.toList == t167.toList)))) = some r := H
  have A5 := Aside0.mk A50
  clear A50
  replace H := Option.bind_eq_some_iff.mp H
  obtain ⟨⟨t163, t164, t165, t166⟩, A60, H⟩ := H
  replace H : ((spec_DecText.f k t163 t164 t165 t166).bind fun t167 => (some (t162.toList == t167.toList))) = some r := H
  have A6 := Aside0.mk A60
  clear A60
  replace H := Option.bind_eq_some_iff.mp H
  obtain ⟨t167, A70, H⟩ := H
  replace H : (some (t162.toList == t167.toList)) = some r := H
  have A7 := Aside0.mk A70
  clear A70
  as_aux_lemma =>
    obtain rfl := Option.some.inj H
    go_enter Tryd.func3, Tryd.ntmps3
    go_wp2_with (first | ((with_reducible refine gate_callee (f := 4) rfl ?_); refine HW.gz (some 7) rfl rfl Tryd.func4 (by kernel_rfl) rfl #[.int .u64 a0, .int .u64 a1] rfl ?_; (with_reducible refine (laws_decFits.calls k a0 a1 true _ A3.out).mono ?_); rintro e w8 ⟨rfl, hb⟩; refine ⟨_, rfl, ?_⟩; have n0_ := Aside0.mk (below_step HW.zb hb); clear HB; have HB := n0_; clear n0_; (try clear hb); (try clear hb2); (try clear hk); (try clear hi)) | (go_at_call 5; (with_reducible refine (impl_DecText.calls a0 a1 t162 _ ?aLD A5.out).mono ?_); (case aLD => exact Ito.LaidT.below HLAID.out (Ito.LaidT.lt HLAID.out) (by repeat (first | (with_reducible first | exact HB.out | apply below_alloc | apply pw_below_drewN | apply below_drew1 | refine below_set ?_ (by first | exact GE158.out)) | exact HB.out))); rintro e w9 ⟨rfl, hb⟩; have n0_ := Aside0.mk (below_step HW.zb hb); clear HB; have HB := n0_; clear n0_; (try clear hb); (try clear hb2); (try clear hk); (try clear hi)) | (go_at_call 7; (with_reducible refine (spec_DecOf.calls k a0 a1 t163 t164 t165 t166 _ A6.out).mono ?_); rintro e w10 ⟨rfl, hb⟩; have n0_ := Aside0.mk (below_step HW.zb hb); clear HB; have HB := n0_; clear n0_; (try clear hb); (try clear hb2); (try clear hk); (try clear hi)) | (go_at_call 6; (with_reducible refine (spec_DecText.calls k t163 t164 t165 t166 t167 _ A7.out).mono ?_); rintro e w11 ⟨rfl, hb⟩; have n0_ := Aside0.mk (below_step HW.zb hb); clear HB; have HB := n0_; clear n0_; (try clear hb); (try clear hb2); (try clear hk); (try clear hi)))
    go_ret
    exact ⟨by first | rfl | (simp [errW_none, errW_some] <;> rfl) | (simp [*, errW_none, errW_some] <;> rfl), HW.zb⟩

end Go.Proofs.YtpbfigeaoefcmaaDoor.PDt
