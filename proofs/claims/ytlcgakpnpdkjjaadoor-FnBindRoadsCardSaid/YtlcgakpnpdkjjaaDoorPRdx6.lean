/- Printed by a program of this session (a turned copy of the printer of the kit): contracts of functions of the translation, each with the Lean function that it computes. Conditions: as each theorem states them. -/
import Derived.Test.YtlcgakpnpdkjjaaDoorPRdx0
import Derived.Test.YtlcgakpnpdkjjaaDoorPRdx4
import Derived.Test.YtlcgakpnpdkjjaaDoorPRdx5
namespace Go.Proofs.YtlcgakpnpdkjjaaDoor.PRd
open Go.RowKit Go.Proofs.YtlcgakpnpdkjjaaDoorW.PrintWords Go.Proofs.YtlcgakpnpdkjjaaDoorW.PrintLast Go.Proofs.YtlcgakpnpdkjjaaDoorW.PrintMore
attribute [local go_sem] max2_int min2_int max_two min_two max_three min_three max_four min_four   -- for this text's walks alone
set_option linter.unusedVariables false
set_option linter.unusedSimpArgs false

/-! ### spec_DocValue: function 31 -/
set_option maxHeartbeats 8000000 in
set_option maxRecDepth 100000 in
theorem spec_DocValue.step (k : Nat) (ih : ∀ j, j < k → Grp_spec_DocValue.Spec j) : ∀ (a0_0 : Int) (a0_1 : ByteArray) (a0_2 : ByteArray) (a0_3 : Int) (a0_4 : Int) (a0_5 : Int) (A0_6 : Option Addr) (c0_6 : Nat) (l0_6 : List Int) (A0_7 : Option Addr) (c0_7 : Nat) (l0_7 : List (S34)) (r : List Int) (w : World) (hr0_6 : Kd.C (Kd.int .u8) w A0_6 l0_6.length l0_6) (hc0_6 : l0_6.length ≤ c0_6) (hr0_7 : Kd.C k34 w A0_7 l0_7.length l0_7) (hc0_7 : l0_7.length ≤ c0_7) (h : spec_DocValue.f k a0_0 a0_1 a0_2 a0_3 a0_4 a0_5 l0_6 l0_7 = some r),
    Calls Tryd.prog 31 #[.agg #[.int .i64 a0_0, .string a0_1, .string a0_2, .int .i64 a0_3, .int .u64 a0_4, .int .u64 a0_5, .slice A0_6 l0_6.length c0_6, .slice A0_7 l0_7.length c0_7]] w fun e w' => ∃ v0_ : Value, e = .returned (v0_) ∧ Kd.R (Kd.int .u8) 5 w' w.heap.size (fun _ => True) v0_ r ∧ Below w.heap.size w w' := by
  intro a0_0 a0_1 a0_2 a0_3 a0_4 a0_5 A0_6 c0_6 l0_6 A0_7 c0_7 l0_7 r w hr0_6 hc0_6 hr0_7 hc0_7 h
  cases k with
  | zero => exact absurd h (by simp [spec_DocValue.f])
  | succ k =>
  simp only [spec_DocValue.f] at h
  have hu26 := Tryd.underlying26
  have HR0_6 := Aside0.mk hr0_6
  have HC0_6 := Aside0.mk hc0_6
  clear hr0_6 hc0_6
  have HR0_7 := Aside0.mk hr0_7
  have HC0_7 := Aside0.mk hc0_7
  clear hr0_7 hc0_7
  have HB := Aside0.mk (Below.refl w.heap.size w)
  have H : (if a0_0 = 1 then (spec_DocValue.j0 k ([] : List Int) a0_0 (a0_0 == 1) a0_0 a0_1 a0_2 a0_3 a0_4 a0_5 l0_6 l0_7) else (spec_DocValue.j0 k ([] : List Int) a0_0 (a0_0 == 17) a0_0 a0_1 a0_2 a0_3 a0_4 a0_5 l0_6 l0_7)) = some r := h
  clear h
  have HC2 := Aside0.mk H
  clear H
  go_enter Tryd.func31, Tryd.ntmps31
  go_upto_if 9 with (first | ((with_reducible refine gate_dst (N := 1) rfl ?_); refine box_event ?hg (N := 1) ?hd (cs := #[.int .i64 a0_0, .string a0_1, .string a0_2, .int .i64 a0_3, .int .u64 a0_4, .int .u64 a0_5, .slice A0_6 l0_6.length c0_6, .slice A0_7 l0_7.length c0_7]) (t := 26) ?hr ?_; (case hd => rfl); (case hg => rfl); (case hr => first | (go_simp; done) | (go_simp; rfl)); intro gb257 hg w3 hbox hb; have n0_ := Aside0.mk (below_step HW.zb hb); have n1_ := Aside0.mk (hbox); have n3_ := Aside0.mk ((by rw [hg]; exact (below_size HW.zb) : w.heap.size ≤ gb257)); clear HB; have HB := n0_; have BK257 := n1_; have GE257 := n3_; clear n0_ n1_ n3_; clear hb hbox hg; have hcz4_0 := HW.zc BK257.out 0 (.int .i64 a0_0); have hcz4_1 := HW.zc BK257.out 1 (.string a0_1); have hcz4_2 := HW.zc BK257.out 2 (.string a0_2); have hcz4_3 := HW.zc BK257.out 3 (.int .i64 a0_3); have hcz4_4 := HW.zc BK257.out 4 (.int .u64 a0_4); have hcz4_5 := HW.zc BK257.out 5 (.int .u64 a0_5); have hcz4_6 := HW.zc BK257.out 6 (.slice A0_6 l0_6.length c0_6); have hcz4_7 := HW.zc BK257.out 7 (.slice A0_7 l0_7.length c0_7)))
  (try simp only [Act.put, List.setIfInBounds_toArray, List.set_cons_zero, List.set_cons_succ])
  go_cut [9] (fun v9 wc => ∃ (kq : Nat) (x9_1 : Bool), v9 = .bool x9_1 ∧ Aside0 (spec_DocValue.j0 kq ([] : List Int) a0_0 x9_1 a0_0 a0_1 a0_2 a0_3 a0_4 a0_5 l0_6 l0_7 = some r) ∧ Aside0 (kq ≤ k) ∧ Aside0 (Kd.R (Kd.int .u8) 5 wc w.heap.size (fun _ => True) (.slice none 0 0) ([] : List Int)) ∧ Aside0 (wc.heap[gb257]? = some (.cells #[.int .i64 a0_0, .string a0_1, .string a0_2, .int .i64 a0_3, .int .u64 a0_4, .int .u64 a0_5, (.slice A0_6 l0_6.length c0_6), (.slice A0_7 l0_7.length c0_7)] 26 (0, 0))) ∧ Aside0 (Below w.heap.size w wc))
  case first =>
    have H := HC2.out
    clear HC2
    by_cases c5 : a0_0 = 1
    · rw [if_pos c5] at H
      have c5b0 : (a0_0 == 1) = true := beq_iff_eq.mpr c5
      have c5b1 : (a0_0 != 1) = false := bne_eq_false_iff_eq.mpr c5
      clear c5
      (first | rw [c5b0] | (simp only [i64_w, i32_w]; rw [c5b0]) | skip)
      as_aux_lemma =>
        have H' := Aside0.mk H
        clear H
        go_wp2
        go_meet
        case rel => exact ⟨_, ((a0_0 == 1)), (by first | rfl | (simp; done) | (simp [*]; done)), H', ⟨by first | omega | exact Nat.le_refl _⟩, ⟨by first | exact Kd.R_nil _ _ _ _ _ | exact Kd.N_nil _ _ _ _ _ | exact Kd.V_nil _ _ _ _ _ | exact Kd.Q_nil _ _ _ _ _ | exact Kd.S_nil _ _ _ _ _⟩, ⟨by (with_reducible repeat (first | refine blk_drewN ?_ _ | refine blk_drew ?_ | refine blk_alloc ?_ _)); exact BK257.out⟩, ⟨HW.zb⟩⟩
    rw [if_neg c5] at H
    have c5b0 : (a0_0 == 1) = false := beq_eq_false_iff_ne.mpr c5
    have c5b1 : (a0_0 != 1) = true := bne_iff_ne.mpr c5
    (first | rw [c5b0] | (simp only [i64_w, i32_w]; rw [c5b0]) | skip)
    as_aux_lemma =>
      have H' := Aside0.mk H
      clear H
      go_wp2
      go_meet
      case rel => exact ⟨_, ((a0_0 == 17)), (by first | rfl | (simp; done) | (simp [*]; done)), H', ⟨by first | omega | exact Nat.le_refl _⟩, ⟨by first | exact Kd.R_nil _ _ _ _ _ | exact Kd.N_nil _ _ _ _ _ | exact Kd.V_nil _ _ _ _ _ | exact Kd.Q_nil _ _ _ _ _ | exact Kd.S_nil _ _ _ _ _⟩, ⟨by (with_reducible repeat (first | refine blk_drewN ?_ _ | refine blk_drew ?_ | refine blk_alloc ?_ _)); exact BK257.out⟩, ⟨HW.zb⟩⟩
  case rest =>
    clear HC2
    try clear p2
    try clear c3
    try clear c5
    try clear c5b0
    try clear c5b1
    try clear hcz4_0
    try clear hcz4_1
    try clear hcz4_2
    try clear hcz4_3
    try clear hcz4_4
    try clear hcz4_5
    try clear hcz4_6
    try clear hcz4_7
    obtain ⟨kq, x9_1, rfl, HA, HJ1, HO_3, BK257, HB⟩ := hcut
    cases kq with
    | zero => exact absurd HA.out (by simp [spec_DocValue.j0])
    | succ kj1 =>
      have H := HA.out
      clear HA
      simp only [spec_DocValue.j0] at H
      by_cases c6 : x9_1 = true
      · subst c6
        have H1 : ((spec_DocInt64.f kj1 ([] : List Int) a0_4).bind fun t258 => (some t258)) = some r := by rw [if_pos rfl] at H; exact H
        clear H
        have H := H1
        clear H1
        replace H := Option.bind_eq_some_iff.mp H
        obtain ⟨t258, A70, H⟩ := H
        replace H : (some t258) = some r := H
        have A7 := Aside0.mk A70
        clear A70
        as_aux_lemma =>
          obtain rfl := Option.some.inj H
          have hcz8_0 := HW.zc BK257.out 0 (.int .i64 a0_0)
          have hcz8_1 := HW.zc BK257.out 1 (.string a0_1)
          have hcz8_2 := HW.zc BK257.out 2 (.string a0_2)
          have hcz8_3 := HW.zc BK257.out 3 (.int .i64 a0_3)
          have hcz8_4 := HW.zc BK257.out 4 (.int .u64 a0_4)
          have hcz8_5 := HW.zc BK257.out 5 (.int .u64 a0_5)
          have hcz8_6 := HW.zc BK257.out 6 (.slice A0_6 l0_6.length c0_6)
          have hcz8_7 := HW.zc BK257.out 7 (.slice A0_7 l0_7.length c0_7)
          go_wp2_with (first | ((with_reducible refine gate_callee (f := 41) rfl ?_); refine HW.gz (some 15) rfl rfl Tryd.func41 (by kernel_rfl) rfl #[.slice none 0 0, .int .u64 a0_4] rfl ?_; (with_reducible refine (spec_DocInt64.calls kj1 (fun k_ => some k_ = (.slice none 0 0 : Value).ownBlock) (.slice none 0 0) ([] : List Int) a0_4 t258 w _ ?side1 ?side2 A7.out).mono ?_); (case side1 => exact HW.zb); (case side2 => exact Kd.R_tight rfl HO_3.out); rintro e w9 ⟨v259, rfl, ho0, hb, hkp⟩; refine ⟨_, rfl, ?_⟩; have n0_ := Aside0.mk (blk_kept (HW.zB BK257.out) hkp (fun hs_ => (fun e_ => (Kd.R_ne HO_3.out BK257.out (by decide)) e_) hs_)); have n1_ := Aside0.mk (Kd.R_mono (ok' := fun k_ => True) ho0 (fun k_ hk_ => trivial)); have n2_ := Aside0.mk (hb); clear BK257; clear HB; clear HO_3; have BK257 := n0_; have HO260 := n1_; have HB := n2_; clear n0_ n1_ n2_; (try clear hb); (try clear hkp); (try clear ho0)))
          go_ret
          exact ⟨_, by first | rfl | (simp [errW_none, errW_some] <;> rfl) | (simp [*, errW_none, errW_some] <;> rfl), HW.zR HO260.out, HW.zb⟩
      replace c6 := Bool.eq_false_iff.mpr c6
      subst c6
      have H1 : (if a0_0 = 2 then (spec_DocValue.j1 kj1 ([] : List Int) a0_0 (a0_0 == 2) a0_0 a0_1 a0_2 a0_3 a0_4 a0_5 l0_6 l0_7) else (if a0_0 = 13 then (spec_DocValue.j1 kj1 ([] : List Int) a0_0 (a0_0 == 13) a0_0 a0_1 a0_2 a0_3 a0_4 a0_5 l0_6 l0_7) else (spec_DocValue.j1 kj1 ([] : List Int) a0_0 (a0_0 == 14) a0_0 a0_1 a0_2 a0_3 a0_4 a0_5 l0_6 l0_7))) = some r := by rw [if_neg (show ¬ (false = true) by decide)] at H; exact H
      clear H
      have H := H1
      clear H1
      have HC10 := Aside0.mk H
      clear H
      go_upto_if 16 with (fail)
      go_cut [16] (fun v16 wc => ∃ (kq : Nat) (x16_9 : Bool), v16 = .bool x16_9 ∧ Aside0 (spec_DocValue.j1 kq ([] : List Int) a0_0 x16_9 a0_0 a0_1 a0_2 a0_3 a0_4 a0_5 l0_6 l0_7 = some r) ∧ Aside0 (kq ≤ kj1) ∧ Aside0 (Kd.R (Kd.int .u8) 5 wc w.heap.size (fun _ => True) (.slice none 0 0) ([] : List Int)) ∧ Aside0 (wc.heap[gb257]? = some (.cells #[.int .i64 a0_0, .string a0_1, .string a0_2, .int .i64 a0_3, .int .u64 a0_4, .int .u64 a0_5, (.slice A0_6 l0_6.length c0_6), (.slice A0_7 l0_7.length c0_7)] 26 (0, 0))) ∧ Aside0 (Below w.heap.size w wc))
      case first =>
        have H := HC10.out
        clear HC10
        by_cases c11 : a0_0 = 2
        · rw [if_pos c11] at H
          have c11b0 : (a0_0 == 2) = true := beq_iff_eq.mpr c11
          have c11b1 : (a0_0 != 2) = false := bne_eq_false_iff_eq.mpr c11
          clear c11
          (first | rw [c11b0] | (simp only [i64_w, i32_w]; rw [c11b0]) | skip)
          as_aux_lemma =>
            have H' := Aside0.mk H
            clear H
            go_wp2
            go_meet
            case rel => exact ⟨_, ((a0_0 == 2)), (by first | rfl | (simp; done) | (simp [*]; done)), H', ⟨by have := HJ1.out; first | omega | exact Nat.le_refl _⟩, ⟨HW.zR HO_3.out⟩, ⟨by (with_reducible repeat (first | refine blk_drewN ?_ _ | refine blk_drew ?_ | refine blk_alloc ?_ _)); exact BK257.out⟩, ⟨HW.zb⟩⟩
        rw [if_neg c11] at H
        have c11b0 : (a0_0 == 2) = false := beq_eq_false_iff_ne.mpr c11
        have c11b1 : (a0_0 != 2) = true := bne_iff_ne.mpr c11
        (first | rw [c11b0] | (simp only [i64_w, i32_w]; rw [c11b0]) | skip)
        by_cases c12 : a0_0 = 13
        · rw [if_pos c12] at H
          have c12b0 : (a0_0 == 13) = true := beq_iff_eq.mpr c12
          have c12b1 : (a0_0 != 13) = false := bne_eq_false_iff_eq.mpr c12
          clear c12
          as_aux_lemma =>
            have H' := Aside0.mk H
            clear H
            go_wp2
            go_meet
            case rel => exact ⟨_, ((a0_0 == 13)), (by first | rfl | (simp; done) | (simp [*]; done)), H', ⟨by have := HJ1.out; first | omega | exact Nat.le_refl _⟩, ⟨HW.zR HO_3.out⟩, ⟨by (with_reducible repeat (first | refine blk_drewN ?_ _ | refine blk_drew ?_ | refine blk_alloc ?_ _)); exact BK257.out⟩, ⟨HW.zb⟩⟩
        rw [if_neg c12] at H
        have c12b0 : (a0_0 == 13) = false := beq_eq_false_iff_ne.mpr c12
        have c12b1 : (a0_0 != 13) = true := bne_iff_ne.mpr c12
        as_aux_lemma =>
          have H' := Aside0.mk H
          clear H
          go_wp2
          go_meet
          case rel => exact ⟨_, ((a0_0 == 14)), (by first | rfl | (simp; done) | (simp [*]; done)), H', ⟨by have := HJ1.out; first | omega | exact Nat.le_refl _⟩, ⟨HW.zR HO_3.out⟩, ⟨by (with_reducible repeat (first | refine blk_drewN ?_ _ | refine blk_drew ?_ | refine blk_alloc ?_ _)); exact BK257.out⟩, ⟨HW.zb⟩⟩
      case rest =>
        clear HC10
        try clear c1
        try clear p2
        try clear c3
        try clear c4
        try clear c5
        try clear c5b0
        try clear c5b1
        try clear c6
        try clear c11
        try clear c11b0
        try clear c11b1
        try clear c12
        try clear c12b0
        try clear c12b1
        try clear hcz4_0
        try clear hcz4_1
        try clear hcz4_2
        try clear hcz4_3
        try clear hcz4_4
        try clear hcz4_5
        try clear hcz4_6
        try clear hcz4_7
        try clear hcz8_0
        try clear hcz8_1
        try clear hcz8_2
        try clear hcz8_3
        try clear hcz8_4
        try clear hcz8_5
        try clear hcz8_6
        try clear hcz8_7
        try clear p2
        obtain ⟨kq, x16_9, rfl, HA, HJ9, HO_3, BK257, HB⟩ := hcut
        cases kq with
        | zero => exact absurd HA.out (by simp [spec_DocValue.j1])
        | succ kj9 =>
          have H := HA.out
          clear HA
          simp only [spec_DocValue.j1] at H
          by_cases c13 : x16_9 = true
          · subst c13
            have H1 : ((spec_docText.f ([] : List Int) a0_1).bind fun t261 => (some t261)) = some r := by rw [if_pos rfl] at H; exact H
            clear H
            have H := H1
            clear H1
            replace H := Option.bind_eq_some_iff.mp H
            obtain ⟨t261, A140, H⟩ := H
            replace H : (some t261) = some r := H
            have A14 := Aside0.mk A140
            clear A140
            as_aux_lemma =>
              obtain rfl := Option.some.inj H
              have hcz15_0 := HW.zc BK257.out 0 (.int .i64 a0_0)
              have hcz15_1 := HW.zc BK257.out 1 (.string a0_1)
              have hcz15_2 := HW.zc BK257.out 2 (.string a0_2)
              have hcz15_3 := HW.zc BK257.out 3 (.int .i64 a0_3)
              have hcz15_4 := HW.zc BK257.out 4 (.int .u64 a0_4)
              have hcz15_5 := HW.zc BK257.out 5 (.int .u64 a0_5)
              have hcz15_6 := HW.zc BK257.out 6 (.slice A0_6 l0_6.length c0_6)
              have hcz15_7 := HW.zc BK257.out 7 (.slice A0_7 l0_7.length c0_7)
              go_wp2_with (first | ((with_reducible refine gate_callee (f := 42) rfl ?_); refine HW.gz (some 23) rfl rfl Tryd.func42 (by kernel_rfl) rfl #[.slice none 0 0, .string a0_1] rfl ?_; (with_reducible refine (spec_docText.calls (fun k_ => some k_ = (.slice none 0 0 : Value).ownBlock) (.slice none 0 0) ([] : List Int) a0_1 t261 w _ ?side1 ?side2 A14.out).mono ?_); (case side1 => exact HW.zb); (case side2 => exact Kd.R_tight rfl HO_3.out); rintro e w16 ⟨v262, rfl, ho0, hb, hkp⟩; refine ⟨_, rfl, ?_⟩; have n0_ := Aside0.mk (blk_kept (HW.zB BK257.out) hkp (fun hs_ => (fun e_ => (Kd.R_ne HO_3.out BK257.out (by decide)) e_) hs_)); have n1_ := Aside0.mk (Kd.R_mono (ok' := fun k_ => True) ho0 (fun k_ hk_ => trivial)); have n2_ := Aside0.mk (hb); clear BK257; clear HB; clear HO_3; have BK257 := n0_; have HO263 := n1_; have HB := n2_; clear n0_ n1_ n2_; (try clear hb); (try clear hkp); (try clear ho0)))
              go_ret
              exact ⟨_, by first | rfl | (simp [errW_none, errW_some] <;> rfl) | (simp [*, errW_none, errW_some] <;> rfl), HW.zR HO263.out, HW.zb⟩
          replace c13 := Bool.eq_false_iff.mpr c13
          subst c13
          have H1 : (if a0_0 = 3 then (spec_DocValue.j2 kj9 ([] : List Int) a0_0 (a0_0 == 3) a0_0 a0_1 a0_2 a0_3 a0_4 a0_5 l0_6 l0_7) else (spec_DocValue.j2 kj9 ([] : List Int) a0_0 (a0_0 == 4) a0_0 a0_1 a0_2 a0_3 a0_4 a0_5 l0_6 l0_7)) = some r := by rw [if_neg (show ¬ (false = true) by decide)] at H; exact H
          clear H
          have H := H1
          clear H1
          have HC17 := Aside0.mk H
          clear H
          go_upto_if 24 with (fail)
          go_cut [24] (fun v24 wc => ∃ (kq : Nat) (x24_16 : Bool), v24 = .bool x24_16 ∧ Aside0 (spec_DocValue.j2 kq ([] : List Int) a0_0 x24_16 a0_0 a0_1 a0_2 a0_3 a0_4 a0_5 l0_6 l0_7 = some r) ∧ Aside0 (kq ≤ kj9) ∧ Aside0 (Kd.R (Kd.int .u8) 5 wc w.heap.size (fun _ => True) (.slice none 0 0) ([] : List Int)) ∧ Aside0 (wc.heap[gb257]? = some (.cells #[.int .i64 a0_0, .string a0_1, .string a0_2, .int .i64 a0_3, .int .u64 a0_4, .int .u64 a0_5, (.slice A0_6 l0_6.length c0_6), (.slice A0_7 l0_7.length c0_7)] 26 (0, 0))) ∧ Aside0 (Below w.heap.size w wc))
          case first =>
            have H := HC17.out
            clear HC17
            by_cases c18 : a0_0 = 3
            · rw [if_pos c18] at H
              have c18b0 : (a0_0 == 3) = true := beq_iff_eq.mpr c18
              have c18b1 : (a0_0 != 3) = false := bne_eq_false_iff_eq.mpr c18
              clear c18
              (first | rw [c18b0] | (simp only [i64_w, i32_w]; rw [c18b0]) | skip)
              as_aux_lemma =>
                have H' := Aside0.mk H
                clear H
                go_wp2
                go_meet
                case rel => exact ⟨_, ((a0_0 == 3)), (by first | rfl | (simp; done) | (simp [*]; done)), H', ⟨by have := HJ1.out; have := HJ9.out; first | omega | exact Nat.le_refl _⟩, ⟨HW.zR HO_3.out⟩, ⟨by (with_reducible repeat (first | refine blk_drewN ?_ _ | refine blk_drew ?_ | refine blk_alloc ?_ _)); exact BK257.out⟩, ⟨HW.zb⟩⟩
            rw [if_neg c18] at H
            have c18b0 : (a0_0 == 3) = false := beq_eq_false_iff_ne.mpr c18
            have c18b1 : (a0_0 != 3) = true := bne_iff_ne.mpr c18
            (first | rw [c18b0] | (simp only [i64_w, i32_w]; rw [c18b0]) | skip)
            as_aux_lemma =>
              have H' := Aside0.mk H
              clear H
              go_wp2
              go_meet
              case rel => exact ⟨_, ((a0_0 == 4)), (by first | rfl | (simp; done) | (simp [*]; done)), H', ⟨by have := HJ1.out; have := HJ9.out; first | omega | exact Nat.le_refl _⟩, ⟨HW.zR HO_3.out⟩, ⟨by (with_reducible repeat (first | refine blk_drewN ?_ _ | refine blk_drew ?_ | refine blk_alloc ?_ _)); exact BK257.out⟩, ⟨HW.zb⟩⟩
          case rest =>
            clear HC17
            try clear c1
            try clear p2
            try clear c3
            try clear c4
            try clear c5
            try clear c5b0
            try clear c5b1
            try clear c6
            try clear c11
            try clear c11b0
            try clear c11b1
            try clear c12
            try clear c12b0
            try clear c12b1
            try clear c13
            try clear c18
            try clear c18b0
            try clear c18b1
            try clear hcz15_0
            try clear hcz15_1
            try clear hcz15_2
            try clear hcz15_3
            try clear hcz15_4
            try clear hcz15_5
            try clear hcz15_6
            try clear hcz15_7
            try clear hcz4_0
            try clear hcz4_1
            try clear hcz4_2
            try clear hcz4_3
            try clear hcz4_4
            try clear hcz4_5
            try clear hcz4_6
            try clear hcz4_7
            try clear hcz8_0
            try clear hcz8_1
            try clear hcz8_2
            try clear hcz8_3
            try clear hcz8_4
            try clear hcz8_5
            try clear hcz8_6
            try clear hcz8_7
            try clear p2
            obtain ⟨kq, x24_16, rfl, HA, HJ16, HO_3, BK257, HB⟩ := hcut
            cases kq with
            | zero => exact absurd HA.out (by simp [spec_DocValue.j2])
            | succ kj16 =>
              have H := HA.out
              clear HA
              simp only [spec_DocValue.j2] at H
              by_cases c19 : x24_16 = true
              · subst c19
                have H1 : ((spec_DocBytes.f kj16 l0_7).bind fun t264 => (some t264)) = some r := by rw [if_pos rfl] at H; exact H
                clear H
                have H := H1
                clear H1
                replace H := Option.bind_eq_some_iff.mp H
                obtain ⟨t264, A200, H⟩ := H
                replace H : (some t264) = some r := H
                have A20 := Aside0.mk A200
                clear A200
                as_aux_lemma =>
                  obtain rfl := Option.some.inj H
                  have hcz21_0 := HW.zc BK257.out 0 (.int .i64 a0_0)
                  have hcz21_1 := HW.zc BK257.out 1 (.string a0_1)
                  have hcz21_2 := HW.zc BK257.out 2 (.string a0_2)
                  have hcz21_3 := HW.zc BK257.out 3 (.int .i64 a0_3)
                  have hcz21_4 := HW.zc BK257.out 4 (.int .u64 a0_4)
                  have hcz21_5 := HW.zc BK257.out 5 (.int .u64 a0_5)
                  have hcz21_6 := HW.zc BK257.out 6 (.slice A0_6 l0_6.length c0_6)
                  have hcz21_7 := HW.zc BK257.out 7 (.slice A0_7 l0_7.length c0_7)
                  go_wp2_with (first | ((with_reducible refine gate_callee (f := 10) rfl ?_); refine HW.gz (some 29) rfl rfl Tryd.func10 (by kernel_rfl) rfl #[.slice A0_7 l0_7.length c0_7] rfl ?_; (with_reducible refine (Grp_spec_DocValue.get2 (ih kj16 (by have := HJ1.out; have := HJ9.out; have := HJ16.out; omega)) _ _ l0_7 t264 _ ?side1 ?side2 A20.out).mono ?_); (case side1 => repeat (first | exact (Kd.C_below HR0_7.out HB.out) | (with_reducible refine Kd.C_alloc ?_ _) | (with_reducible refine Kd.C_drewN ?_ _) | (with_reducible refine Kd.C_drew ?_))); (case side2 => exact HC0_7.out); rintro e w22 ⟨v265, rfl, ho0, hb⟩; refine ⟨_, rfl, ?_⟩; have n0_ := Aside0.mk (Kd.R_elder' (HW.zR HO_3.out) (Kd.R_base ho0) hb); have n1_ := Aside0.mk (Kd.R_lower (Kd.R_new' ho0 (Kd.R_lt (HW.zR HO_3.out))) (below_size HW.zb)); have n2_ := Aside0.mk (blk_below (g := gb257) (o := .cells #[.int .i64 a0_0, .string a0_1, .string a0_2, .int .i64 a0_3, .int .u64 a0_4, .int .u64 a0_5, .slice A0_6 l0_6.length c0_6, .slice A0_7 l0_7.length c0_7] 26 (0, 0)) (HW.zB BK257.out) hb); have n3_ := Aside0.mk (below_step HW.zb hb); clear HO_3; clear BK257; clear HB; have HO_3 := n0_; have HO266 := n1_; have BK257 := n2_; have HB := n3_; clear n0_ n1_ n2_ n3_; (try clear hb); (try clear hb2); (try clear hk); (try clear hi); (try clear ho0)))
                  go_ret
                  exact ⟨_, by first | rfl | (simp [errW_none, errW_some] <;> rfl) | (simp [*, errW_none, errW_some] <;> rfl), by (with_reducible repeat (first | apply Kd.R_alloc | apply Kd.R_drewN | apply Kd.R_drew)); exact Kd.R_mono HO266.out (fun _ hk => trivial), HW.zb⟩
              replace c19 := Bool.eq_false_iff.mpr c19
              subst c19
              have H1 : (if a0_0 = 5 then (if a0_3 = 2 then ((spec_DocInt32.f ([] : List Int) (wrap64 ((l0_6.length : Int) + 4))).bind fun t267 => (if t267.length < 140737488355328 then ((spec_DocInt32.f (t267 ++ [2]) (l0_6.length : Int)).bind fun t273 => (if t273.length + l0_6.length < 140737488355328 then (some (t273 ++ l0_6)) else (none))) else (none))) else ((spec_DocInt32.f ([] : List Int) (l0_6.length : Int)).bind fun t279 => (if t279.length < 140737488355328 then ((some (t279 ++ [(a0_3) % 256] : List Int)).bind fun y282 => (if y282.length + l0_6.length < 140737488355328 then (some (y282 ++ l0_6)) else (none))) else (none)))) else (if a0_0 = 7 then (if ([] : List Int).length + l0_6.length < 140737488355328 then (some (([] : List Int) ++ l0_6)) else (none)) else (if a0_0 = 8 then (if ([] : List Int).length < 140737488355328 then (some (([] : List Int) ++ [(a0_3) % 256])) else (none)) else (if a0_0 = 9 then (spec_DocValue.j3 kj16 ([] : List Int) a0_0 (a0_0 == 9) a0_0 a0_1 a0_2 a0_3 a0_4 a0_5 l0_6 l0_7) else (spec_DocValue.j3 kj16 ([] : List Int) a0_0 (a0_0 == 18) a0_0 a0_1 a0_2 a0_3 a0_4 a0_5 l0_6 l0_7))))) = some r := by rw [if_neg (show ¬ (false = true) by decide)] at H; exact H
              clear H
              have H := H1
              clear H1
              by_cases c23 : a0_0 = 5
              · rw [if_pos c23] at H
                have c23b0 : (a0_0 == 5) = true := beq_iff_eq.mpr c23
                have c23b1 : (a0_0 != 5) = false := bne_eq_false_iff_eq.mpr c23
                clear c23
                by_cases c24 : a0_3 = 2
                rotate_left
                · rw [if_neg c24] at H
                  have c24b0 : (a0_3 == 2) = false := beq_eq_false_iff_ne.mpr c24
                  have c24b1 : (a0_3 != 2) = true := bne_iff_ne.mpr c24
                  replace H := Option.bind_eq_some_iff.mp H
                  obtain ⟨t279, A360, H⟩ := H
                  replace H : (if t279.length < 140737488355328 then ((some (t279 ++ [(a0_3) % 256] : List Int)).bind fun y282 => (if y282.length + l0_6.length < 140737488355328 then (some (y282 ++ l0_6)) else (none))) else (none)) = some r := H
                  have A36 := Aside0.mk A360
                  clear A360
                  by_cases c37 : t279.length < 140737488355328
                  rotate_left
                  · rw [if_neg c37] at H
                    exact absurd H (by simp)
                  rw [if_pos c37] at H
                  have LMc37 := Aside0.mk c37
                  clear c37
                  obtain ⟨y282, hy282⟩ : ∃ y_ : List Int, y_ = (t279 ++ [(a0_3) % 256]) := ⟨_, rfl⟩
                  replace H : (if y282.length + l0_6.length < 140737488355328 then (some (y282 ++ l0_6)) else (none)) = some r := by first | (rw [hy282]; with_reducible exact H) | (have H2_ := (Option.bind_some _ _).symm.trans H; rw [hy282]; with_reducible exact H2_) | (have H2_ := (Option.bind_some _ _).symm.trans H; with_reducible exact H2_) | with_reducible exact H | (rw [hy282]; exact H) | exact H
                  have Ny282 := Aside0.mk hy282
                  clear hy282
                  by_cases c38 : y282.length + l0_6.length < 140737488355328
                  rotate_left
                  · rw [if_neg c38] at H
                    exact absurd H (by simp)
                  rw [if_pos c38] at H
                  have LMc38 := Aside0.mk c38
                  clear c38
                  obtain ⟨y285, hy285⟩ : ∃ y_ : List Int, y_ = (y282 ++ l0_6) := ⟨_, rfl⟩
                  replace H : (some y285) = some r := by first | (rw [hy285]; with_reducible exact H) | (have H2_ := (Option.bind_some _ _).symm.trans H; rw [hy285]; with_reducible exact H2_) | (have H2_ := (Option.bind_some _ _).symm.trans H; with_reducible exact H2_) | with_reducible exact H | (rw [hy285]; exact H) | exact H
                  have Ny285 := Aside0.mk hy285
                  clear hy285
                  as_aux_lemma =>
                    obtain rfl := Option.some.inj H
                    have hcz39_0 := HW.zc BK257.out 0 (.int .i64 a0_0)
                    have hcz39_1 := HW.zc BK257.out 1 (.string a0_1)
                    have hcz39_2 := HW.zc BK257.out 2 (.string a0_2)
                    have hcz39_3 := HW.zc BK257.out 3 (.int .i64 a0_3)
                    have hcz39_4 := HW.zc BK257.out 4 (.int .u64 a0_4)
                    have hcz39_5 := HW.zc BK257.out 5 (.int .u64 a0_5)
                    have hcz39_6 := HW.zc BK257.out 6 (.slice A0_6 l0_6.length c0_6)
                    have hcz39_7 := HW.zc BK257.out 7 (.slice A0_7 l0_7.length c0_7)
                    go_wp2_with (first | ((with_reducible refine gate_callee (f := 21) rfl ?_); refine HW.gz (some 50) rfl rfl Tryd.func21 (by kernel_rfl) rfl #[.slice none 0 0, .int .i64 (l0_6.length : Int)] rfl ?_; (with_reducible refine (spec_DocInt32.calls (fun k_ => some k_ = (.slice none 0 0 : Value).ownBlock) (.slice none 0 0) ([] : List Int) (l0_6.length : Int) t279 w _ ?side1 ?side2 A36.out).mono ?_); (case side1 => exact HW.zb); (case side2 => exact Kd.R_tight rfl HO_3.out); rintro e w40 ⟨v280, rfl, ho0, hb, hkp⟩; refine ⟨_, rfl, ?_⟩; have n0_ := Aside0.mk (blk_kept (HW.zB BK257.out) hkp (fun hs_ => (fun e_ => (Kd.R_ne HO_3.out BK257.out (by decide)) e_) hs_)); have n1_ := Aside0.mk (Kd.R_mono (ok' := fun k_ => True) ho0 (fun k_ hk_ => trivial)); have n2_ := Aside0.mk (hb); clear BK257; clear HB; clear HO_3; have BK257 := n0_; have HO281 := n1_; have HB := n2_; clear n0_ n1_ n2_; (try clear hb); (try clear hkp); (try clear ho0); have hcz41_0 := HW.zc BK257.out 0 (.int .i64 a0_0); have hcz41_1 := HW.zc BK257.out 1 (.string a0_1); have hcz41_2 := HW.zc BK257.out 2 (.string a0_2); have hcz41_3 := HW.zc BK257.out 3 (.int .i64 a0_3); have hcz41_4 := HW.zc BK257.out 4 (.int .u64 a0_4); have hcz41_5 := HW.zc BK257.out 5 (.int .u64 a0_5); have hcz41_6 := HW.zc BK257.out 6 (.slice A0_6 l0_6.length c0_6); have hcz41_7 := HW.zc BK257.out 7 (.slice A0_7 l0_7.length c0_7)) | ((with_reducible refine gate_builtin (b := .append) (xs := #[.tmp 51, .tmp 55]) rfl ?_); at_builtin; refine Kd.R_append (Kd.int .u8) (w0 := w) w.heap.size rfl (.tmp 51) (.tmp 55) 23 5 (.int .u8 0) 1 rfl Tryd.underlying23 info5 rfl (by decide) (by omega) v280 t279 ((a0_3) % 256) [.int .u8 ((a0_3) % 256)] (fun _ => True) (fun _ => False) rfl rfl ?aP (fun _ hk => hk.elim) ?aF ?aO ?aB ?aS ?aL ?_; (case aP => exact rfl); (case aB => exact HW.zb); (case aF => exact (fun _ _ => trivial)); (case aO => exact (HW.zR HO281.out)); (case aS => exact (below_size HW.zb)); (case aL => have := LMc37.out; omega); intro v283 w42 ho hb hg hat; rw [← Ny282.out] at ho; have n0_ := Aside0.mk (blk_grown (g := gb257) (o := .cells #[.int .i64 a0_0, .string a0_1, .string a0_2, .int .i64 a0_3, .int .u64 a0_4, .int .u64 a0_5, .slice A0_6 l0_6.length c0_6, .slice A0_7 l0_7.length c0_7] 26 (0, 0)) (HW.zB BK257.out) hg (Kd.R_ne HO281.out BK257.out (by decide))); have n1_ := Aside0.mk (hb); have n2_ := Aside0.mk (ho); clear BK257; clear HB; clear HO281; have BK257 := n0_; have HB := n1_; have HO284 := n2_; clear n0_ n1_ n2_; clear ho hb hg hat; have hcz43_0 := HW.zc BK257.out 0 (.int .i64 a0_0); have hcz43_1 := HW.zc BK257.out 1 (.string a0_1); have hcz43_2 := HW.zc BK257.out 2 (.string a0_2); have hcz43_3 := HW.zc BK257.out 3 (.int .i64 a0_3); have hcz43_4 := HW.zc BK257.out 4 (.int .u64 a0_4); have hcz43_5 := HW.zc BK257.out 5 (.int .u64 a0_5); have hcz43_6 := HW.zc BK257.out 6 (.slice A0_6 l0_6.length c0_6); have hcz43_7 := HW.zc BK257.out 7 (.slice A0_7 l0_7.length c0_7)) | ((with_reducible refine gate_builtin (b := .append) (xs := #[.tmp 57, .tmp 59]) rfl ?_); at_builtin; refine Kd.R_append_rows (Kd.int .u8) (w0 := w) w.heap.size rfl (.tmp 57) (.tmp 59) 23 5 (.int .u8 0) 1 rfl Tryd.underlying23 info5 rfl (by decide) (by omega) v283 y282 l0_6 _ _ _ (fun _ => True) (fun _ => False) rfl rfl ?aO ?aR (fun _ _ h => h) (fun _ h => h.elim) ?aF ?aB ?aS ?aL ?_; (case aR => repeat (first | exact (Kd.C_below HR0_6.out HB.out) | (with_reducible refine Kd.C_alloc ?_ _) | (with_reducible refine Kd.C_drewN ?_ _) | (with_reducible refine Kd.C_drew ?_))); (case aB => exact HW.zb); (case aF => exact (fun _ _ => trivial)); (case aO => exact (HW.zR HO284.out)); (case aS => exact (below_size HW.zb)); (case aL => have := LMc38.out; omega); intro v286 w44 ho hb hg hat; rw [← Ny285.out] at ho; have n0_ := Aside0.mk (blk_grown (g := gb257) (o := .cells #[.int .i64 a0_0, .string a0_1, .string a0_2, .int .i64 a0_3, .int .u64 a0_4, .int .u64 a0_5, .slice A0_6 l0_6.length c0_6, .slice A0_7 l0_7.length c0_7] 26 (0, 0)) (HW.zB BK257.out) hg (Kd.R_ne HO284.out BK257.out (by decide))); have n1_ := Aside0.mk (hb); have n2_ := Aside0.mk (ho); clear BK257; clear HB; clear HO284; have BK257 := n0_; have HB := n1_; have HO287 := n2_; clear n0_ n1_ n2_; clear ho hb hg hat))
                    go_ret
                    exact ⟨_, by first | rfl | (simp [errW_none, errW_some] <;> rfl) | (simp [*, errW_none, errW_some] <;> rfl), HW.zR HO287.out, HW.zb⟩
                rw [if_pos c24] at H
                have c24b0 : (a0_3 == 2) = true := beq_iff_eq.mpr c24
                have c24b1 : (a0_3 != 2) = false := bne_eq_false_iff_eq.mpr c24
                clear c24
                replace H := Option.bind_eq_some_iff.mp H
                obtain ⟨t267, A250, H⟩ := H
                replace H : (if t267.length < 140737488355328 then ((spec_DocInt32.f (t267 ++ [2]) (l0_6.length : Int)).bind fun t273 => (if t273.length + l0_6.length < 140737488355328 then (some (t273 ++ l0_6)) else (none))) else (none)) = some r := H
                have A25 := Aside0.mk A250
                clear A250
                by_cases c26 : t267.length < 140737488355328
                rotate_left
                · rw [if_neg c26] at H
                  exact absurd H (by simp)
                rw [if_pos c26] at H
                have LMc26 := Aside0.mk c26
                clear c26
                obtain ⟨y270, hy270⟩ : ∃ y_ : List Int, y_ = (t267 ++ [2]) := ⟨_, rfl⟩
                replace H : ((spec_DocInt32.f y270 (l0_6.length : Int)).bind fun t273 => (if t273.length + l0_6.length < 140737488355328 then (some (t273 ++ l0_6)) else (none))) = some r := by first | (rw [hy270]; with_reducible exact H) | (have H2_ := (Option.bind_some _ _).symm.trans H; rw [hy270]; with_reducible exact H2_) | (have H2_ := (Option.bind_some _ _).symm.trans H; with_reducible exact H2_) | with_reducible exact H | (rw [hy270]; exact H) | exact H
                have Ny270 := Aside0.mk hy270
                clear hy270
                replace H := Option.bind_eq_some_iff.mp H
                obtain ⟨t273, A270, H⟩ := H
                replace H : (if t273.length + l0_6.length < 140737488355328 then (some (t273 ++ l0_6)) else (none)) = some r := H
                have A27 := Aside0.mk A270
                clear A270
                by_cases c28 : t273.length + l0_6.length < 140737488355328
                rotate_left
                · rw [if_neg c28] at H
                  exact absurd H (by simp)
                rw [if_pos c28] at H
                have LMc28 := Aside0.mk c28
                clear c28
                obtain ⟨y276, hy276⟩ : ∃ y_ : List Int, y_ = (t273 ++ l0_6) := ⟨_, rfl⟩
                replace H : (some y276) = some r := by first | (rw [hy276]; with_reducible exact H) | (have H2_ := (Option.bind_some _ _).symm.trans H; rw [hy276]; with_reducible exact H2_) | (have H2_ := (Option.bind_some _ _).symm.trans H; with_reducible exact H2_) | with_reducible exact H | (rw [hy276]; exact H) | exact H
                have Ny276 := Aside0.mk hy276
                clear hy276
                as_aux_lemma =>
                  obtain rfl := Option.some.inj H
                  have hcz29_0 := HW.zc BK257.out 0 (.int .i64 a0_0)
                  have hcz29_1 := HW.zc BK257.out 1 (.string a0_1)
                  have hcz29_2 := HW.zc BK257.out 2 (.string a0_2)
                  have hcz29_3 := HW.zc BK257.out 3 (.int .i64 a0_3)
                  have hcz29_4 := HW.zc BK257.out 4 (.int .u64 a0_4)
                  have hcz29_5 := HW.zc BK257.out 5 (.int .u64 a0_5)
                  have hcz29_6 := HW.zc BK257.out 6 (.slice A0_6 l0_6.length c0_6)
                  have hcz29_7 := HW.zc BK257.out 7 (.slice A0_7 l0_7.length c0_7)
                  go_wp2_with (first | ((with_reducible refine gate_callee (f := 21) rfl ?_); refine HW.gz (some 41) rfl rfl Tryd.func21 (by kernel_rfl) rfl #[.slice none 0 0, .int .i64 (wrap64 ((l0_6.length : Int) + 4))] rfl ?_; (with_reducible refine (spec_DocInt32.calls (fun k_ => some k_ = (.slice none 0 0 : Value).ownBlock) (.slice none 0 0) ([] : List Int) (wrap64 ((l0_6.length : Int) + 4)) t267 w _ ?side1 ?side2 A25.out).mono ?_); (case side1 => exact HW.zb); (case side2 => exact Kd.R_tight rfl HO_3.out); rintro e w30 ⟨v268, rfl, ho0, hb, hkp⟩; refine ⟨_, rfl, ?_⟩; have n0_ := Aside0.mk (blk_kept (HW.zB BK257.out) hkp (fun hs_ => (fun e_ => (Kd.R_ne HO_3.out BK257.out (by decide)) e_) hs_)); have n1_ := Aside0.mk (Kd.R_mono (ok' := fun k_ => True) ho0 (fun k_ hk_ => trivial)); have n2_ := Aside0.mk (hb); clear BK257; clear HB; clear HO_3; have BK257 := n0_; have HO269 := n1_; have HB := n2_; clear n0_ n1_ n2_; (try clear hb); (try clear hkp); (try clear ho0)) | ((with_reducible refine gate_builtin (b := .append) (xs := #[.tmp 42, .tmp 43]) rfl ?_); at_builtin; refine Kd.R_append (Kd.int .u8) (w0 := w) w.heap.size rfl (.tmp 42) (.tmp 43) 23 5 (.int .u8 0) 1 rfl Tryd.underlying23 info5 rfl (by decide) (by omega) v268 t267 2 [.int .u8 2] (fun _ => True) (fun _ => False) rfl rfl ?aP (fun _ hk => hk.elim) ?aF ?aO ?aB ?aS ?aL ?_; (case aP => exact rfl); (case aB => exact HW.zb); (case aF => exact (fun _ _ => trivial)); (case aO => exact (HW.zR HO269.out)); (case aS => exact (below_size HW.zb)); (case aL => have := LMc26.out; omega); intro v271 w31 ho hb hg hat; rw [← Ny270.out] at ho; have n0_ := Aside0.mk (blk_grown (g := gb257) (o := .cells #[.int .i64 a0_0, .string a0_1, .string a0_2, .int .i64 a0_3, .int .u64 a0_4, .int .u64 a0_5, .slice A0_6 l0_6.length c0_6, .slice A0_7 l0_7.length c0_7] 26 (0, 0)) (HW.zB BK257.out) hg (Kd.R_ne HO269.out BK257.out (by decide))); have n1_ := Aside0.mk (hb); have n2_ := Aside0.mk (ho); clear BK257; clear HB; clear HO269; have BK257 := n0_; have HB := n1_; have HO272 := n2_; clear n0_ n1_ n2_; clear ho hb hg hat; obtain ⟨Ao32, co32, eo32⟩ := Kd.R_slice HO272.out; subst eo32) | ((with_reducible refine gate_callee (f := 21) rfl ?_); refine HW.gz (some 47) rfl rfl Tryd.func21 (by kernel_rfl) rfl #[.slice Ao32 y270.length co32, .int .i64 (l0_6.length : Int)] rfl ?_; (with_reducible refine (spec_DocInt32.calls (fun k_ => some k_ = (.slice Ao32 y270.length co32 : Value).ownBlock) (.slice Ao32 y270.length co32) y270 (l0_6.length : Int) t273 w _ ?side1 ?side2 A27.out).mono ?_); (case side1 => exact HW.zb); (case side2 => exact Kd.R_tight rfl HO272.out); rintro e w33 ⟨v274, rfl, ho0, hb, hkp⟩; refine ⟨_, rfl, ?_⟩; have n0_ := Aside0.mk (blk_kept (HW.zB BK257.out) hkp (fun hs_ => (fun e_ => (Kd.R_ne HO272.out BK257.out (by decide)) e_) hs_)); have n1_ := Aside0.mk (Kd.R_mono (ok' := fun k_ => True) ho0 (fun k_ hk_ => trivial)); have n2_ := Aside0.mk (hb); clear BK257; clear HB; clear HO272; have BK257 := n0_; have HO275 := n1_; have HB := n2_; clear n0_ n1_ n2_; (try clear hb); (try clear hkp); (try clear ho0); have hcz34_0 := HW.zc BK257.out 0 (.int .i64 a0_0); have hcz34_1 := HW.zc BK257.out 1 (.string a0_1); have hcz34_2 := HW.zc BK257.out 2 (.string a0_2); have hcz34_3 := HW.zc BK257.out 3 (.int .i64 a0_3); have hcz34_4 := HW.zc BK257.out 4 (.int .u64 a0_4); have hcz34_5 := HW.zc BK257.out 5 (.int .u64 a0_5); have hcz34_6 := HW.zc BK257.out 6 (.slice A0_6 l0_6.length c0_6); have hcz34_7 := HW.zc BK257.out 7 (.slice A0_7 l0_7.length c0_7)) | ((with_reducible refine gate_builtin (b := .append) (xs := #[.tmp 57, .tmp 59]) rfl ?_); at_builtin; refine Kd.R_append_rows (Kd.int .u8) (w0 := w) w.heap.size rfl (.tmp 57) (.tmp 59) 23 5 (.int .u8 0) 1 rfl Tryd.underlying23 info5 rfl (by decide) (by omega) v274 t273 l0_6 _ _ _ (fun _ => True) (fun _ => False) rfl rfl ?aO ?aR (fun _ _ h => h) (fun _ h => h.elim) ?aF ?aB ?aS ?aL ?_; (case aR => repeat (first | exact (Kd.C_below HR0_6.out HB.out) | (with_reducible refine Kd.C_alloc ?_ _) | (with_reducible refine Kd.C_drewN ?_ _) | (with_reducible refine Kd.C_drew ?_))); (case aB => exact HW.zb); (case aF => exact (fun _ _ => trivial)); (case aO => exact (HW.zR HO275.out)); (case aS => exact (below_size HW.zb)); (case aL => have := LMc28.out; omega); intro v277 w35 ho hb hg hat; rw [← Ny276.out] at ho; have n0_ := Aside0.mk (blk_grown (g := gb257) (o := .cells #[.int .i64 a0_0, .string a0_1, .string a0_2, .int .i64 a0_3, .int .u64 a0_4, .int .u64 a0_5, .slice A0_6 l0_6.length c0_6, .slice A0_7 l0_7.length c0_7] 26 (0, 0)) (HW.zB BK257.out) hg (Kd.R_ne HO275.out BK257.out (by decide))); have n1_ := Aside0.mk (hb); have n2_ := Aside0.mk (ho); clear BK257; clear HB; clear HO275; have BK257 := n0_; have HB := n1_; have HO278 := n2_; clear n0_ n1_ n2_; clear ho hb hg hat))
                  go_ret
                  exact ⟨_, by first | rfl | (simp [errW_none, errW_some] <;> rfl) | (simp [*, errW_none, errW_some] <;> rfl), HW.zR HO278.out, HW.zb⟩
              rw [if_neg c23] at H
              have c23b0 : (a0_0 == 5) = false := beq_eq_false_iff_ne.mpr c23
              have c23b1 : (a0_0 != 5) = true := bne_iff_ne.mpr c23
              by_cases c45 : a0_0 = 7
              · rw [if_pos c45] at H
                have c45b0 : (a0_0 == 7) = true := beq_iff_eq.mpr c45
                have c45b1 : (a0_0 != 7) = false := bne_eq_false_iff_eq.mpr c45
                clear c45
                by_cases c46 : ([] : List Int).length + l0_6.length < 140737488355328
                rotate_left
                · rw [if_neg c46] at H
                  exact absurd H (by simp)
                rw [if_pos c46] at H
                have LMc46 := Aside0.mk c46
                clear c46
                obtain ⟨y288, hy288⟩ : ∃ y_ : List Int, y_ = (([] : List Int) ++ l0_6) := ⟨_, rfl⟩
                replace H : (some y288) = some r := by first | (rw [hy288]; with_reducible exact H) | (have H2_ := (Option.bind_some _ _).symm.trans H; rw [hy288]; with_reducible exact H2_) | (have H2_ := (Option.bind_some _ _).symm.trans H; with_reducible exact H2_) | with_reducible exact H | (rw [hy288]; exact H) | exact H
                have Ny288 := Aside0.mk hy288
                clear hy288
                as_aux_lemma =>
                  obtain rfl := Option.some.inj H
                  have hcz47_0 := HW.zc BK257.out 0 (.int .i64 a0_0)
                  have hcz47_1 := HW.zc BK257.out 1 (.string a0_1)
                  have hcz47_2 := HW.zc BK257.out 2 (.string a0_2)
                  have hcz47_3 := HW.zc BK257.out 3 (.int .i64 a0_3)
                  have hcz47_4 := HW.zc BK257.out 4 (.int .u64 a0_4)
                  have hcz47_5 := HW.zc BK257.out 5 (.int .u64 a0_5)
                  have hcz47_6 := HW.zc BK257.out 6 (.slice A0_6 l0_6.length c0_6)
                  have hcz47_7 := HW.zc BK257.out 7 (.slice A0_7 l0_7.length c0_7)
                  go_wp2_with (first | ((with_reducible refine gate_builtin (b := .append) (xs := #[.tmp 63, .tmp 65]) rfl ?_); at_builtin; refine Kd.R_append_rows (Kd.int .u8) (w0 := w) w.heap.size rfl (.tmp 63) (.tmp 65) 23 5 (.int .u8 0) 1 rfl Tryd.underlying23 info5 rfl (by decide) (by omega) (.slice none 0 0) ([] : List Int) l0_6 _ _ _ (fun _ => True) (fun _ => False) rfl rfl ?aO ?aR (fun _ _ h => h) (fun _ h => h.elim) ?aF ?aB ?aS ?aL ?_; (case aR => repeat (first | exact (Kd.C_below HR0_6.out HB.out) | (with_reducible refine Kd.C_alloc ?_ _) | (with_reducible refine Kd.C_drewN ?_ _) | (with_reducible refine Kd.C_drew ?_))); (case aB => exact HW.zb); (case aF => exact (fun _ _ => trivial)); (case aO => exact (HW.zR HO_3.out)); (case aS => exact (below_size HW.zb)); (case aL => have := LMc46.out; omega); intro v289 w48 ho hb hg hat; rw [← Ny288.out] at ho; have n0_ := Aside0.mk (blk_grown (g := gb257) (o := .cells #[.int .i64 a0_0, .string a0_1, .string a0_2, .int .i64 a0_3, .int .u64 a0_4, .int .u64 a0_5, .slice A0_6 l0_6.length c0_6, .slice A0_7 l0_7.length c0_7] 26 (0, 0)) (HW.zB BK257.out) hg (Kd.R_ne HO_3.out BK257.out (by decide))); have n1_ := Aside0.mk (hb); have n2_ := Aside0.mk (ho); clear BK257; clear HB; clear HO_3; have BK257 := n0_; have HB := n1_; have HO290 := n2_; clear n0_ n1_ n2_; clear ho hb hg hat))
                  go_ret
                  exact ⟨_, by first | rfl | (simp [errW_none, errW_some] <;> rfl) | (simp [*, errW_none, errW_some] <;> rfl), HW.zR HO290.out, HW.zb⟩
              rw [if_neg c45] at H
              have c45b0 : (a0_0 == 7) = false := beq_eq_false_iff_ne.mpr c45
              have c45b1 : (a0_0 != 7) = true := bne_iff_ne.mpr c45
              by_cases c49 : a0_0 = 8
              · rw [if_pos c49] at H
                have c49b0 : (a0_0 == 8) = true := beq_iff_eq.mpr c49
                have c49b1 : (a0_0 != 8) = false := bne_eq_false_iff_eq.mpr c49
                clear c49
                by_cases c50 : ([] : List Int).length < 140737488355328
                rotate_left
                · rw [if_neg c50] at H
                  exact absurd H (by simp)
                rw [if_pos c50] at H
                have LMc50 := Aside0.mk c50
                clear c50
                obtain ⟨y291, hy291⟩ : ∃ y_ : List Int, y_ = (([] : List Int) ++ [(a0_3) % 256]) := ⟨_, rfl⟩
                replace H : (some y291) = some r := by first | (rw [hy291]; with_reducible exact H) | (have H2_ := (Option.bind_some _ _).symm.trans H; rw [hy291]; with_reducible exact H2_) | (have H2_ := (Option.bind_some _ _).symm.trans H; with_reducible exact H2_) | with_reducible exact H | (rw [hy291]; exact H) | exact H
                have Ny291 := Aside0.mk hy291
                clear hy291
                as_aux_lemma =>
                  obtain rfl := Option.some.inj H
                  have hcz51_0 := HW.zc BK257.out 0 (.int .i64 a0_0)
                  have hcz51_1 := HW.zc BK257.out 1 (.string a0_1)
                  have hcz51_2 := HW.zc BK257.out 2 (.string a0_2)
                  have hcz51_3 := HW.zc BK257.out 3 (.int .i64 a0_3)
                  have hcz51_4 := HW.zc BK257.out 4 (.int .u64 a0_4)
                  have hcz51_5 := HW.zc BK257.out 5 (.int .u64 a0_5)
                  have hcz51_6 := HW.zc BK257.out 6 (.slice A0_6 l0_6.length c0_6)
                  have hcz51_7 := HW.zc BK257.out 7 (.slice A0_7 l0_7.length c0_7)
                  go_wp2_with (first | ((with_reducible refine gate_builtin (b := .append) (xs := #[.tmp 69, .tmp 73]) rfl ?_); at_builtin; refine Kd.R_append (Kd.int .u8) (w0 := w) w.heap.size rfl (.tmp 69) (.tmp 73) 23 5 (.int .u8 0) 1 rfl Tryd.underlying23 info5 rfl (by decide) (by omega) (.slice none 0 0) ([] : List Int) ((a0_3) % 256) [.int .u8 ((a0_3) % 256)] (fun _ => True) (fun _ => False) rfl rfl ?aP (fun _ hk => hk.elim) ?aF ?aO ?aB ?aS ?aL ?_; (case aP => exact rfl); (case aB => exact HW.zb); (case aF => exact (fun _ _ => trivial)); (case aO => exact (HW.zR HO_3.out)); (case aS => exact (below_size HW.zb)); (case aL => have := LMc50.out; omega); intro v292 w52 ho hb hg hat; rw [← Ny291.out] at ho; have n0_ := Aside0.mk (blk_grown (g := gb257) (o := .cells #[.int .i64 a0_0, .string a0_1, .string a0_2, .int .i64 a0_3, .int .u64 a0_4, .int .u64 a0_5, .slice A0_6 l0_6.length c0_6, .slice A0_7 l0_7.length c0_7] 26 (0, 0)) (HW.zB BK257.out) hg (Kd.R_ne HO_3.out BK257.out (by decide))); have n1_ := Aside0.mk (hb); have n2_ := Aside0.mk (ho); clear BK257; clear HB; clear HO_3; have BK257 := n0_; have HB := n1_; have HO293 := n2_; clear n0_ n1_ n2_; clear ho hb hg hat))
                  go_ret
                  exact ⟨_, by first | rfl | (simp [errW_none, errW_some] <;> rfl) | (simp [*, errW_none, errW_some] <;> rfl), HW.zR HO293.out, HW.zb⟩
              rw [if_neg c49] at H
              have c49b0 : (a0_0 == 8) = false := beq_eq_false_iff_ne.mpr c49
              have c49b1 : (a0_0 != 8) = true := bne_iff_ne.mpr c49
              have HC53 := Aside0.mk H
              clear H
              go_upto_if 75 with (fail)
              go_cut [75] (fun v75 wc => ∃ (kq : Nat) (x75_52 : Bool), v75 = .bool x75_52 ∧ Aside0 (spec_DocValue.j3 kq ([] : List Int) a0_0 x75_52 a0_0 a0_1 a0_2 a0_3 a0_4 a0_5 l0_6 l0_7 = some r) ∧ Aside0 (kq ≤ kj16) ∧ Aside0 (Kd.R (Kd.int .u8) 5 wc w.heap.size (fun _ => True) (.slice none 0 0) ([] : List Int)) ∧ Aside0 (wc.heap[gb257]? = some (.cells #[.int .i64 a0_0, .string a0_1, .string a0_2, .int .i64 a0_3, .int .u64 a0_4, .int .u64 a0_5, (.slice A0_6 l0_6.length c0_6), (.slice A0_7 l0_7.length c0_7)] 26 (0, 0))) ∧ Aside0 (Below w.heap.size w wc))
              case first =>
                have H := HC53.out
                clear HC53
                by_cases c54 : a0_0 = 9
                · rw [if_pos c54] at H
                  have c54b0 : (a0_0 == 9) = true := beq_iff_eq.mpr c54
                  have c54b1 : (a0_0 != 9) = false := bne_eq_false_iff_eq.mpr c54
                  clear c54
                  (first | rw [c54b0] | (simp only [i64_w, i32_w]; rw [c54b0]) | skip)
                  as_aux_lemma =>
                    have H' := Aside0.mk H
                    clear H
                    go_wp2
                    go_meet
                    case rel => exact ⟨_, ((a0_0 == 9)), (by first | rfl | (simp; done) | (simp [*]; done)), H', ⟨by have := HJ1.out; have := HJ9.out; have := HJ16.out; first | omega | exact Nat.le_refl _⟩, ⟨HW.zR HO_3.out⟩, ⟨by (with_reducible repeat (first | refine blk_drewN ?_ _ | refine blk_drew ?_ | refine blk_alloc ?_ _)); exact BK257.out⟩, ⟨HW.zb⟩⟩
                rw [if_neg c54] at H
                have c54b0 : (a0_0 == 9) = false := beq_eq_false_iff_ne.mpr c54
                have c54b1 : (a0_0 != 9) = true := bne_iff_ne.mpr c54
                (first | rw [c54b0] | (simp only [i64_w, i32_w]; rw [c54b0]) | skip)
                as_aux_lemma =>
                  have H' := Aside0.mk H
                  clear H
                  go_wp2
                  go_meet
                  case rel => exact ⟨_, ((a0_0 == 18)), (by first | rfl | (simp; done) | (simp [*]; done)), H', ⟨by have := HJ1.out; have := HJ9.out; have := HJ16.out; first | omega | exact Nat.le_refl _⟩, ⟨HW.zR HO_3.out⟩, ⟨by (with_reducible repeat (first | refine blk_drewN ?_ _ | refine blk_drew ?_ | refine blk_alloc ?_ _)); exact BK257.out⟩, ⟨HW.zb⟩⟩
              case rest =>
                clear HC53
                try clear c1
                try clear c2
                try clear p2
                try clear c3
                try clear c4
                try clear c5
                try clear c5b0
                try clear c5b1
                try clear c6
                try clear p6
                try clear c10
                try clear c11
                try clear c11b0
                try clear c11b1
                try clear c12
                try clear c12b0
                try clear c12b1
                try clear c13
                try clear c18
                try clear c18b0
                try clear c18b1
                try clear c19
                try clear c21
                try clear c23
                try clear c23b0
                try clear c23b1
                try clear c24
                try clear c24b0
                try clear c24b1
                try clear c26
                try clear c28
                try clear c31
                try clear c37
                try clear c38
                try clear c41
                try clear c42
                try clear c45
                try clear c45b0
                try clear c45b1
                try clear c46
                try clear c49
                try clear c49b0
                try clear c49b1
                try clear c50
                try clear c54
                try clear c54b0
                try clear c54b1
                try clear hcz15_0
                try clear hcz15_1
                try clear hcz15_2
                try clear hcz15_3
                try clear hcz15_4
                try clear hcz15_5
                try clear hcz15_6
                try clear hcz15_7
                try clear hcz21_0
                try clear hcz21_1
                try clear hcz21_2
                try clear hcz21_3
                try clear hcz21_4
                try clear hcz21_5
                try clear hcz21_6
                try clear hcz21_7
                try clear hcz29_0
                try clear hcz29_1
                try clear hcz29_2
                try clear hcz29_3
                try clear hcz29_4
                try clear hcz29_5
                try clear hcz29_6
                try clear hcz29_7
                try clear hcz34_0
                try clear hcz34_1
                try clear hcz34_2
                try clear hcz34_3
                try clear hcz34_4
                try clear hcz34_5
                try clear hcz34_6
                try clear hcz34_7
                try clear hcz39_0
                try clear hcz39_1
                try clear hcz39_2
                try clear hcz39_3
                try clear hcz39_4
                try clear hcz39_5
                try clear hcz39_6
                try clear hcz39_7
                try clear hcz41_0
                try clear hcz41_1
                try clear hcz41_2
                try clear hcz41_3
                try clear hcz41_4
                try clear hcz41_5
                try clear hcz41_6
                try clear hcz41_7
                try clear hcz43_0
                try clear hcz43_1
                try clear hcz43_2
                try clear hcz43_3
                try clear hcz43_4
                try clear hcz43_5
                try clear hcz43_6
                try clear hcz43_7
                try clear hcz47_0
                try clear hcz47_1
                try clear hcz47_2
                try clear hcz47_3
                try clear hcz47_4
                try clear hcz47_5
                try clear hcz47_6
                try clear hcz47_7
                try clear hcz4_0
                try clear hcz4_1
                try clear hcz4_2
                try clear hcz4_3
                try clear hcz4_4
                try clear hcz4_5
                try clear hcz4_6
                try clear hcz4_7
                try clear hcz51_0
                try clear hcz51_1
                try clear hcz51_2
                try clear hcz51_3
                try clear hcz51_4
                try clear hcz51_5
                try clear hcz51_6
                try clear hcz51_7
                try clear hcz8_0
                try clear hcz8_1
                try clear hcz8_2
                try clear hcz8_3
                try clear hcz8_4
                try clear hcz8_5
                try clear hcz8_6
                try clear hcz8_7
                try clear p2
                obtain ⟨kq, x75_52, rfl, HA, HJ52, HO_3, BK257, HB⟩ := hcut
                cases kq with
                | zero => exact absurd HA.out (by simp [spec_DocValue.j3])
                | succ kj52 =>
                  have H := HA.out
                  clear HA
                  simp only [spec_DocValue.j3] at H
                  by_cases c55 : x75_52 = true
                  · subst c55
                    have H1 : ((spec_DocInt64.f kj52 ([] : List Int) (IntKind.u64.wrap (a0_3))).bind fun t294 => (some t294)) = some r := by rw [if_pos rfl] at H; exact H
                    clear H
                    have H := H1
                    clear H1
                    replace H := Option.bind_eq_some_iff.mp H
                    obtain ⟨t294, A560, H⟩ := H
                    replace H : (some t294) = some r := H
                    have A56 := Aside0.mk A560
                    clear A560
                    as_aux_lemma =>
                      obtain rfl := Option.some.inj H
                      have hcz57_0 := HW.zc BK257.out 0 (.int .i64 a0_0)
                      have hcz57_1 := HW.zc BK257.out 1 (.string a0_1)
                      have hcz57_2 := HW.zc BK257.out 2 (.string a0_2)
                      have hcz57_3 := HW.zc BK257.out 3 (.int .i64 a0_3)
                      have hcz57_4 := HW.zc BK257.out 4 (.int .u64 a0_4)
                      have hcz57_5 := HW.zc BK257.out 5 (.int .u64 a0_5)
                      have hcz57_6 := HW.zc BK257.out 6 (.slice A0_6 l0_6.length c0_6)
                      have hcz57_7 := HW.zc BK257.out 7 (.slice A0_7 l0_7.length c0_7)
                      go_wp2_with (first | ((with_reducible refine gate_callee (f := 41) rfl ?_); refine HW.gz (some 82) rfl rfl Tryd.func41 (by kernel_rfl) rfl #[.slice none 0 0, .int .u64 (IntKind.u64.wrap (a0_3))] rfl ?_; (with_reducible refine (spec_DocInt64.calls kj52 (fun k_ => some k_ = (.slice none 0 0 : Value).ownBlock) (.slice none 0 0) ([] : List Int) (IntKind.u64.wrap (a0_3)) t294 w _ ?side1 ?side2 A56.out).mono ?_); (case side1 => exact HW.zb); (case side2 => exact Kd.R_tight rfl HO_3.out); rintro e w58 ⟨v295, rfl, ho0, hb, hkp⟩; refine ⟨_, rfl, ?_⟩; have n0_ := Aside0.mk (blk_kept (HW.zB BK257.out) hkp (fun hs_ => (fun e_ => (Kd.R_ne HO_3.out BK257.out (by decide)) e_) hs_)); have n1_ := Aside0.mk (Kd.R_mono (ok' := fun k_ => True) ho0 (fun k_ hk_ => trivial)); have n2_ := Aside0.mk (hb); clear BK257; clear HB; clear HO_3; have BK257 := n0_; have HO296 := n1_; have HB := n2_; clear n0_ n1_ n2_; (try clear hb); (try clear hkp); (try clear ho0)))
                      go_ret
                      exact ⟨_, by first | rfl | (simp [errW_none, errW_some] <;> rfl) | (simp [*, errW_none, errW_some] <;> rfl), HW.zR HO296.out, HW.zb⟩
                  replace c55 := Bool.eq_false_iff.mpr c55
                  subst c55
                  have H1 : (if a0_0 = 16 then ((spec_DocInt32.f ([] : List Int) a0_3).bind fun t297 => (some t297)) else (if a0_0 = 11 then (if ([] : List Int).length + a0_1.size < 140737488355328 then ((some (([] : List Int) ++ bytesOf a0_1 : List Int)).bind fun y300 => (if y300.length < 140737488355328 then ((some (y300 ++ [0] : List Int)).bind fun y303 => (if y303.length + a0_2.size < 140737488355328 then ((some (y303 ++ bytesOf a0_2 : List Int)).bind fun y306 => (if y306.length < 140737488355328 then (some (y306 ++ [0])) else (none))) else (none))) else (none))) else (none)) else (if a0_0 = 12 then ((spec_docText.f ([] : List Int) a0_1).bind fun t312 => (if t312.length + l0_6.length < 140737488355328 then (some (t312 ++ l0_6)) else (none))) else (if a0_0 = 15 then ((spec_docText.f ([] : List Int) a0_1).bind fun t318 => ((spec_DocBytes.f kj52 l0_7).bind fun t321 => ((spec_DocInt32.f ([] : List Int) (wrap64 ((wrap64 (4 + (t318.length : Int))) + (t321.length : Int)))).bind fun t324 => (if t324.length + t318.length < 140737488355328 then ((some (t324 ++ t318 : List Int)).bind fun y327 => (if y327.length + t321.length < 140737488355328 then (some (y327 ++ t321)) else (none))) else (none))))) else (if a0_0 = 19 then ((spec_DocInt64.f kj52 ([] : List Int) a0_4).bind fun t333 => ((spec_DocInt64.f kj52 t333 a0_5).bind fun t336 => (some t336))) else (some ([] : List Int))))))) = some r := by rw [if_neg (show ¬ (false = true) by decide)] at H; exact H
                  clear H
                  have H := H1
                  clear H1
                  by_cases c59 : a0_0 = 16
                  · rw [if_pos c59] at H
                    have c59b0 : (a0_0 == 16) = true := beq_iff_eq.mpr c59
                    have c59b1 : (a0_0 != 16) = false := bne_eq_false_iff_eq.mpr c59
                    clear c59
                    replace H := Option.bind_eq_some_iff.mp H
                    obtain ⟨t297, A600, H⟩ := H
                    replace H : (some t297) = some r := H
                    have A60 := Aside0.mk A600
                    clear A600
                    as_aux_lemma =>
                      obtain rfl := Option.some.inj H
                      have hcz61_0 := HW.zc BK257.out 0 (.int .i64 a0_0)
                      have hcz61_1 := HW.zc BK257.out 1 (.string a0_1)
                      have hcz61_2 := HW.zc BK257.out 2 (.string a0_2)
                      have hcz61_3 := HW.zc BK257.out 3 (.int .i64 a0_3)
                      have hcz61_4 := HW.zc BK257.out 4 (.int .u64 a0_4)
                      have hcz61_5 := HW.zc BK257.out 5 (.int .u64 a0_5)
                      have hcz61_6 := HW.zc BK257.out 6 (.slice A0_6 l0_6.length c0_6)
                      have hcz61_7 := HW.zc BK257.out 7 (.slice A0_7 l0_7.length c0_7)
                      go_wp2_with (first | ((with_reducible refine gate_callee (f := 21) rfl ?_); refine HW.gz (some 88) rfl rfl Tryd.func21 (by kernel_rfl) rfl #[.slice none 0 0, .int .i64 a0_3] rfl ?_; (with_reducible refine (spec_DocInt32.calls (fun k_ => some k_ = (.slice none 0 0 : Value).ownBlock) (.slice none 0 0) ([] : List Int) a0_3 t297 w _ ?side1 ?side2 A60.out).mono ?_); (case side1 => exact HW.zb); (case side2 => exact Kd.R_tight rfl HO_3.out); rintro e w62 ⟨v298, rfl, ho0, hb, hkp⟩; refine ⟨_, rfl, ?_⟩; have n0_ := Aside0.mk (blk_kept (HW.zB BK257.out) hkp (fun hs_ => (fun e_ => (Kd.R_ne HO_3.out BK257.out (by decide)) e_) hs_)); have n1_ := Aside0.mk (Kd.R_mono (ok' := fun k_ => True) ho0 (fun k_ hk_ => trivial)); have n2_ := Aside0.mk (hb); clear BK257; clear HB; clear HO_3; have BK257 := n0_; have HO299 := n1_; have HB := n2_; clear n0_ n1_ n2_; (try clear hb); (try clear hkp); (try clear ho0)))
                      go_ret
                      exact ⟨_, by first | rfl | (simp [errW_none, errW_some] <;> rfl) | (simp [*, errW_none, errW_some] <;> rfl), HW.zR HO299.out, HW.zb⟩
                  rw [if_neg c59] at H
                  have c59b0 : (a0_0 == 16) = false := beq_eq_false_iff_ne.mpr c59
                  have c59b1 : (a0_0 != 16) = true := bne_iff_ne.mpr c59
                  by_cases c63 : a0_0 = 11
                  · rw [if_pos c63] at H
                    have c63b0 : (a0_0 == 11) = true := beq_iff_eq.mpr c63
                    have c63b1 : (a0_0 != 11) = false := bne_eq_false_iff_eq.mpr c63
                    clear c63
                    by_cases c64 : ([] : List Int).length + a0_1.size < 140737488355328
                    rotate_left
                    · rw [if_neg c64] at H
                      exact absurd H (by simp)
                    rw [if_pos c64] at H
                    have LMc64 := Aside0.mk c64
                    clear c64
                    obtain ⟨y300, hy300⟩ : ∃ y_ : List Int, y_ = (([] : List Int) ++ bytesOf a0_1) := ⟨_, rfl⟩
                    replace H : (if y300.length < 140737488355328 then ((some (y300 ++ [0] : List Int)).bind fun y303 => (if y303.length + a0_2.size < 140737488355328 then ((some (y303 ++ bytesOf a0_2 : List Int)).bind fun y306 => (if y306.length < 140737488355328 then (some (y306 ++ [0])) else (none))) else (none))) else (none)) = some r := by first | (rw [hy300]; with_reducible exact H) | (have H2_ := (Option.bind_some _ _).symm.trans H; rw [hy300]; with_reducible exact H2_) | (have H2_ := (Option.bind_some _ _).symm.trans H; with_reducible exact H2_) | with_reducible exact H | (rw [hy300]; exact H) | exact H
                    have Ny300 := Aside0.mk hy300
                    clear hy300
                    by_cases c65 : y300.length < 140737488355328
                    rotate_left
                    · rw [if_neg c65] at H
                      exact absurd H (by simp)
                    rw [if_pos c65] at H
                    have LMc65 := Aside0.mk c65
                    clear c65
                    obtain ⟨y303, hy303⟩ : ∃ y_ : List Int, y_ = (y300 ++ [0]) := ⟨_, rfl⟩
                    replace H : (if y303.length + a0_2.size < 140737488355328 then ((some (y303 ++ bytesOf a0_2 : List Int)).bind fun y306 => (if y306.length < 140737488355328 then (some (y306 ++ [0])) else (none))) else (none)) = some r := by first | (rw [hy303]; with_reducible exact H) | (have H2_ := (Option.bind_some _ _).symm.trans H; rw [hy303]; with_reducible exact H2_) | (have H2_ := (Option.bind_some _ _).symm.trans H; with_reducible exact H2_) | with_reducible exact H | (rw [hy303]; exact H) | exact H
                    have Ny303 := Aside0.mk hy303
                    clear hy303
                    by_cases c66 : y303.length + a0_2.size < 140737488355328
                    rotate_left
                    · rw [if_neg c66] at H
                      exact absurd H (by simp)
                    rw [if_pos c66] at H
                    have LMc66 := Aside0.mk c66
                    clear c66
                    obtain ⟨y306, hy306⟩ : ∃ y_ : List Int, y_ = (y303 ++ bytesOf a0_2) := ⟨_, rfl⟩
                    replace H : (if y306.length < 140737488355328 then (some (y306 ++ [0])) else (none)) = some r := by first | (rw [hy306]; with_reducible exact H) | (have H2_ := (Option.bind_some _ _).symm.trans H; rw [hy306]; with_reducible exact H2_) | (have H2_ := (Option.bind_some _ _).symm.trans H; with_reducible exact H2_) | with_reducible exact H | (rw [hy306]; exact H) | exact H
                    have Ny306 := Aside0.mk hy306
                    clear hy306
                    by_cases c67 : y306.length < 140737488355328
                    rotate_left
                    · rw [if_neg c67] at H
                      exact absurd H (by simp)
                    rw [if_pos c67] at H
                    have LMc67 := Aside0.mk c67
                    clear c67
                    obtain ⟨y309, hy309⟩ : ∃ y_ : List Int, y_ = (y306 ++ [0]) := ⟨_, rfl⟩
                    replace H : (some y309) = some r := by first | (rw [hy309]; with_reducible exact H) | (have H2_ := (Option.bind_some _ _).symm.trans H; rw [hy309]; with_reducible exact H2_) | (have H2_ := (Option.bind_some _ _).symm.trans H; with_reducible exact H2_) | with_reducible exact H | (rw [hy309]; exact H) | exact H
                    have Ny309 := Aside0.mk hy309
                    clear hy309
                    as_aux_lemma =>
                      obtain rfl := Option.some.inj H
                      have hcz68_0 := HW.zc BK257.out 0 (.int .i64 a0_0)
                      have hcz68_1 := HW.zc BK257.out 1 (.string a0_1)
                      have hcz68_2 := HW.zc BK257.out 2 (.string a0_2)
                      have hcz68_3 := HW.zc BK257.out 3 (.int .i64 a0_3)
                      have hcz68_4 := HW.zc BK257.out 4 (.int .u64 a0_4)
                      have hcz68_5 := HW.zc BK257.out 5 (.int .u64 a0_5)
                      have hcz68_6 := HW.zc BK257.out 6 (.slice A0_6 l0_6.length c0_6)
                      have hcz68_7 := HW.zc BK257.out 7 (.slice A0_7 l0_7.length c0_7)
                      go_wp2_with (first | (at_builtin; refine HW.R_append_str (w0 := w) w.heap.size rfl (.tmp 91) _ 23 9 5 rfl Tryd.underlying23 Tryd.underlying9 info5 (.slice none 0 0) ([] : List Int) a0_1 (fun _ => True) rfl rfl ?aO ?aF ?aB ?aS ?aL ?_; (case aB => exact HW.zb); (case aF => exact (fun _ _ => trivial)); (case aO => exact (HW.zR HO_3.out)); (case aS => exact (below_size HW.zb)); (case aL => have := LMc64.out; omega); intro v301 w69 ho hb hg hat; rw [← Ny300.out] at ho; have n0_ := Aside0.mk (blk_grown (g := gb257) (o := .cells #[.int .i64 a0_0, .string a0_1, .string a0_2, .int .i64 a0_3, .int .u64 a0_4, .int .u64 a0_5, .slice A0_6 l0_6.length c0_6, .slice A0_7 l0_7.length c0_7] 26 (0, 0)) (HW.zB BK257.out) hg (Kd.R_ne HO_3.out BK257.out (by decide))); have n1_ := Aside0.mk (hb); have n2_ := Aside0.mk (ho); clear BK257; clear HB; clear HO_3; have BK257 := n0_; have HB := n1_; have HO302 := n2_; clear n0_ n1_ n2_; clear ho hb hg hat) | ((with_reducible refine gate_builtin (b := .append) (xs := #[.tmp 95, .tmp 96]) rfl ?_); at_builtin; refine Kd.R_append (Kd.int .u8) (w0 := w) w.heap.size rfl (.tmp 95) (.tmp 96) 23 5 (.int .u8 0) 1 rfl Tryd.underlying23 info5 rfl (by decide) (by omega) v301 y300 0 [.int .u8 0] (fun _ => True) (fun _ => False) rfl rfl ?aP (fun _ hk => hk.elim) ?aF ?aO ?aB ?aS ?aL ?_; (case aP => exact rfl); (case aB => exact HW.zb); (case aF => exact (fun _ _ => trivial)); (case aO => exact (HW.zR HO302.out)); (case aS => exact (below_size HW.zb)); (case aL => have := LMc65.out; omega); intro v304 w70 ho hb hg hat; rw [← Ny303.out] at ho; have n0_ := Aside0.mk (blk_grown (g := gb257) (o := .cells #[.int .i64 a0_0, .string a0_1, .string a0_2, .int .i64 a0_3, .int .u64 a0_4, .int .u64 a0_5, .slice A0_6 l0_6.length c0_6, .slice A0_7 l0_7.length c0_7] 26 (0, 0)) (HW.zB BK257.out) hg (Kd.R_ne HO302.out BK257.out (by decide))); have n1_ := Aside0.mk (hb); have n2_ := Aside0.mk (ho); clear BK257; clear HB; clear HO302; have BK257 := n0_; have HB := n1_; have HO305 := n2_; clear n0_ n1_ n2_; clear ho hb hg hat; have hcz71_0 := HW.zc BK257.out 0 (.int .i64 a0_0); have hcz71_1 := HW.zc BK257.out 1 (.string a0_1); have hcz71_2 := HW.zc BK257.out 2 (.string a0_2); have hcz71_3 := HW.zc BK257.out 3 (.int .i64 a0_3); have hcz71_4 := HW.zc BK257.out 4 (.int .u64 a0_4); have hcz71_5 := HW.zc BK257.out 5 (.int .u64 a0_5); have hcz71_6 := HW.zc BK257.out 6 (.slice A0_6 l0_6.length c0_6); have hcz71_7 := HW.zc BK257.out 7 (.slice A0_7 l0_7.length c0_7)) | (at_builtin; refine HW.R_append_str (w0 := w) w.heap.size rfl (.tmp 98) _ 23 9 5 rfl Tryd.underlying23 Tryd.underlying9 info5 v304 y303 a0_2 (fun _ => True) rfl rfl ?aO ?aF ?aB ?aS ?aL ?_; (case aB => exact HW.zb); (case aF => exact (fun _ _ => trivial)); (case aO => exact (HW.zR HO305.out)); (case aS => exact (below_size HW.zb)); (case aL => have := LMc66.out; omega); intro v307 w72 ho hb hg hat; rw [← Ny306.out] at ho; have n0_ := Aside0.mk (blk_grown (g := gb257) (o := .cells #[.int .i64 a0_0, .string a0_1, .string a0_2, .int .i64 a0_3, .int .u64 a0_4, .int .u64 a0_5, .slice A0_6 l0_6.length c0_6, .slice A0_7 l0_7.length c0_7] 26 (0, 0)) (HW.zB BK257.out) hg (Kd.R_ne HO305.out BK257.out (by decide))); have n1_ := Aside0.mk (hb); have n2_ := Aside0.mk (ho); clear BK257; clear HB; clear HO305; have BK257 := n0_; have HB := n1_; have HO308 := n2_; clear n0_ n1_ n2_; clear ho hb hg hat) | ((with_reducible refine gate_builtin (b := .append) (xs := #[.tmp 102, .tmp 103]) rfl ?_); at_builtin; refine Kd.R_append (Kd.int .u8) (w0 := w) w.heap.size rfl (.tmp 102) (.tmp 103) 23 5 (.int .u8 0) 1 rfl Tryd.underlying23 info5 rfl (by decide) (by omega) v307 y306 0 [.int .u8 0] (fun _ => True) (fun _ => False) rfl rfl ?aP (fun _ hk => hk.elim) ?aF ?aO ?aB ?aS ?aL ?_; (case aP => exact rfl); (case aB => exact HW.zb); (case aF => exact (fun _ _ => trivial)); (case aO => exact (HW.zR HO308.out)); (case aS => exact (below_size HW.zb)); (case aL => have := LMc67.out; omega); intro v310 w73 ho hb hg hat; rw [← Ny309.out] at ho; have n0_ := Aside0.mk (blk_grown (g := gb257) (o := .cells #[.int .i64 a0_0, .string a0_1, .string a0_2, .int .i64 a0_3, .int .u64 a0_4, .int .u64 a0_5, .slice A0_6 l0_6.length c0_6, .slice A0_7 l0_7.length c0_7] 26 (0, 0)) (HW.zB BK257.out) hg (Kd.R_ne HO308.out BK257.out (by decide))); have n1_ := Aside0.mk (hb); have n2_ := Aside0.mk (ho); clear BK257; clear HB; clear HO308; have BK257 := n0_; have HB := n1_; have HO311 := n2_; clear n0_ n1_ n2_; clear ho hb hg hat))
                      go_ret
                      exact ⟨_, by first | rfl | (simp [errW_none, errW_some] <;> rfl) | (simp [*, errW_none, errW_some] <;> rfl), HW.zR HO311.out, HW.zb⟩
                  rw [if_neg c63] at H
                  have c63b0 : (a0_0 == 11) = false := beq_eq_false_iff_ne.mpr c63
                  have c63b1 : (a0_0 != 11) = true := bne_iff_ne.mpr c63
                  by_cases c74 : a0_0 = 12
                  · rw [if_pos c74] at H
                    have c74b0 : (a0_0 == 12) = true := beq_iff_eq.mpr c74
                    have c74b1 : (a0_0 != 12) = false := bne_eq_false_iff_eq.mpr c74
                    clear c74
                    replace H := Option.bind_eq_some_iff.mp H
                    obtain ⟨t312, A750, H⟩ := H
                    replace H : (if t312.length + l0_6.length < 140737488355328 then (some (t312 ++ l0_6)) else (none)) = some r := H
                    have A75 := Aside0.mk A750
                    clear A750
                    by_cases c76 : t312.length + l0_6.length < 140737488355328
                    rotate_left
                    · rw [if_neg c76] at H
                      exact absurd H (by simp)
                    rw [if_pos c76] at H
                    have LMc76 := Aside0.mk c76
                    clear c76
                    obtain ⟨y315, hy315⟩ : ∃ y_ : List Int, y_ = (t312 ++ l0_6) := ⟨_, rfl⟩
                    replace H : (some y315) = some r := by first | (rw [hy315]; with_reducible exact H) | (have H2_ := (Option.bind_some _ _).symm.trans H; rw [hy315]; with_reducible exact H2_) | (have H2_ := (Option.bind_some _ _).symm.trans H; with_reducible exact H2_) | with_reducible exact H | (rw [hy315]; exact H) | exact H
                    have Ny315 := Aside0.mk hy315
                    clear hy315
                    as_aux_lemma =>
                      obtain rfl := Option.some.inj H
                      have hcz77_0 := HW.zc BK257.out 0 (.int .i64 a0_0)
                      have hcz77_1 := HW.zc BK257.out 1 (.string a0_1)
                      have hcz77_2 := HW.zc BK257.out 2 (.string a0_2)
                      have hcz77_3 := HW.zc BK257.out 3 (.int .i64 a0_3)
                      have hcz77_4 := HW.zc BK257.out 4 (.int .u64 a0_4)
                      have hcz77_5 := HW.zc BK257.out 5 (.int .u64 a0_5)
                      have hcz77_6 := HW.zc BK257.out 6 (.slice A0_6 l0_6.length c0_6)
                      have hcz77_7 := HW.zc BK257.out 7 (.slice A0_7 l0_7.length c0_7)
                      go_wp2_with (first | ((with_reducible refine gate_callee (f := 42) rfl ?_); refine HW.gz (some 110) rfl rfl Tryd.func42 (by kernel_rfl) rfl #[.slice none 0 0, .string a0_1] rfl ?_; (with_reducible refine (spec_docText.calls (fun k_ => some k_ = (.slice none 0 0 : Value).ownBlock) (.slice none 0 0) ([] : List Int) a0_1 t312 w _ ?side1 ?side2 A75.out).mono ?_); (case side1 => exact HW.zb); (case side2 => exact Kd.R_tight rfl HO_3.out); rintro e w78 ⟨v313, rfl, ho0, hb, hkp⟩; refine ⟨_, rfl, ?_⟩; have n0_ := Aside0.mk (blk_kept (HW.zB BK257.out) hkp (fun hs_ => (fun e_ => (Kd.R_ne HO_3.out BK257.out (by decide)) e_) hs_)); have n1_ := Aside0.mk (Kd.R_mono (ok' := fun k_ => True) ho0 (fun k_ hk_ => trivial)); have n2_ := Aside0.mk (hb); clear BK257; clear HB; clear HO_3; have BK257 := n0_; have HO314 := n1_; have HB := n2_; clear n0_ n1_ n2_; (try clear hb); (try clear hkp); (try clear ho0); have hcz79_0 := HW.zc BK257.out 0 (.int .i64 a0_0); have hcz79_1 := HW.zc BK257.out 1 (.string a0_1); have hcz79_2 := HW.zc BK257.out 2 (.string a0_2); have hcz79_3 := HW.zc BK257.out 3 (.int .i64 a0_3); have hcz79_4 := HW.zc BK257.out 4 (.int .u64 a0_4); have hcz79_5 := HW.zc BK257.out 5 (.int .u64 a0_5); have hcz79_6 := HW.zc BK257.out 6 (.slice A0_6 l0_6.length c0_6); have hcz79_7 := HW.zc BK257.out 7 (.slice A0_7 l0_7.length c0_7)) | ((with_reducible refine gate_builtin (b := .append) (xs := #[.tmp 111, .tmp 113]) rfl ?_); at_builtin; refine Kd.R_append_rows (Kd.int .u8) (w0 := w) w.heap.size rfl (.tmp 111) (.tmp 113) 23 5 (.int .u8 0) 1 rfl Tryd.underlying23 info5 rfl (by decide) (by omega) v313 t312 l0_6 _ _ _ (fun _ => True) (fun _ => False) rfl rfl ?aO ?aR (fun _ _ h => h) (fun _ h => h.elim) ?aF ?aB ?aS ?aL ?_; (case aR => repeat (first | exact (Kd.C_below HR0_6.out HB.out) | (with_reducible refine Kd.C_alloc ?_ _) | (with_reducible refine Kd.C_drewN ?_ _) | (with_reducible refine Kd.C_drew ?_))); (case aB => exact HW.zb); (case aF => exact (fun _ _ => trivial)); (case aO => exact (HW.zR HO314.out)); (case aS => exact (below_size HW.zb)); (case aL => have := LMc76.out; omega); intro v316 w80 ho hb hg hat; rw [← Ny315.out] at ho; have n0_ := Aside0.mk (blk_grown (g := gb257) (o := .cells #[.int .i64 a0_0, .string a0_1, .string a0_2, .int .i64 a0_3, .int .u64 a0_4, .int .u64 a0_5, .slice A0_6 l0_6.length c0_6, .slice A0_7 l0_7.length c0_7] 26 (0, 0)) (HW.zB BK257.out) hg (Kd.R_ne HO314.out BK257.out (by decide))); have n1_ := Aside0.mk (hb); have n2_ := Aside0.mk (ho); clear BK257; clear HB; clear HO314; have BK257 := n0_; have HB := n1_; have HO317 := n2_; clear n0_ n1_ n2_; clear ho hb hg hat))
                      go_ret
                      exact ⟨_, by first | rfl | (simp [errW_none, errW_some] <;> rfl) | (simp [*, errW_none, errW_some] <;> rfl), HW.zR HO317.out, HW.zb⟩
                  rw [if_neg c74] at H
                  have c74b0 : (a0_0 == 12) = false := beq_eq_false_iff_ne.mpr c74
                  have c74b1 : (a0_0 != 12) = true := bne_iff_ne.mpr c74
                  by_cases c81 : a0_0 = 15
                  rotate_left
                  · rw [if_neg c81] at H
                    have c81b0 : (a0_0 == 15) = false := beq_eq_false_iff_ne.mpr c81
                    have c81b1 : (a0_0 != 15) = true := bne_iff_ne.mpr c81
                    by_cases c96 : a0_0 = 19
                    rotate_left
                    · rw [if_neg c96] at H
                      have c96b0 : (a0_0 == 19) = false := beq_eq_false_iff_ne.mpr c96
                      have c96b1 : (a0_0 != 19) = true := bne_iff_ne.mpr c96
                      as_aux_lemma =>
                        obtain rfl := Option.some.inj H
                        go_wp2
                        go_ret
                        exact ⟨_, by first | rfl | (simp [errW_none, errW_some] <;> rfl) | (simp [*, errW_none, errW_some] <;> rfl), HW.zR HO_3.out, HW.zb⟩
                    rw [if_pos c96] at H
                    have c96b0 : (a0_0 == 19) = true := beq_iff_eq.mpr c96
                    have c96b1 : (a0_0 != 19) = false := bne_eq_false_iff_eq.mpr c96
                    clear c96
                    replace H := Option.bind_eq_some_iff.mp H
                    obtain ⟨t333, A970, H⟩ := H
                    replace H : ((spec_DocInt64.f kj52 t333 a0_5).bind fun t336 => (some t336)) = some r := H
                    have A97 := Aside0.mk A970
                    clear A970
                    replace H := Option.bind_eq_some_iff.mp H
                    obtain ⟨t336, A980, H⟩ := H
                    replace H : (some t336) = some r := H
                    have A98 := Aside0.mk A980
                    clear A980
                    as_aux_lemma =>
                      obtain rfl := Option.some.inj H
                      have hcz99_0 := HW.zc BK257.out 0 (.int .i64 a0_0)
                      have hcz99_1 := HW.zc BK257.out 1 (.string a0_1)
                      have hcz99_2 := HW.zc BK257.out 2 (.string a0_2)
                      have hcz99_3 := HW.zc BK257.out 3 (.int .i64 a0_3)
                      have hcz99_4 := HW.zc BK257.out 4 (.int .u64 a0_4)
                      have hcz99_5 := HW.zc BK257.out 5 (.int .u64 a0_5)
                      have hcz99_6 := HW.zc BK257.out 6 (.slice A0_6 l0_6.length c0_6)
                      have hcz99_7 := HW.zc BK257.out 7 (.slice A0_7 l0_7.length c0_7)
                      go_wp2_with (first | ((with_reducible refine gate_callee (f := 41) rfl ?_); refine HW.gz (some 142) rfl rfl Tryd.func41 (by kernel_rfl) rfl #[.slice none 0 0, .int .u64 a0_4] rfl ?_; (with_reducible refine (spec_DocInt64.calls kj52 (fun k_ => some k_ = (.slice none 0 0 : Value).ownBlock) (.slice none 0 0) ([] : List Int) a0_4 t333 w _ ?side1 ?side2 A97.out).mono ?_); (case side1 => exact HW.zb); (case side2 => exact Kd.R_tight rfl HO_3.out); rintro e w100 ⟨v334, rfl, ho0, hb, hkp⟩; refine ⟨_, rfl, ?_⟩; have n0_ := Aside0.mk (blk_kept (HW.zB BK257.out) hkp (fun hs_ => (fun e_ => (Kd.R_ne HO_3.out BK257.out (by decide)) e_) hs_)); have n1_ := Aside0.mk (Kd.R_mono (ok' := fun k_ => True) ho0 (fun k_ hk_ => trivial)); have n2_ := Aside0.mk (hb); clear BK257; clear HB; clear HO_3; have BK257 := n0_; have HO335 := n1_; have HB := n2_; clear n0_ n1_ n2_; (try clear hb); (try clear hkp); (try clear ho0); have hcz101_0 := HW.zc BK257.out 0 (.int .i64 a0_0); have hcz101_1 := HW.zc BK257.out 1 (.string a0_1); have hcz101_2 := HW.zc BK257.out 2 (.string a0_2); have hcz101_3 := HW.zc BK257.out 3 (.int .i64 a0_3); have hcz101_4 := HW.zc BK257.out 4 (.int .u64 a0_4); have hcz101_5 := HW.zc BK257.out 5 (.int .u64 a0_5); have hcz101_6 := HW.zc BK257.out 6 (.slice A0_6 l0_6.length c0_6); have hcz101_7 := HW.zc BK257.out 7 (.slice A0_7 l0_7.length c0_7); obtain ⟨Ao102, co102, eo102⟩ := Kd.R_slice HO335.out; subst eo102) | ((with_reducible refine gate_callee (f := 41) rfl ?_); refine HW.gz (some 146) rfl rfl Tryd.func41 (by kernel_rfl) rfl #[.slice Ao102 t333.length co102, .int .u64 a0_5] rfl ?_; (with_reducible refine (spec_DocInt64.calls kj52 (fun k_ => some k_ = (.slice Ao102 t333.length co102 : Value).ownBlock) (.slice Ao102 t333.length co102) t333 a0_5 t336 w _ ?side1 ?side2 A98.out).mono ?_); (case side1 => exact HW.zb); (case side2 => exact Kd.R_tight rfl HO335.out); rintro e w103 ⟨v337, rfl, ho0, hb, hkp⟩; refine ⟨_, rfl, ?_⟩; have n0_ := Aside0.mk (blk_kept (HW.zB BK257.out) hkp (fun hs_ => (fun e_ => (Kd.R_ne HO335.out BK257.out (by decide)) e_) hs_)); have n1_ := Aside0.mk (Kd.R_mono (ok' := fun k_ => True) ho0 (fun k_ hk_ => trivial)); have n2_ := Aside0.mk (hb); clear BK257; clear HB; clear HO335; have BK257 := n0_; have HO338 := n1_; have HB := n2_; clear n0_ n1_ n2_; (try clear hb); (try clear hkp); (try clear ho0)))
                      go_ret
                      exact ⟨_, by first | rfl | (simp [errW_none, errW_some] <;> rfl) | (simp [*, errW_none, errW_some] <;> rfl), HW.zR HO338.out, HW.zb⟩
                  rw [if_pos c81] at H
                  have c81b0 : (a0_0 == 15) = true := beq_iff_eq.mpr c81
                  have c81b1 : (a0_0 != 15) = false := bne_eq_false_iff_eq.mpr c81
                  clear c81
                  replace H := Option.bind_eq_some_iff.mp H
                  obtain ⟨t318, A820, H⟩ := H
                  replace H : ((spec_DocBytes.f kj52 l0_7).bind fun t321 => ((spec_DocInt32.f ([] : List Int) (wrap64 ((wrap64 (4 + (t318.length : Int))) + (t321.length : Int)))).bind fun t324 => (if t324.length + t318.length < 140737488355328 then ((some (t324 ++ t318 : List Int)).bind fun y327 => (if y327.length + t321.length < 140737488355328 then (some (y327 ++ t321)) else (none))) else (none)))) = some r := H
                  have A82 := Aside0.mk A820
                  clear A820
                  replace H := Option.bind_eq_some_iff.mp H
                  obtain ⟨t321, A830, H⟩ := H
                  replace H : ((spec_DocInt32.f ([] : List Int) (wrap64 ((wrap64 (4 + (t318.length : Int))) + (t321.length : Int)))).bind fun t324 => (if t324.length + t318.length < 140737488355328 then ((some (t324 ++ t318 : List Int)).bind fun y327 => (if y327.length + t321.length < 140737488355328 then (some (y327 ++ t321)) else (none))) else (none))) = some r := H
                  have A83 := Aside0.mk A830
                  clear A830
                  replace H := Option.bind_eq_some_iff.mp H
                  obtain ⟨t324, A840, H⟩ := H
                  replace H : (if t324.length + t318.length < 140737488355328 then ((some (t324 ++ t318 : List Int)).bind fun y327 => (if y327.length + t321.length < 140737488355328 then (some (y327 ++ t321)) else (none))) else (none)) = some r := H
                  have A84 := Aside0.mk A840
                  clear A840
                  by_cases c85 : t324.length + t318.length < 140737488355328
                  rotate_left
                  · rw [if_neg c85] at H
                    exact absurd H (by simp)
                  rw [if_pos c85] at H
                  have LMc85 := Aside0.mk c85
                  clear c85
                  obtain ⟨y327, hy327⟩ : ∃ y_ : List Int, y_ = (t324 ++ t318) := ⟨_, rfl⟩
                  replace H : (if y327.length + t321.length < 140737488355328 then (some (y327 ++ t321)) else (none)) = some r := by first | (rw [hy327]; with_reducible exact H) | (have H2_ := (Option.bind_some _ _).symm.trans H; rw [hy327]; with_reducible exact H2_) | (have H2_ := (Option.bind_some _ _).symm.trans H; with_reducible exact H2_) | with_reducible exact H | (rw [hy327]; exact H) | exact H
                  have Ny327 := Aside0.mk hy327
                  clear hy327
                  by_cases c86 : y327.length + t321.length < 140737488355328
                  rotate_left
                  · rw [if_neg c86] at H
                    exact absurd H (by simp)
                  rw [if_pos c86] at H
                  have LMc86 := Aside0.mk c86
                  clear c86
                  obtain ⟨y330, hy330⟩ : ∃ y_ : List Int, y_ = (y327 ++ t321) := ⟨_, rfl⟩
                  replace H : (some y330) = some r := by first | (rw [hy330]; with_reducible exact H) | (have H2_ := (Option.bind_some _ _).symm.trans H; rw [hy330]; with_reducible exact H2_) | (have H2_ := (Option.bind_some _ _).symm.trans H; with_reducible exact H2_) | with_reducible exact H | (rw [hy330]; exact H) | exact H
                  have Ny330 := Aside0.mk hy330
                  clear hy330
                  as_aux_lemma =>
                    obtain rfl := Option.some.inj H
                    have hcz87_0 := HW.zc BK257.out 0 (.int .i64 a0_0)
                    have hcz87_1 := HW.zc BK257.out 1 (.string a0_1)
                    have hcz87_2 := HW.zc BK257.out 2 (.string a0_2)
                    have hcz87_3 := HW.zc BK257.out 3 (.int .i64 a0_3)
                    have hcz87_4 := HW.zc BK257.out 4 (.int .u64 a0_4)
                    have hcz87_5 := HW.zc BK257.out 5 (.int .u64 a0_5)
                    have hcz87_6 := HW.zc BK257.out 6 (.slice A0_6 l0_6.length c0_6)
                    have hcz87_7 := HW.zc BK257.out 7 (.slice A0_7 l0_7.length c0_7)
                    go_wp2_with (first | ((with_reducible refine gate_callee (f := 42) rfl ?_); refine HW.gz (some 119) rfl rfl Tryd.func42 (by kernel_rfl) rfl #[.slice none 0 0, .string a0_1] rfl ?_; (refine (spec_docText.calls (fun k_ => some k_ = (.slice none 0 0 : Value).ownBlock) (.slice none 0 0) ([] : List Int) a0_1 t318 w _ ?side1 ?side2 A82.out).mono ?_); (case side1 => exact HW.zb); (case side2 => exact Kd.R_nil _ _ _ _ _); rintro e w88 ⟨v319, rfl, ho0, hb, hkp⟩; refine ⟨_, rfl, ?_⟩; have n0_ := Aside0.mk (Kd.R_mono (ok' := fun k_ => some k_ ≠ (v319 : Value).ownBlock) (Kd.R_keptB (HO_3.out) hkp (fun k_ hk_ hs_ => (fun e_ => by simp [Value.ownBlock] at e_) hs_)) (fun k_ hk_ => fun e_ => Or.elim (ho0.1 k_ e_.symm) (fun hs_ => hk_.2.1 hs_) (fun hn_ => Nat.not_le.2 hk_.2.2 hn_))); have n1_ := Aside0.mk (blk_kept (HW.zB BK257.out) hkp (fun hs_ => (fun e_ => by simp [Value.ownBlock] at e_) hs_)); have n2_ := Aside0.mk (Kd.R_mono (ok' := fun k_ => some k_ ≠ (.slice none 0 0 : Value).ownBlock) ho0 (fun k_ hk_ => Or.elim hk_ (fun hs_ => absurd hs_ (by simp [Value.ownBlock])) (fun hn_ => (Kd.fresh' (Kd.R_lt (HW.zR HO_3.out)) k_ hn_)))); have n3_ := Aside0.mk (hb); clear HO_3; clear BK257; clear HB; have HO_3 := n0_; have BK257 := n1_; have HO320 := n2_; have HB := n3_; clear n0_ n1_ n2_ n3_; (try clear hb); (try clear hkp); (try clear ho0); have hcz89_0 := HW.zc BK257.out 0 (.int .i64 a0_0); have hcz89_1 := HW.zc BK257.out 1 (.string a0_1); have hcz89_2 := HW.zc BK257.out 2 (.string a0_2); have hcz89_3 := HW.zc BK257.out 3 (.int .i64 a0_3); have hcz89_4 := HW.zc BK257.out 4 (.int .u64 a0_4); have hcz89_5 := HW.zc BK257.out 5 (.int .u64 a0_5); have hcz89_6 := HW.zc BK257.out 6 (.slice A0_6 l0_6.length c0_6); have hcz89_7 := HW.zc BK257.out 7 (.slice A0_7 l0_7.length c0_7)) | ((with_reducible refine gate_callee (f := 10) rfl ?_); refine HW.gz (some 122) rfl rfl Tryd.func10 (by kernel_rfl) rfl #[.slice A0_7 l0_7.length c0_7] rfl ?_; (with_reducible refine (Grp_spec_DocValue.get2 (ih kj52 (by have := HJ1.out; have := HJ9.out; have := HJ16.out; have := HJ52.out; omega)) _ _ l0_7 t321 _ ?side1 ?side2 A83.out).mono ?_); (case side1 => repeat (first | exact (Kd.C_below HR0_7.out HB.out) | (with_reducible refine Kd.C_alloc ?_ _) | (with_reducible refine Kd.C_drewN ?_ _) | (with_reducible refine Kd.C_drew ?_))); (case side2 => exact HC0_7.out); rintro e w90 ⟨v322, rfl, ho0, hb⟩; refine ⟨_, rfl, ?_⟩; have n0_ := Aside0.mk (Kd.R_elder' (HW.zR HO_3.out) (Kd.R_base ho0) hb); have n1_ := Aside0.mk (Kd.R_elder' (HW.zR HO320.out) (Kd.R_base ho0) hb); have n2_ := Aside0.mk (Kd.R_lower (Kd.R_new' (Kd.R_new' ho0 (Kd.R_lt (HW.zR HO_3.out))) (Kd.R_lt (HW.zR HO320.out))) (below_size HW.zb)); have n4_ := Aside0.mk (below_step HW.zb hb); clear HO_3; clear HO320; clear HB; have HO_3 := n0_; have HO320 := n1_; have HO323 := n2_; have HB := n4_; clear n0_ n1_ n2_ n4_; (try clear hb); (try clear hb2); (try clear hk); (try clear hi); (try clear ho0); obtain ⟨Ao91, co91, eo91⟩ := Kd.R_slice HO320.out; subst eo91; obtain ⟨Ao92, co92, eo92⟩ := Kd.R_slice HO323.out; subst eo92) | ((with_reducible refine gate_callee (f := 21) rfl ?_); refine HW.gz (some 130) rfl rfl Tryd.func21 (by kernel_rfl) rfl #[.slice none 0 0, .int .i64 (wrap64 ((wrap64 (4 + (t318.length : Int))) + (t321.length : Int)))] rfl ?_; (with_reducible refine (spec_DocInt32.calls (fun k_ => some k_ = (.slice none 0 0 : Value).ownBlock) (.slice none 0 0) ([] : List Int) (wrap64 ((wrap64 (4 + (t318.length : Int))) + (t321.length : Int))) t324 w _ ?side1 ?side2 A84.out).mono ?_); (case side1 => exact HW.zb); (case side2 => exact Kd.R_tight rfl HO_3.out); rintro e w93 ⟨v325, rfl, ho0, hb, hkp⟩; refine ⟨_, rfl, ?_⟩; have n1_ := Aside0.mk (Kd.R_mono (ok' := fun k_ => some k_ ≠ (.slice Ao92 t321.length co92 : Value).ownBlock ∧ some k_ ≠ (v325 : Value).ownBlock) (Kd.R_keptB (HO320.out) hkp (fun k_ hk_ hs_ => (hk_.1) hs_)) (fun k_ hk_ => ⟨hk_.1.2, fun e_ => Or.elim (ho0.1 k_ e_.symm) (fun hs_ => hk_.2.1 hs_) (fun hn_ => Nat.not_le.2 hk_.2.2 hn_)⟩)); have n2_ := Aside0.mk (Kd.R_mono (ok' := fun k_ => some k_ ≠ (.slice Ao91 t318.length co91 : Value).ownBlock ∧ some k_ ≠ (v325 : Value).ownBlock) (Kd.R_keptB (HO323.out) hkp (fun k_ hk_ hs_ => (hk_.1.2) hs_)) (fun k_ hk_ => ⟨hk_.1.2, fun e_ => Or.elim (ho0.1 k_ e_.symm) (fun hs_ => hk_.2.1 hs_) (fun hn_ => Nat.not_le.2 hk_.2.2 hn_)⟩)); have n3_ := Aside0.mk (Kd.R_mono (ok' := fun k_ => some k_ ≠ (.slice Ao91 t318.length co91 : Value).ownBlock ∧ some k_ ≠ (.slice Ao92 t321.length co92 : Value).ownBlock) ho0 (fun k_ hk_ => ⟨Or.elim hk_ (fun hs_ => fun e_ => (((HO320.out).1 k_ e_.symm).1) hs_) (fun hn_ => (Kd.fresh' (Kd.R_lt (HW.zR HO320.out)) k_ hn_)), Or.elim hk_ (fun hs_ => fun e_ => (((HO323.out).1 k_ e_.symm).1.2) hs_) (fun hn_ => (Kd.fresh' (Kd.R_lt (HW.zR HO323.out)) k_ hn_))⟩)); have n4_ := Aside0.mk (hb); clear HO320; clear HO323; clear HB; clear HO_3; have HO320 := n1_; have HO323 := n2_; have HO326 := n3_; have HB := n4_; clear n1_ n2_ n3_ n4_; (try clear hb); (try clear hkp); (try clear ho0)) | ((with_reducible refine gate_builtin (b := .append) (xs := #[.tmp 131, .tmp 132]) rfl ?_); at_builtin; refine Kd.R_append_rows (Kd.int .u8) (w0 := w) w.heap.size rfl (.tmp 131) (.tmp 132) 23 5 (.int .u8 0) 1 rfl Tryd.underlying23 info5 rfl (by decide) (by omega) v325 t324 t318 _ _ _ (fun k_ => some k_ ≠ (.slice Ao91 t318.length co91 : Value).ownBlock ∧ some k_ ≠ (.slice Ao92 t321.length co92 : Value).ownBlock) (fun _ => False) rfl rfl ?aO ?aR (fun _ _ h => h) (fun _ h => h.elim) ?aF ?aB ?aS ?aL ?_; (case aR => repeat (first | exact (Kd.R_reads' HO320.out).2.2 | (with_reducible refine Kd.C_alloc ?_ _) | (with_reducible refine Kd.C_drewN ?_ _) | (with_reducible refine Kd.C_drew ?_))); (case aB => exact HW.zb); (case aF => exact (fun k_ hk => ⟨Kd.fresh' (Kd.R_lt (HW.zR HO320.out)) k_ hk, Kd.fresh' (Kd.R_lt (HW.zR HO323.out)) k_ hk⟩)); (case aO => exact (HW.zR HO326.out)); (case aS => exact (below_size HW.zb)); (case aL => have := LMc85.out; omega); intro v328 w94 ho hb hg hat; rw [← Ny327.out] at ho; have n1_ := Aside0.mk (Kd.R_after (ok := (fun k_ => some k_ ≠ (.slice Ao92 t321.length co92 : Value).ownBlock)) (HW.zR HO320.out) hg hat); have n2_ := Aside0.mk (Kd.R_after (ok := (fun k_ => some k_ ≠ (.slice Ao91 t318.length co91 : Value).ownBlock)) (HW.zR HO323.out) hg hat); have n3_ := Aside0.mk (hb); have n4_ := Aside0.mk (ho); clear HO320; clear HO323; clear HB; clear HO326; have HO320 := n1_; have HO323 := n2_; have HB := n3_; have HO329 := n4_; clear n1_ n2_ n3_ n4_; clear ho hb hg hat) | ((with_reducible refine gate_builtin (b := .append) (xs := #[.tmp 134, .tmp 135]) rfl ?_); at_builtin; refine Kd.R_append_rows (Kd.int .u8) (w0 := w) w.heap.size rfl (.tmp 134) (.tmp 135) 23 5 (.int .u8 0) 1 rfl Tryd.underlying23 info5 rfl (by decide) (by omega) v328 y327 t321 _ _ _ (fun k_ => some k_ ≠ (.slice Ao91 t318.length co91 : Value).ownBlock ∧ some k_ ≠ (.slice Ao92 t321.length co92 : Value).ownBlock) (fun _ => False) rfl rfl ?aO ?aR (fun _ _ h => h) (fun _ h => h.elim) ?aF ?aB ?aS ?aL ?_; (case aR => repeat (first | exact (Kd.R_reads' HO323.out).2.2 | (with_reducible refine Kd.C_alloc ?_ _) | (with_reducible refine Kd.C_drewN ?_ _) | (with_reducible refine Kd.C_drew ?_))); (case aB => exact HW.zb); (case aF => exact (fun k_ hk => ⟨Kd.fresh' (Kd.R_lt (HW.zR HO320.out)) k_ hk, Kd.fresh' (Kd.R_lt (HW.zR HO323.out)) k_ hk⟩)); (case aO => exact (HW.zR HO329.out)); (case aS => exact (below_size HW.zb)); (case aL => have := LMc86.out; omega); intro v331 w95 ho hb hg hat; rw [← Ny330.out] at ho; have n3_ := Aside0.mk (hb); have n4_ := Aside0.mk (ho); clear HB; clear HO329; have HB := n3_; have HO332 := n4_; clear n3_ n4_; clear ho hb hg hat))
                    go_ret
                    exact ⟨_, by first | rfl | (simp [errW_none, errW_some] <;> rfl) | (simp [*, errW_none, errW_some] <;> rfl), by (with_reducible repeat (first | apply Kd.R_alloc | apply Kd.R_drewN | apply Kd.R_drew)); exact Kd.R_mono HO332.out (fun _ hk => trivial), HW.zb⟩

end Go.Proofs.YtlcgakpnpdkjjaaDoor.PRd
