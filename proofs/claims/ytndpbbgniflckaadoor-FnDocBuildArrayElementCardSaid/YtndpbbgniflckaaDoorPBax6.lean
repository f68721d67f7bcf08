/- Printed by a program of this session (a turned copy of the printer of the kit): contracts of functions of the translation, each with the Lean function that it computes. Conditions: as each theorem states them. -/
import Derived.Test.YtndpbbgniflckaaDoorPBax0
import Derived.Test.YtndpbbgniflckaaDoorPBax4
import Derived.Test.YtndpbbgniflckaaDoorPBax5
namespace Go.Proofs.YtndpbbgniflckaaDoor.PBa
open Go.RowKit Go.Proofs.YtndpbbgniflckaaDoorW.PrintWords Go.Proofs.YtndpbbgniflckaaDoorW.PrintLast Go.Proofs.YtndpbbgniflckaaDoorW.PrintMore
attribute [local go_sem] max2_int min2_int max_two min_two max_three min_three max_four min_four   -- for this text's walks alone
set_option linter.unusedVariables false
set_option linter.unusedSimpArgs false

/-! ### spec_DocValue: function 13 -/
set_option maxHeartbeats 8000000 in
set_option maxRecDepth 100000 in
theorem spec_DocValue.step (k : Nat) (ih : ∀ j, j < k → Grp_spec_DocBytes.Spec j) : ∀ (a0_0 : Int) (a0_1 : ByteArray) (a0_2 : ByteArray) (a0_3 : Int) (a0_4 : Int) (a0_5 : Int) (A0_6 : Option Addr) (c0_6 : Nat) (l0_6 : List Int) (A0_7 : Option Addr) (c0_7 : Nat) (l0_7 : List (S31)) (r : List Int) (w : World) (hr0_6 : Kd.C (Kd.int .u8) w A0_6 l0_6.length l0_6) (hc0_6 : l0_6.length ≤ c0_6) (hr0_7 : Kd.C k31 w A0_7 l0_7.length l0_7) (hc0_7 : l0_7.length ≤ c0_7) (h : spec_DocValue.f k a0_0 a0_1 a0_2 a0_3 a0_4 a0_5 l0_6 l0_7 = some r),
    Calls Tryd.prog 13 #[.agg #[.int .i64 a0_0, .string a0_1, .string a0_2, .int .i64 a0_3, .int .u64 a0_4, .int .u64 a0_5, .slice A0_6 l0_6.length c0_6, .slice A0_7 l0_7.length c0_7]] w fun e w' => ∃ v0_ : Value, e = .returned (v0_) ∧ Kd.R (Kd.int .u8) 5 w' w.heap.size (fun _ => True) v0_ r ∧ Below w.heap.size w w' := by
  intro a0_0 a0_1 a0_2 a0_3 a0_4 a0_5 A0_6 c0_6 l0_6 A0_7 c0_7 l0_7 r w hr0_6 hc0_6 hr0_7 hc0_7 h
  cases k with
  | zero => exact absurd h (by simp [spec_DocValue.f])
  | succ k =>
  simp only [spec_DocValue.f] at h
  have hu26 := Tryd.underlying26
  have HR0_6 := Aside0.mk hr0_6
  have HC0_6 := Aside0.mk hc0_6
  clear hr0_6 hc0_6
  have HR0_7 := Aside0.mk hr0_7
  have HC0_7 := Aside0.mk hc0_7
  clear hr0_7 hc0_7
  have HB := Aside0.mk (Below.refl w.heap.size w)
  have H : (if a0_0 = 1 then (spec_DocValue.j0 k ([] : List Int) a0_0 (a0_0 == 1) a0_0 a0_1 a0_2 a0_3 a0_4 a0_5 l0_6 l0_7) else (spec_DocValue.j0 k ([] : List Int) a0_0 (a0_0 == 17) a0_0 a0_1 a0_2 a0_3 a0_4 a0_5 l0_6 l0_7)) = some r := h
  clear h
  have HC2 := Aside0.mk H
  clear H
  go_enter Tryd.func13, Tryd.ntmps13
  go_upto_if 9 with (first | ((with_reducible refine gate_dst (N := 1) rfl ?_); refine box_event ?hg (N := 1) ?hd (cs := #[.int .i64 a0_0, .string a0_1, .string a0_2, .int .i64 a0_3, .int .u64 a0_4, .int .u64 a0_5, .slice A0_6 l0_6.length c0_6, .slice A0_7 l0_7.length c0_7]) (t := 26) ?hr ?_; (case hd => rfl); (case hg => rfl); (case hr => first | (go_simp; done) | (go_simp; rfl)); intro gb272 hg w3 hbox hb; have n0_ := Aside0.mk (below_step (by repeat (first | (with_reducible first | exact HB.out | apply below_alloc | apply pw_below_drewN | apply below_drew1) | exact HB.out)) hb); have n1_ := Aside0.mk (hbox); have n2_ := Aside0.mk ((by rw [hg]; exact (below_size (by repeat (first | (with_reducible first | exact HB.out | apply below_alloc | apply pw_below_drewN | apply below_drew1) | exact HB.out))) : w.heap.size ≤ gb272)); have n3_ := Aside0.mk ((by rw [hg]; exact (below_size (by repeat (first | (with_reducible first | exact HB.out | apply below_alloc | apply pw_below_drewN | apply below_drew1) | exact HB.out))) : w.heap.size ≤ gb272)); clear HB; have HB := n0_; have BK272 := n1_; have GW272 := n2_; have GE272 := n3_; clear n0_ n1_ n2_ n3_; clear hb hbox hg; have hcz4_0 : w3.cell? ⟨gb272, 0, none⟩ = some (.int .i64 a0_0) := (blk_cell BK272.out 0).trans rfl; have hcz4_1 : w3.cell? ⟨gb272, 1, none⟩ = some (.string a0_1) := (blk_cell BK272.out 1).trans rfl; have hcz4_2 : w3.cell? ⟨gb272, 2, none⟩ = some (.string a0_2) := (blk_cell BK272.out 2).trans rfl; have hcz4_3 : w3.cell? ⟨gb272, 3, none⟩ = some (.int .i64 a0_3) := (blk_cell BK272.out 3).trans rfl; have hcz4_4 : w3.cell? ⟨gb272, 4, none⟩ = some (.int .u64 a0_4) := (blk_cell BK272.out 4).trans rfl; have hcz4_5 : w3.cell? ⟨gb272, 5, none⟩ = some (.int .u64 a0_5) := (blk_cell BK272.out 5).trans rfl; have hcz4_6 : w3.cell? ⟨gb272, 6, none⟩ = some (.slice A0_6 l0_6.length c0_6) := (blk_cell BK272.out 6).trans rfl; have hcz4_7 : w3.cell? ⟨gb272, 7, none⟩ = some (.slice A0_7 l0_7.length c0_7) := (blk_cell BK272.out 7).trans rfl; have hfz4_0 := blk_frozen BK272.out 0; have hfz4_1 := blk_frozen BK272.out 1; have hfz4_2 := blk_frozen BK272.out 2; have hfz4_3 := blk_frozen BK272.out 3; have hfz4_4 := blk_frozen BK272.out 4; have hfz4_5 := blk_frozen BK272.out 5; have hfz4_6 := blk_frozen BK272.out 6; have hfz4_7 := blk_frozen BK272.out 7))
  (try simp only [Act.put, List.setIfInBounds_toArray, List.set_cons_zero, List.set_cons_succ])
  go_cut [9] (fun v9 wc => ∃ (kq : Nat) (x9_1 : Bool), v9 = .bool x9_1 ∧ Aside0 (spec_DocValue.j0 kq ([] : List Int) a0_0 x9_1 a0_0 a0_1 a0_2 a0_3 a0_4 a0_5 l0_6 l0_7 = some r) ∧ Aside0 (kq ≤ k) ∧ Aside0 (Kd.R (Kd.int .u8) 5 wc w.heap.size (fun _ => True) (.slice none 0 0) ([] : List Int)) ∧ Aside0 (wc.heap[gb272]? = some (.cells #[.int .i64 a0_0, .string a0_1, .string a0_2, .int .i64 a0_3, .int .u64 a0_4, .int .u64 a0_5, (.slice A0_6 l0_6.length c0_6), (.slice A0_7 l0_7.length c0_7)] 26 (0, 0))) ∧ Aside0 (Below w.heap.size w wc))
  case first =>
    have H := HC2.out
    clear HC2
    by_cases c5 : a0_0 = 1
    · rw [if_pos c5] at H
      have c5b0 : (a0_0 == 1) = true := beq_iff_eq.mpr c5
      have c5b1 : (a0_0 != 1) = false := bne_eq_false_iff_eq.mpr c5
      clear c5
      (first | rw [c5b0] | (simp only [i64_w, i32_w]; rw [c5b0]) | skip)
      as_aux_lemma =>
        have H' := Aside0.mk H
        clear H
        go_wp2
        go_meet
        case rel => exact ⟨_, ((a0_0 == 1)), (by first | rfl | (simp; done) | (simp [*]; done)), H', ⟨by first | omega | exact Nat.le_refl _⟩, ⟨by first | exact Kd.R_nil _ _ _ _ _ | exact Kd.N_nil _ _ _ _ _ | exact Kd.V_nil _ _ _ _ _ | exact Kd.Q_nil _ _ _ _ _ | exact Kd.S_nil _ _ _ _ _⟩, ⟨by (with_reducible repeat (first | refine blk_drewN ?_ _ | refine blk_drew ?_ | refine blk_alloc ?_ _)); exact BK272.out⟩, ⟨by repeat (first | (with_reducible first | exact HB.out | apply below_alloc | apply pw_below_drewN | apply below_drew1 | refine below_set ?_ GE272.out) | exact HB.out)⟩⟩
    · rw [if_neg c5] at H
      have c5b0 : (a0_0 == 1) = false := beq_eq_false_iff_ne.mpr c5
      have c5b1 : (a0_0 != 1) = true := bne_iff_ne.mpr c5
      (first | rw [c5b0] | (simp only [i64_w, i32_w]; rw [c5b0]) | skip)
      as_aux_lemma =>
        have H' := Aside0.mk H
        clear H
        go_wp2
        go_meet
        case rel => exact ⟨_, ((a0_0 == 17)), (by first | rfl | (simp; done) | (simp [*]; done)), H', ⟨by first | omega | exact Nat.le_refl _⟩, ⟨by first | exact Kd.R_nil _ _ _ _ _ | exact Kd.N_nil _ _ _ _ _ | exact Kd.V_nil _ _ _ _ _ | exact Kd.Q_nil _ _ _ _ _ | exact Kd.S_nil _ _ _ _ _⟩, ⟨by (with_reducible repeat (first | refine blk_drewN ?_ _ | refine blk_drew ?_ | refine blk_alloc ?_ _)); exact BK272.out⟩, ⟨by repeat (first | (with_reducible first | exact HB.out | apply below_alloc | apply pw_below_drewN | apply below_drew1 | refine below_set ?_ GE272.out) | exact HB.out)⟩⟩
  case rest =>
    clear HC2
    try clear c1
    try clear p2
    try clear c5
    try clear c5b0
    try clear c5b1
    try clear hcz4_0
    try clear hcz4_1
    try clear hcz4_2
    try clear hcz4_3
    try clear hcz4_4
    try clear hcz4_5
    try clear hcz4_6
    try clear hcz4_7
    try clear hfz4_0
    try clear hfz4_1
    try clear hfz4_2
    try clear hfz4_3
    try clear hfz4_4
    try clear hfz4_5
    try clear hfz4_6
    try clear hfz4_7
    obtain ⟨kq, x9_1, rfl, HA, HJ1, HO_3, BK272, HB⟩ := hcut
    cases kq with
    | zero => exact absurd HA.out (by simp [spec_DocValue.j0])
    | succ kj1 =>
      have H := HA.out
      clear HA
      simp only [spec_DocValue.j0] at H
      by_cases c6 : x9_1 = true
      · subst c6
        have H1 : ((spec_DocInt64.f kj1 ([] : List Int) a0_4).bind fun t273 => (some t273)) = some r := by rw [if_pos rfl] at H; exact H
        clear H
        have H := H1
        clear H1
        replace H := Option.bind_eq_some_iff.mp H
        obtain ⟨t273, A70, H⟩ := H
        replace H : (some t273) = some r := H
        have A7 := Aside0.mk A70
        clear A70
        as_aux_lemma =>
          obtain rfl := Option.some.inj H
          have hcz8_0 : wc.cell? ⟨gb272, 0, none⟩ = some (.int .i64 a0_0) := (blk_cell BK272.out 0).trans rfl
          have hcz8_1 : wc.cell? ⟨gb272, 1, none⟩ = some (.string a0_1) := (blk_cell BK272.out 1).trans rfl
          have hcz8_2 : wc.cell? ⟨gb272, 2, none⟩ = some (.string a0_2) := (blk_cell BK272.out 2).trans rfl
          have hcz8_3 : wc.cell? ⟨gb272, 3, none⟩ = some (.int .i64 a0_3) := (blk_cell BK272.out 3).trans rfl
          have hcz8_4 : wc.cell? ⟨gb272, 4, none⟩ = some (.int .u64 a0_4) := (blk_cell BK272.out 4).trans rfl
          have hcz8_5 : wc.cell? ⟨gb272, 5, none⟩ = some (.int .u64 a0_5) := (blk_cell BK272.out 5).trans rfl
          have hcz8_6 : wc.cell? ⟨gb272, 6, none⟩ = some (.slice A0_6 l0_6.length c0_6) := (blk_cell BK272.out 6).trans rfl
          have hcz8_7 : wc.cell? ⟨gb272, 7, none⟩ = some (.slice A0_7 l0_7.length c0_7) := (blk_cell BK272.out 7).trans rfl
          have hfz8_0 := blk_frozen BK272.out 0
          have hfz8_1 := blk_frozen BK272.out 1
          have hfz8_2 := blk_frozen BK272.out 2
          have hfz8_3 := blk_frozen BK272.out 3
          have hfz8_4 := blk_frozen BK272.out 4
          have hfz8_5 := blk_frozen BK272.out 5
          have hfz8_6 := blk_frozen BK272.out 6
          have hfz8_7 := blk_frozen BK272.out 7
          go_wp2_with (first | ((with_reducible refine gate_callee (f := 29) rfl ?_); refine goesL_ (some 15) rfl rfl Tryd.func29 (by kernel_rfl) rfl #[.slice none 0 0, .int .u64 a0_4] rfl (by (try simp only [List.map_toArray, List.map_cons, List.map_nil]); first | done | rfl | (simp only [List.length_drop, List.length_take]; rfl)) ?_; (with_reducible refine (spec_DocInt64.calls kj1 (fun k_ => some k_ = (.slice none 0 0 : Value).ownBlock) (.slice none 0 0) ([] : List Int) a0_4 t273 w _ ?side1 ?side2 A7.out).mono ?_); (case side1 => repeat (first | (with_reducible first | exact HB.out | apply below_alloc | apply pw_below_drewN | apply below_drew1 | refine below_set ?_ GE272.out) | exact HB.out)); (case side2 => exact Kd.R_tight rfl HO_3.out); rintro e w9 ⟨v274, rfl, ho0, hb, hkp⟩; refine ⟨_, rfl, ?_⟩; have n0_ := Aside0.mk (blk_kept (by (with_reducible repeat (first | refine blk_drewN ?_ _ | refine blk_drew ?_ | refine blk_alloc ?_ _)); exact BK272.out) hkp (fun hs_ => (fun e_ => (Kd.R_ne HO_3.out BK272.out (by decide)) e_) hs_)); have n1_ := Aside0.mk (Kd.R_mono (ok' := fun k_ => True) ho0 (fun k_ hk_ => trivial)); have n2_ := Aside0.mk (hb); clear BK272; clear HB; clear HO_3; have BK272 := n0_; have HO275 := n1_; have HB := n2_; clear n0_ n1_ n2_; (try clear hb); (try clear hkp); (try clear ho0)))
          go_ret
          exact ⟨_, by first | rfl | (simp [errW_none, errW_some] <;> rfl) | (simp [*, errW_none, errW_some] <;> rfl), by (with_reducible repeat (first | apply Kd.R_alloc | apply Kd.R_drewN | apply Kd.R_drew)); exact HO275.out, by repeat (first | (with_reducible first | exact HB.out | apply below_alloc | apply pw_below_drewN | apply below_drew1 | refine below_set ?_ GE272.out) | exact HB.out)⟩
      · replace c6 := Bool.eq_false_iff.mpr c6
        subst c6
        have H1 : (if a0_0 = 2 then (spec_DocValue.j1 kj1 ([] : List Int) a0_0 (a0_0 == 2) a0_0 a0_1 a0_2 a0_3 a0_4 a0_5 l0_6 l0_7) else (if a0_0 = 13 then (spec_DocValue.j1 kj1 ([] : List Int) a0_0 (a0_0 == 13) a0_0 a0_1 a0_2 a0_3 a0_4 a0_5 l0_6 l0_7) else (spec_DocValue.j1 kj1 ([] : List Int) a0_0 (a0_0 == 14) a0_0 a0_1 a0_2 a0_3 a0_4 a0_5 l0_6 l0_7))) = some r := by rw [if_neg (show ¬ (false = true) by decide)] at H; exact H
        clear H
        have H := H1
        clear H1
        have HC10 := Aside0.mk H
        clear H
        go_upto_if 16 with (fail)
        go_cut [16] (fun v16 wc => ∃ (kq : Nat) (x16_9 : Bool), v16 = .bool x16_9 ∧ Aside0 (spec_DocValue.j1 kq ([] : List Int) a0_0 x16_9 a0_0 a0_1 a0_2 a0_3 a0_4 a0_5 l0_6 l0_7 = some r) ∧ Aside0 (kq ≤ kj1) ∧ Aside0 (Kd.R (Kd.int .u8) 5 wc w.heap.size (fun _ => True) (.slice none 0 0) ([] : List Int)) ∧ Aside0 (wc.heap[gb272]? = some (.cells #[.int .i64 a0_0, .string a0_1, .string a0_2, .int .i64 a0_3, .int .u64 a0_4, .int .u64 a0_5, (.slice A0_6 l0_6.length c0_6), (.slice A0_7 l0_7.length c0_7)] 26 (0, 0))) ∧ Aside0 (Below w.heap.size w wc))
        case first =>
          have H := HC10.out
          clear HC10
          by_cases c11 : a0_0 = 2
          · rw [if_pos c11] at H
            have c11b0 : (a0_0 == 2) = true := beq_iff_eq.mpr c11
            have c11b1 : (a0_0 != 2) = false := bne_eq_false_iff_eq.mpr c11
            clear c11
            (first | rw [c11b0] | (simp only [i64_w, i32_w]; rw [c11b0]) | skip)
            as_aux_lemma =>
              have H' := Aside0.mk H
              clear H
              go_wp2
              go_meet
              case rel => exact ⟨_, ((a0_0 == 2)), (by first | rfl | (simp; done) | (simp [*]; done)), H', ⟨by have := HJ1.out; first | omega | exact Nat.le_refl _⟩, ⟨by (with_reducible repeat (first | apply Kd.R_alloc | apply Kd.R_drewN | apply Kd.R_drew)); exact HO_3.out⟩, ⟨by (with_reducible repeat (first | refine blk_drewN ?_ _ | refine blk_drew ?_ | refine blk_alloc ?_ _)); exact BK272.out⟩, ⟨by repeat (first | (with_reducible first | exact HB.out | apply below_alloc | apply pw_below_drewN | apply below_drew1 | refine below_set ?_ GE272.out) | exact HB.out)⟩⟩
          · rw [if_neg c11] at H
            have c11b0 : (a0_0 == 2) = false := beq_eq_false_iff_ne.mpr c11
            have c11b1 : (a0_0 != 2) = true := bne_iff_ne.mpr c11
            (first | rw [c11b0] | (simp only [i64_w, i32_w]; rw [c11b0]) | skip)
            by_cases c12 : a0_0 = 13
            · rw [if_pos c12] at H
              have c12b0 : (a0_0 == 13) = true := beq_iff_eq.mpr c12
              have c12b1 : (a0_0 != 13) = false := bne_eq_false_iff_eq.mpr c12
              clear c12
              as_aux_lemma =>
                have H' := Aside0.mk H
                clear H
                go_wp2
                go_meet
                case rel => exact ⟨_, ((a0_0 == 13)), (by first | rfl | (simp; done) | (simp [*]; done)), H', ⟨by have := HJ1.out; first | omega | exact Nat.le_refl _⟩, ⟨by (with_reducible repeat (first | apply Kd.R_alloc | apply Kd.R_drewN | apply Kd.R_drew)); exact HO_3.out⟩, ⟨by (with_reducible repeat (first | refine blk_drewN ?_ _ | refine blk_drew ?_ | refine blk_alloc ?_ _)); exact BK272.out⟩, ⟨by repeat (first | (with_reducible first | exact HB.out | apply below_alloc | apply pw_below_drewN | apply below_drew1 | refine below_set ?_ GE272.out) | exact HB.out)⟩⟩
            · rw [if_neg c12] at H
              have c12b0 : (a0_0 == 13) = false := beq_eq_false_iff_ne.mpr c12
              have c12b1 : (a0_0 != 13) = true := bne_iff_ne.mpr c12
              as_aux_lemma =>
                have H' := Aside0.mk H
                clear H
                go_wp2
                go_meet
                case rel => exact ⟨_, ((a0_0 == 14)), (by first | rfl | (simp; done) | (simp [*]; done)), H', ⟨by have := HJ1.out; first | omega | exact Nat.le_refl _⟩, ⟨by (with_reducible repeat (first | apply Kd.R_alloc | apply Kd.R_drewN | apply Kd.R_drew)); exact HO_3.out⟩, ⟨by (with_reducible repeat (first | refine blk_drewN ?_ _ | refine blk_drew ?_ | refine blk_alloc ?_ _)); exact BK272.out⟩, ⟨by repeat (first | (with_reducible first | exact HB.out | apply below_alloc | apply pw_below_drewN | apply below_drew1 | refine below_set ?_ GE272.out) | exact HB.out)⟩⟩
        case rest =>
          clear HC10
          try clear c1
          try clear c2
          try clear p2
          try clear c5
          try clear c5b0
          try clear c5b1
          try clear c6
          try clear c11
          try clear c11b0
          try clear c11b1
          try clear c12
          try clear c12b0
          try clear c12b1
          try clear hcz4_0
          try clear hcz4_1
          try clear hcz4_2
          try clear hcz4_3
          try clear hcz4_4
          try clear hcz4_5
          try clear hcz4_6
          try clear hcz4_7
          try clear hcz8_0
          try clear hcz8_1
          try clear hcz8_2
          try clear hcz8_3
          try clear hcz8_4
          try clear hcz8_5
          try clear hcz8_6
          try clear hcz8_7
          try clear hfz4_0
          try clear hfz4_1
          try clear hfz4_2
          try clear hfz4_3
          try clear hfz4_4
          try clear hfz4_5
          try clear hfz4_6
          try clear hfz4_7
          try clear hfz8_0
          try clear hfz8_1
          try clear hfz8_2
          try clear hfz8_3
          try clear hfz8_4
          try clear hfz8_5
          try clear hfz8_6
          try clear hfz8_7
          try clear p2
          obtain ⟨kq, x16_9, rfl, HA, HJ9, HO_3, BK272, HB⟩ := hcut
          cases kq with
          | zero => exact absurd HA.out (by simp [spec_DocValue.j1])
          | succ kj9 =>
            have H := HA.out
            clear HA
            simp only [spec_DocValue.j1] at H
            by_cases c13 : x16_9 = true
            · subst c13
              have H1 : ((spec_docText.f ([] : List Int) a0_1).bind fun t276 => (some t276)) = some r := by rw [if_pos rfl] at H; exact H
              clear H
              have H := H1
              clear H1
              replace H := Option.bind_eq_some_iff.mp H
              obtain ⟨t276, A140, H⟩ := H
              replace H : (some t276) = some r := H
              have A14 := Aside0.mk A140
              clear A140
              as_aux_lemma =>
                obtain rfl := Option.some.inj H
                have hcz15_0 : wc.cell? ⟨gb272, 0, none⟩ = some (.int .i64 a0_0) := (blk_cell BK272.out 0).trans rfl
                have hcz15_1 : wc.cell? ⟨gb272, 1, none⟩ = some (.string a0_1) := (blk_cell BK272.out 1).trans rfl
                have hcz15_2 : wc.cell? ⟨gb272, 2, none⟩ = some (.string a0_2) := (blk_cell BK272.out 2).trans rfl
                have hcz15_3 : wc.cell? ⟨gb272, 3, none⟩ = some (.int .i64 a0_3) := (blk_cell BK272.out 3).trans rfl
                have hcz15_4 : wc.cell? ⟨gb272, 4, none⟩ = some (.int .u64 a0_4) := (blk_cell BK272.out 4).trans rfl
                have hcz15_5 : wc.cell? ⟨gb272, 5, none⟩ = some (.int .u64 a0_5) := (blk_cell BK272.out 5).trans rfl
                have hcz15_6 : wc.cell? ⟨gb272, 6, none⟩ = some (.slice A0_6 l0_6.length c0_6) := (blk_cell BK272.out 6).trans rfl
                have hcz15_7 : wc.cell? ⟨gb272, 7, none⟩ = some (.slice A0_7 l0_7.length c0_7) := (blk_cell BK272.out 7).trans rfl
                have hfz15_0 := blk_frozen BK272.out 0
                have hfz15_1 := blk_frozen BK272.out 1
                have hfz15_2 := blk_frozen BK272.out 2
                have hfz15_3 := blk_frozen BK272.out 3
                have hfz15_4 := blk_frozen BK272.out 4
                have hfz15_5 := blk_frozen BK272.out 5
                have hfz15_6 := blk_frozen BK272.out 6
                have hfz15_7 := blk_frozen BK272.out 7
                go_wp2_with (first | ((with_reducible refine gate_callee (f := 30) rfl ?_); refine goesL_ (some 23) rfl rfl Tryd.func30 (by kernel_rfl) rfl #[.slice none 0 0, .string a0_1] rfl (by (try simp only [List.map_toArray, List.map_cons, List.map_nil]); first | done | rfl | (simp only [List.length_drop, List.length_take]; rfl)) ?_; (with_reducible refine (spec_docText.calls (fun k_ => some k_ = (.slice none 0 0 : Value).ownBlock) (.slice none 0 0) ([] : List Int) a0_1 t276 w _ ?side1 ?side2 A14.out).mono ?_); (case side1 => repeat (first | (with_reducible first | exact HB.out | apply below_alloc | apply pw_below_drewN | apply below_drew1 | refine below_set ?_ GE272.out) | exact HB.out)); (case side2 => exact Kd.R_tight rfl HO_3.out); rintro e w16 ⟨v277, rfl, ho0, hb, hkp⟩; refine ⟨_, rfl, ?_⟩; have n0_ := Aside0.mk (blk_kept (by (with_reducible repeat (first | refine blk_drewN ?_ _ | refine blk_drew ?_ | refine blk_alloc ?_ _)); exact BK272.out) hkp (fun hs_ => (fun e_ => (Kd.R_ne HO_3.out BK272.out (by decide)) e_) hs_)); have n1_ := Aside0.mk (Kd.R_mono (ok' := fun k_ => True) ho0 (fun k_ hk_ => trivial)); have n2_ := Aside0.mk (hb); clear BK272; clear HB; clear HO_3; have BK272 := n0_; have HO278 := n1_; have HB := n2_; clear n0_ n1_ n2_; (try clear hb); (try clear hkp); (try clear ho0)))
                go_ret
                exact ⟨_, by first | rfl | (simp [errW_none, errW_some] <;> rfl) | (simp [*, errW_none, errW_some] <;> rfl), by (with_reducible repeat (first | apply Kd.R_alloc | apply Kd.R_drewN | apply Kd.R_drew)); exact HO278.out, by repeat (first | (with_reducible first | exact HB.out | apply below_alloc | apply pw_below_drewN | apply below_drew1 | refine below_set ?_ GE272.out) | exact HB.out)⟩
            · replace c13 := Bool.eq_false_iff.mpr c13
              subst c13
              have H1 : (if a0_0 = 3 then (spec_DocValue.j2 kj9 ([] : List Int) a0_0 (a0_0 == 3) a0_0 a0_1 a0_2 a0_3 a0_4 a0_5 l0_6 l0_7) else (spec_DocValue.j2 kj9 ([] : List Int) a0_0 (a0_0 == 4) a0_0 a0_1 a0_2 a0_3 a0_4 a0_5 l0_6 l0_7)) = some r := by rw [if_neg (show ¬ (false = true) by decide)] at H; exact H
              clear H
              have H := H1
              clear H1
              have HC17 := Aside0.mk H
              clear H
              go_upto_if 24 with (fail)
              go_cut [24] (fun v24 wc => ∃ (kq : Nat) (x24_16 : Bool), v24 = .bool x24_16 ∧ Aside0 (spec_DocValue.j2 kq ([] : List Int) a0_0 x24_16 a0_0 a0_1 a0_2 a0_3 a0_4 a0_5 l0_6 l0_7 = some r) ∧ Aside0 (kq ≤ kj9) ∧ Aside0 (Kd.R (Kd.int .u8) 5 wc w.heap.size (fun _ => True) (.slice none 0 0) ([] : List Int)) ∧ Aside0 (wc.heap[gb272]? = some (.cells #[.int .i64 a0_0, .string a0_1, .string a0_2, .int .i64 a0_3, .int .u64 a0_4, .int .u64 a0_5, (.slice A0_6 l0_6.length c0_6), (.slice A0_7 l0_7.length c0_7)] 26 (0, 0))) ∧ Aside0 (Below w.heap.size w wc))
              case first =>
                have H := HC17.out
                clear HC17
                by_cases c18 : a0_0 = 3
                · rw [if_pos c18] at H
                  have c18b0 : (a0_0 == 3) = true := beq_iff_eq.mpr c18
                  have c18b1 : (a0_0 != 3) = false := bne_eq_false_iff_eq.mpr c18
                  clear c18
                  (first | rw [c18b0] | (simp only [i64_w, i32_w]; rw [c18b0]) | skip)
                  as_aux_lemma =>
                    have H' := Aside0.mk H
                    clear H
                    go_wp2
                    go_meet
                    case rel => exact ⟨_, ((a0_0 == 3)), (by first | rfl | (simp; done) | (simp [*]; done)), H', ⟨by have := HJ1.out; have := HJ9.out; first | omega | exact Nat.le_refl _⟩, ⟨by (with_reducible repeat (first | apply Kd.R_alloc | apply Kd.R_drewN | apply Kd.R_drew)); exact HO_3.out⟩, ⟨by (with_reducible repeat (first | refine blk_drewN ?_ _ | refine blk_drew ?_ | refine blk_alloc ?_ _)); exact BK272.out⟩, ⟨by repeat (first | (with_reducible first | exact HB.out | apply below_alloc | apply pw_below_drewN | apply below_drew1 | refine below_set ?_ GE272.out) | exact HB.out)⟩⟩
                · rw [if_neg c18] at H
                  have c18b0 : (a0_0 == 3) = false := beq_eq_false_iff_ne.mpr c18
                  have c18b1 : (a0_0 != 3) = true := bne_iff_ne.mpr c18
                  (first | rw [c18b0] | (simp only [i64_w, i32_w]; rw [c18b0]) | skip)
                  as_aux_lemma =>
                    have H' := Aside0.mk H
                    clear H
                    go_wp2
                    go_meet
                    case rel => exact ⟨_, ((a0_0 == 4)), (by first | rfl | (simp; done) | (simp [*]; done)), H', ⟨by have := HJ1.out; have := HJ9.out; first | omega | exact Nat.le_refl _⟩, ⟨by (with_reducible repeat (first | apply Kd.R_alloc | apply Kd.R_drewN | apply Kd.R_drew)); exact HO_3.out⟩, ⟨by (with_reducible repeat (first | refine blk_drewN ?_ _ | refine blk_drew ?_ | refine blk_alloc ?_ _)); exact BK272.out⟩, ⟨by repeat (first | (with_reducible first | exact HB.out | apply below_alloc | apply pw_below_drewN | apply below_drew1 | refine below_set ?_ GE272.out) | exact HB.out)⟩⟩
              case rest =>
                clear HC17
                try clear c1
                try clear c2
                try clear p2
                try clear c3
                try clear c5
                try clear c5b0
                try clear c5b1
                try clear c6
                try clear c11
                try clear c11b0
                try clear c11b1
                try clear c12
                try clear c12b0
                try clear c12b1
                try clear c13
                try clear c18
                try clear c18b0
                try clear c18b1
                try clear hcz15_0
                try clear hcz15_1
                try clear hcz15_2
                try clear hcz15_3
                try clear hcz15_4
                try clear hcz15_5
                try clear hcz15_6
                try clear hcz15_7
                try clear hcz4_0
                try clear hcz4_1
                try clear hcz4_2
                try clear hcz4_3
                try clear hcz4_4
                try clear hcz4_5
                try clear hcz4_6
                try clear hcz4_7
                try clear hcz8_0
                try clear hcz8_1
                try clear hcz8_2
                try clear hcz8_3
                try clear hcz8_4
                try clear hcz8_5
                try clear hcz8_6
                try clear hcz8_7
                try clear hfz15_0
                try clear hfz15_1
                try clear hfz15_2
                try clear hfz15_3
                try clear hfz15_4
                try clear hfz15_5
                try clear hfz15_6
                try clear hfz15_7
                try clear hfz4_0
                try clear hfz4_1
                try clear hfz4_2
                try clear hfz4_3
                try clear hfz4_4
                try clear hfz4_5
                try clear hfz4_6
                try clear hfz4_7
                try clear hfz8_0
                try clear hfz8_1
                try clear hfz8_2
                try clear hfz8_3
                try clear hfz8_4
                try clear hfz8_5
                try clear hfz8_6
                try clear hfz8_7
                try clear p2
                obtain ⟨kq, x24_16, rfl, HA, HJ16, HO_3, BK272, HB⟩ := hcut
                cases kq with
                | zero => exact absurd HA.out (by simp [spec_DocValue.j2])
                | succ kj16 =>
                  have H := HA.out
                  clear HA
                  simp only [spec_DocValue.j2] at H
                  by_cases c19 : x24_16 = true
                  · subst c19
                    have H1 : ((spec_DocBytes.f kj16 l0_7).bind fun t279 => (some t279)) = some r := by rw [if_pos rfl] at H; exact H
                    clear H
                    have H := H1
                    clear H1
                    replace H := Option.bind_eq_some_iff.mp H
                    obtain ⟨t279, A200, H⟩ := H
                    replace H : (some t279) = some r := H
                    have A20 := Aside0.mk A200
                    clear A200
                    as_aux_lemma =>
                      obtain rfl := Option.some.inj H
                      have hcz21_0 : wc.cell? ⟨gb272, 0, none⟩ = some (.int .i64 a0_0) := (blk_cell BK272.out 0).trans rfl
                      have hcz21_1 : wc.cell? ⟨gb272, 1, none⟩ = some (.string a0_1) := (blk_cell BK272.out 1).trans rfl
                      have hcz21_2 : wc.cell? ⟨gb272, 2, none⟩ = some (.string a0_2) := (blk_cell BK272.out 2).trans rfl
                      have hcz21_3 : wc.cell? ⟨gb272, 3, none⟩ = some (.int .i64 a0_3) := (blk_cell BK272.out 3).trans rfl
                      have hcz21_4 : wc.cell? ⟨gb272, 4, none⟩ = some (.int .u64 a0_4) := (blk_cell BK272.out 4).trans rfl
                      have hcz21_5 : wc.cell? ⟨gb272, 5, none⟩ = some (.int .u64 a0_5) := (blk_cell BK272.out 5).trans rfl
                      have hcz21_6 : wc.cell? ⟨gb272, 6, none⟩ = some (.slice A0_6 l0_6.length c0_6) := (blk_cell BK272.out 6).trans rfl
                      have hcz21_7 : wc.cell? ⟨gb272, 7, none⟩ = some (.slice A0_7 l0_7.length c0_7) := (blk_cell BK272.out 7).trans rfl
                      have hfz21_0 := blk_frozen BK272.out 0
                      have hfz21_1 := blk_frozen BK272.out 1
                      have hfz21_2 := blk_frozen BK272.out 2
                      have hfz21_3 := blk_frozen BK272.out 3
                      have hfz21_4 := blk_frozen BK272.out 4
                      have hfz21_5 := blk_frozen BK272.out 5
                      have hfz21_6 := blk_frozen BK272.out 6
                      have hfz21_7 := blk_frozen BK272.out 7
                      go_wp2_with (first | ((with_reducible refine gate_callee (f := 31) rfl ?_); refine goesL_ (some 29) rfl rfl Tryd.func31 (by kernel_rfl) rfl #[.slice A0_7 l0_7.length c0_7] rfl (by (try simp only [List.map_toArray, List.map_cons, List.map_nil]); first | done | rfl | (simp only [List.length_drop, List.length_take]; rfl)) ?_; (with_reducible refine (Grp_spec_DocBytes.get0 (ih kj16 (by have := HJ1.out; have := HJ9.out; have := HJ16.out; omega)) _ _ l0_7 t279 _ ?side1 ?side2 A20.out).mono ?_); (case side1 => repeat (first | exact (Kd.C_below HR0_7.out HB.out) | (with_reducible refine Kd.C_alloc ?_ _) | (with_reducible refine Kd.C_drewN ?_ _) | (with_reducible refine Kd.C_drew ?_))); (case side2 => exact HC0_7.out); rintro e w22 ⟨v280, rfl, ho0, hb⟩; refine ⟨_, rfl, ?_⟩; have n0_ := Aside0.mk (Kd.R_elder' (by (with_reducible repeat (first | apply Kd.R_alloc | apply Kd.R_drewN | apply Kd.R_drew)); exact HO_3.out) (Kd.R_base ho0) hb); have n1_ := Aside0.mk (Kd.R_lower (Kd.R_new' ho0 (Kd.R_lt (by (with_reducible repeat (first | apply Kd.R_alloc | apply Kd.R_drewN | apply Kd.R_drew)); exact HO_3.out))) (below_size (by repeat (first | (with_reducible first | exact HB.out | apply below_alloc | apply pw_below_drewN | apply below_drew1 | refine below_set ?_ GE272.out) | exact HB.out)))); have n2_ := Aside0.mk (blk_below (g := gb272) (o := .cells #[.int .i64 a0_0, .string a0_1, .string a0_2, .int .i64 a0_3, .int .u64 a0_4, .int .u64 a0_5, .slice A0_6 l0_6.length c0_6, .slice A0_7 l0_7.length c0_7] 26 (0, 0)) (by (with_reducible repeat (first | refine blk_drewN ?_ _ | refine blk_drew ?_ | refine blk_alloc ?_ _)); exact BK272.out) hb); have n3_ := Aside0.mk (below_step (by repeat (first | (with_reducible first | exact HB.out | apply below_alloc | apply pw_below_drewN | apply below_drew1 | refine below_set ?_ GE272.out) | exact HB.out)) hb); clear HO_3; clear BK272; clear HB; have HO_3 := n0_; have HO281 := n1_; have BK272 := n2_; have HB := n3_; clear n0_ n1_ n2_ n3_; (try clear hb); (try clear hb2); (try clear hk); (try clear hi); (try clear ho0)))
                      go_ret
                      exact ⟨_, by first | rfl | (simp [errW_none, errW_some] <;> rfl) | (simp [*, errW_none, errW_some] <;> rfl), by (with_reducible repeat (first | apply Kd.R_alloc | apply Kd.R_drewN | apply Kd.R_drew)); exact Kd.R_mono HO281.out (fun _ hk => trivial), by repeat (first | (with_reducible first | exact HB.out | apply below_alloc | apply pw_below_drewN | apply below_drew1 | refine below_set ?_ GE272.out) | exact HB.out)⟩
                  · replace c19 := Bool.eq_false_iff.mpr c19
                    subst c19
                    have H1 : (if a0_0 = 5 then (if a0_3 = 2 then ((spec_DocInt32.f ([] : List Int) (wrap64 ((l0_6.length : Int) + 4))).bind fun t282 => (if t282.length < 140737488355328 then ((spec_DocInt32.f (t282 ++ [2]) (l0_6.length : Int)).bind fun t288 => (if t288.length + l0_6.length < 140737488355328 then (some (t288 ++ l0_6)) else (none))) else (none))) else ((spec_DocInt32.f ([] : List Int) (l0_6.length : Int)).bind fun t294 => (if t294.length < 140737488355328 then ((some (t294 ++ [(a0_3) % 256] : List Int)).bind fun y297 => (if y297.length + l0_6.length < 140737488355328 then (some (y297 ++ l0_6)) else (none))) else (none)))) else (if a0_0 = 7 then (if ([] : List Int).length + l0_6.length < 140737488355328 then (some (([] : List Int) ++ l0_6)) else (none)) else (if a0_0 = 8 then (if ([] : List Int).length < 140737488355328 then (some (([] : List Int) ++ [(a0_3) % 256])) else (none)) else (if a0_0 = 9 then (spec_DocValue.j3 kj16 ([] : List Int) a0_0 (a0_0 == 9) a0_0 a0_1 a0_2 a0_3 a0_4 a0_5 l0_6 l0_7) else (spec_DocValue.j3 kj16 ([] : List Int) a0_0 (a0_0 == 18) a0_0 a0_1 a0_2 a0_3 a0_4 a0_5 l0_6 l0_7))))) = some r := by rw [if_neg (show ¬ (false = true) by decide)] at H; exact H
                    clear H
                    have H := H1
                    clear H1
                    by_cases c23 : a0_0 = 5
                    · rw [if_pos c23] at H
                      have c23b0 : (a0_0 == 5) = true := beq_iff_eq.mpr c23
                      have c23b1 : (a0_0 != 5) = false := bne_eq_false_iff_eq.mpr c23
                      clear c23
                      by_cases c24 : a0_3 = 2
                      · rw [if_pos c24] at H
                        have c24b0 : (a0_3 == 2) = true := beq_iff_eq.mpr c24
                        have c24b1 : (a0_3 != 2) = false := bne_eq_false_iff_eq.mpr c24
                        clear c24
                        replace H := Option.bind_eq_some_iff.mp H
                        obtain ⟨t282, A250, H⟩ := H
                        replace H : (if t282.length < 140737488355328 then ((spec_DocInt32.f (t282 ++ [2]) (l0_6.length : Int)).bind fun t288 => (if t288.length + l0_6.length < 140737488355328 then (some (t288 ++ l0_6)) else (none))) else (none)) = some r := H
                        have A25 := Aside0.mk A250
                        clear A250
                        by_cases c26 : t282.length < 140737488355328
                        · rw [if_pos c26] at H
                          have LMc26 := Aside0.mk c26
                          clear c26
                          obtain ⟨y285, hy285⟩ : ∃ y_ : List Int, y_ = (t282 ++ [2]) := ⟨_, rfl⟩
                          replace H : ((spec_DocInt32.f y285 (l0_6.length : Int)).bind fun t288 => (if t288.length + l0_6.length < 140737488355328 then (some (t288 ++ l0_6)) else (none))) = some r := by first | (rw [hy285]; with_reducible exact H) | (have H2_ := (Option.bind_some _ _).symm.trans H; rw [hy285]; with_reducible exact H2_) | (have H2_ := (Option.bind_some _ _).symm.trans H; with_reducible exact H2_) | with_reducible exact H | (rw [hy285]; exact H) | exact H
                          have Ny285 := Aside0.mk hy285
                          clear hy285
                          replace H := Option.bind_eq_some_iff.mp H
                          obtain ⟨t288, A270, H⟩ := H
                          replace H : (if t288.length + l0_6.length < 140737488355328 then (some (t288 ++ l0_6)) else (none)) = some r := H
                          have A27 := Aside0.mk A270
                          clear A270
                          by_cases c28 : t288.length + l0_6.length < 140737488355328
                          · rw [if_pos c28] at H
                            have LMc28 := Aside0.mk c28
                            clear c28
                            obtain ⟨y291, hy291⟩ : ∃ y_ : List Int, y_ = (t288 ++ l0_6) := ⟨_, rfl⟩
                            replace H : (some y291) = some r := by first | (rw [hy291]; with_reducible exact H) | (have H2_ := (Option.bind_some _ _).symm.trans H; rw [hy291]; with_reducible exact H2_) | (have H2_ := (Option.bind_some _ _).symm.trans H; with_reducible exact H2_) | with_reducible exact H | (rw [hy291]; exact H) | exact H
                            have Ny291 := Aside0.mk hy291
                            clear hy291
                            as_aux_lemma =>
                              obtain rfl := Option.some.inj H
                              have hcz29_0 : wc.cell? ⟨gb272, 0, none⟩ = some (.int .i64 a0_0) := (blk_cell BK272.out 0).trans rfl
                              have hcz29_1 : wc.cell? ⟨gb272, 1, none⟩ = some (.string a0_1) := (blk_cell BK272.out 1).trans rfl
                              have hcz29_2 : wc.cell? ⟨gb272, 2, none⟩ = some (.string a0_2) := (blk_cell BK272.out 2).trans rfl
                              have hcz29_3 : wc.cell? ⟨gb272, 3, none⟩ = some (.int .i64 a0_3) := (blk_cell BK272.out 3).trans rfl
                              have hcz29_4 : wc.cell? ⟨gb272, 4, none⟩ = some (.int .u64 a0_4) := (blk_cell BK272.out 4).trans rfl
                              have hcz29_5 : wc.cell? ⟨gb272, 5, none⟩ = some (.int .u64 a0_5) := (blk_cell BK272.out 5).trans rfl
                              have hcz29_6 : wc.cell? ⟨gb272, 6, none⟩ = some (.slice A0_6 l0_6.length c0_6) := (blk_cell BK272.out 6).trans rfl
                              have hcz29_7 : wc.cell? ⟨gb272, 7, none⟩ = some (.slice A0_7 l0_7.length c0_7) := (blk_cell BK272.out 7).trans rfl
                              have hfz29_0 := blk_frozen BK272.out 0
                              have hfz29_1 := blk_frozen BK272.out 1
                              have hfz29_2 := blk_frozen BK272.out 2
                              have hfz29_3 := blk_frozen BK272.out 3
                              have hfz29_4 := blk_frozen BK272.out 4
                              have hfz29_5 := blk_frozen BK272.out 5
                              have hfz29_6 := blk_frozen BK272.out 6
                              have hfz29_7 := blk_frozen BK272.out 7
                              go_wp2_with (first | ((with_reducible refine gate_callee (f := 32) rfl ?_); refine goesL_ (some 41) rfl rfl Tryd.func32 (by kernel_rfl) rfl #[.slice none 0 0, .int .i64 (wrap64 ((l0_6.length : Int) + 4))] rfl (by (try simp only [List.map_toArray, List.map_cons, List.map_nil]); first | done | rfl | (simp only [List.length_drop, List.length_take]; rfl)) ?_; (with_reducible refine (spec_DocInt32.calls (fun k_ => some k_ = (.slice none 0 0 : Value).ownBlock) (.slice none 0 0) ([] : List Int) (wrap64 ((l0_6.length : Int) + 4)) t282 w _ ?side1 ?side2 A25.out).mono ?_); (case side1 => repeat (first | (with_reducible first | exact HB.out | apply below_alloc | apply pw_below_drewN | apply below_drew1 | refine below_set ?_ GE272.out) | exact HB.out)); (case side2 => exact Kd.R_tight rfl HO_3.out); rintro e w30 ⟨v283, rfl, ho0, hb, hkp⟩; refine ⟨_, rfl, ?_⟩; have n0_ := Aside0.mk (blk_kept (by (with_reducible repeat (first | refine blk_drewN ?_ _ | refine blk_drew ?_ | refine blk_alloc ?_ _)); exact BK272.out) hkp (fun hs_ => (fun e_ => (Kd.R_ne HO_3.out BK272.out (by decide)) e_) hs_)); have n1_ := Aside0.mk (Kd.R_mono (ok' := fun k_ => True) ho0 (fun k_ hk_ => trivial)); have n2_ := Aside0.mk (hb); clear BK272; clear HB; clear HO_3; have BK272 := n0_; have HO284 := n1_; have HB := n2_; clear n0_ n1_ n2_; (try clear hb); (try clear hkp); (try clear ho0)) | ((with_reducible refine gate_builtin (b := .append) (xs := #[.tmp 42, .tmp 43]) rfl ?_); at_builtin; refine Kd.R_append (Kd.int .u8) (w0 := w) w.heap.size rfl (.tmp 42) (.tmp 43) 23 5 (.int .u8 0) 1 rfl Tryd.underlying23 info5 rfl (by decide) (by omega) v283 t282 2 [.int .u8 2] (fun _ => True) (fun _ => False) rfl rfl ?aP (fun _ hk => hk.elim) ?aF ?aO ?aB ?aS ?aL ?_; (case aP => exact rfl); (case aB => exact (by repeat (first | (with_reducible first | exact HB.out | apply below_alloc | apply pw_below_drewN | apply below_drew1 | refine below_set ?_ GE272.out) | exact HB.out))); (case aF => exact (fun _ _ => trivial)); (case aO => exact (by (with_reducible repeat (first | apply Kd.R_alloc | apply Kd.R_drewN | apply Kd.R_drew)); exact HO284.out)); (case aS => exact (below_size (by repeat (first | (with_reducible first | exact HB.out | apply below_alloc | apply pw_below_drewN | apply below_drew1 | refine below_set ?_ GE272.out) | exact HB.out)))); (case aL => have := LMc26.out; omega); intro v286 w31 ho hb hg hat; rw [← Ny285.out] at ho; have n0_ := Aside0.mk (blk_grown (g := gb272) (o := .cells #[.int .i64 a0_0, .string a0_1, .string a0_2, .int .i64 a0_3, .int .u64 a0_4, .int .u64 a0_5, .slice A0_6 l0_6.length c0_6, .slice A0_7 l0_7.length c0_7] 26 (0, 0)) (by (with_reducible repeat (first | refine blk_drewN ?_ _ | refine blk_drew ?_ | refine blk_alloc ?_ _)); exact BK272.out) hg (Kd.R_ne HO284.out BK272.out (by decide))); have n1_ := Aside0.mk (hb); have n2_ := Aside0.mk (ho); clear BK272; clear HB; clear HO284; have BK272 := n0_; have HB := n1_; have HO287 := n2_; clear n0_ n1_ n2_; clear ho hb hg hat; obtain ⟨Ao32, co32, eo32⟩ := Kd.R_slice HO287.out; subst eo32) | ((with_reducible refine gate_callee (f := 32) rfl ?_); refine goesL_ (some 47) rfl rfl Tryd.func32 (by kernel_rfl) rfl #[.slice Ao32 y285.length co32, .int .i64 (l0_6.length : Int)] rfl (by (try simp only [List.map_toArray, List.map_cons, List.map_nil]); first | done | rfl | (simp only [List.length_drop, List.length_take]; rfl)) ?_; (with_reducible refine (spec_DocInt32.calls (fun k_ => some k_ = (.slice Ao32 y285.length co32 : Value).ownBlock) (.slice Ao32 y285.length co32) y285 (l0_6.length : Int) t288 w _ ?side1 ?side2 A27.out).mono ?_); (case side1 => repeat (first | (with_reducible first | exact HB.out | apply below_alloc | apply pw_below_drewN | apply below_drew1 | refine below_set ?_ GE272.out) | exact HB.out)); (case side2 => exact Kd.R_tight rfl HO287.out); rintro e w33 ⟨v289, rfl, ho0, hb, hkp⟩; refine ⟨_, rfl, ?_⟩; have n0_ := Aside0.mk (blk_kept (by (with_reducible repeat (first | refine blk_drewN ?_ _ | refine blk_drew ?_ | refine blk_alloc ?_ _)); exact BK272.out) hkp (fun hs_ => (fun e_ => (Kd.R_ne HO287.out BK272.out (by decide)) e_) hs_)); have n1_ := Aside0.mk (Kd.R_mono (ok' := fun k_ => True) ho0 (fun k_ hk_ => trivial)); have n2_ := Aside0.mk (hb); clear BK272; clear HB; clear HO287; have BK272 := n0_; have HO290 := n1_; have HB := n2_; clear n0_ n1_ n2_; (try clear hb); (try clear hkp); (try clear ho0); have hcz34_0 : w33.cell? ⟨gb272, 0, none⟩ = some (.int .i64 a0_0) := (blk_cell BK272.out 0).trans rfl; have hcz34_1 : w33.cell? ⟨gb272, 1, none⟩ = some (.string a0_1) := (blk_cell BK272.out 1).trans rfl; have hcz34_2 : w33.cell? ⟨gb272, 2, none⟩ = some (.string a0_2) := (blk_cell BK272.out 2).trans rfl; have hcz34_3 : w33.cell? ⟨gb272, 3, none⟩ = some (.int .i64 a0_3) := (blk_cell BK272.out 3).trans rfl; have hcz34_4 : w33.cell? ⟨gb272, 4, none⟩ = some (.int .u64 a0_4) := (blk_cell BK272.out 4).trans rfl; have hcz34_5 : w33.cell? ⟨gb272, 5, none⟩ = some (.int .u64 a0_5) := (blk_cell BK272.out 5).trans rfl; have hcz34_6 : w33.cell? ⟨gb272, 6, none⟩ = some (.slice A0_6 l0_6.length c0_6) := (blk_cell BK272.out 6).trans rfl; have hcz34_7 : w33.cell? ⟨gb272, 7, none⟩ = some (.slice A0_7 l0_7.length c0_7) := (blk_cell BK272.out 7).trans rfl; have hfz34_0 := blk_frozen BK272.out 0; have hfz34_1 := blk_frozen BK272.out 1; have hfz34_2 := blk_frozen BK272.out 2; have hfz34_3 := blk_frozen BK272.out 3; have hfz34_4 := blk_frozen BK272.out 4; have hfz34_5 := blk_frozen BK272.out 5; have hfz34_6 := blk_frozen BK272.out 6; have hfz34_7 := blk_frozen BK272.out 7) | ((with_reducible refine gate_builtin (b := .append) (xs := #[.tmp 57, .tmp 59]) rfl ?_); at_builtin; refine Kd.R_append_rows (Kd.int .u8) (w0 := w) w.heap.size rfl (.tmp 57) (.tmp 59) 23 5 (.int .u8 0) 1 rfl Tryd.underlying23 info5 rfl (by decide) (by omega) v289 t288 l0_6 _ _ _ (fun _ => True) (fun _ => False) rfl rfl ?aO ?aR (fun _ _ h => h) (fun _ h => h.elim) ?aF ?aB ?aS ?aL ?_; (case aR => repeat (first | exact (Kd.C_below HR0_6.out HB.out) | (with_reducible refine Kd.C_alloc ?_ _) | (with_reducible refine Kd.C_drewN ?_ _) | (with_reducible refine Kd.C_drew ?_))); (case aB => exact (by repeat (first | (with_reducible first | exact HB.out | apply below_alloc | apply pw_below_drewN | apply below_drew1 | refine below_set ?_ GE272.out) | exact HB.out))); (case aF => exact (fun _ _ => trivial)); (case aO => exact (by (with_reducible repeat (first | apply Kd.R_alloc | apply Kd.R_drewN | apply Kd.R_drew)); exact HO290.out)); (case aS => exact (below_size (by repeat (first | (with_reducible first | exact HB.out | apply below_alloc | apply pw_below_drewN | apply below_drew1 | refine below_set ?_ GE272.out) | exact HB.out)))); (case aL => have := LMc28.out; omega); intro v292 w35 ho hb hg hat; rw [← Ny291.out] at ho; have n0_ := Aside0.mk (blk_grown (g := gb272) (o := .cells #[.int .i64 a0_0, .string a0_1, .string a0_2, .int .i64 a0_3, .int .u64 a0_4, .int .u64 a0_5, .slice A0_6 l0_6.length c0_6, .slice A0_7 l0_7.length c0_7] 26 (0, 0)) (by (with_reducible repeat (first | refine blk_drewN ?_ _ | refine blk_drew ?_ | refine blk_alloc ?_ _)); exact BK272.out) hg (Kd.R_ne HO290.out BK272.out (by decide))); have n1_ := Aside0.mk (hb); have n2_ := Aside0.mk (ho); clear BK272; clear HB; clear HO290; have BK272 := n0_; have HB := n1_; have HO293 := n2_; clear n0_ n1_ n2_; clear ho hb hg hat))
                              go_ret
                              exact ⟨_, by first | rfl | (simp [errW_none, errW_some] <;> rfl) | (simp [*, errW_none, errW_some] <;> rfl), by (with_reducible repeat (first | apply Kd.R_alloc | apply Kd.R_drewN | apply Kd.R_drew)); exact HO293.out, by repeat (first | (with_reducible first | exact HB.out | apply below_alloc | apply pw_below_drewN | apply below_drew1 | refine below_set ?_ GE272.out) | exact HB.out)⟩
                          · rw [if_neg c28] at H
                            exact absurd H (by simp)
                        · rw [if_neg c26] at H
                          exact absurd H (by simp)
                      · rw [if_neg c24] at H
                        have c24b0 : (a0_3 == 2) = false := beq_eq_false_iff_ne.mpr c24
                        have c24b1 : (a0_3 != 2) = true := bne_iff_ne.mpr c24
                        replace H := Option.bind_eq_some_iff.mp H
                        obtain ⟨t294, A360, H⟩ := H
                        replace H : (if t294.length < 140737488355328 then ((some (t294 ++ [(a0_3) % 256] : List Int)).bind fun y297 => (if y297.length + l0_6.length < 140737488355328 then (some (y297 ++ l0_6)) else (none))) else (none)) = some r := H
                        have A36 := Aside0.mk A360
                        clear A360
                        by_cases c37 : t294.length < 140737488355328
                        · rw [if_pos c37] at H
                          have LMc37 := Aside0.mk c37
                          clear c37
                          obtain ⟨y297, hy297⟩ : ∃ y_ : List Int, y_ = (t294 ++ [(a0_3) % 256]) := ⟨_, rfl⟩
                          replace H : (if y297.length + l0_6.length < 140737488355328 then (some (y297 ++ l0_6)) else (none)) = some r := by first | (rw [hy297]; with_reducible exact H) | (have H2_ := (Option.bind_some _ _).symm.trans H; rw [hy297]; with_reducible exact H2_) | (have H2_ := (Option.bind_some _ _).symm.trans H; with_reducible exact H2_) | with_reducible exact H | (rw [hy297]; exact H) | exact H
                          have Ny297 := Aside0.mk hy297
                          clear hy297
                          by_cases c38 : y297.length + l0_6.length < 140737488355328
                          · rw [if_pos c38] at H
                            have LMc38 := Aside0.mk c38
                            clear c38
                            obtain ⟨y300, hy300⟩ : ∃ y_ : List Int, y_ = (y297 ++ l0_6) := ⟨_, rfl⟩
                            replace H : (some y300) = some r := by first | (rw [hy300]; with_reducible exact H) | (have H2_ := (Option.bind_some _ _).symm.trans H; rw [hy300]; with_reducible exact H2_) | (have H2_ := (Option.bind_some _ _).symm.trans H; with_reducible exact H2_) | with_reducible exact H | (rw [hy300]; exact H) | exact H
                            have Ny300 := Aside0.mk hy300
                            clear hy300
                            as_aux_lemma =>
                              obtain rfl := Option.some.inj H
                              have hcz39_0 : wc.cell? ⟨gb272, 0, none⟩ = some (.int .i64 a0_0) := (blk_cell BK272.out 0).trans rfl
                              have hcz39_1 : wc.cell? ⟨gb272, 1, none⟩ = some (.string a0_1) := (blk_cell BK272.out 1).trans rfl
                              have hcz39_2 : wc.cell? ⟨gb272, 2, none⟩ = some (.string a0_2) := (blk_cell BK272.out 2).trans rfl
                              have hcz39_3 : wc.cell? ⟨gb272, 3, none⟩ = some (.int .i64 a0_3) := (blk_cell BK272.out 3).trans rfl
                              have hcz39_4 : wc.cell? ⟨gb272, 4, none⟩ = some (.int .u64 a0_4) := (blk_cell BK272.out 4).trans rfl
                              have hcz39_5 : wc.cell? ⟨gb272, 5, none⟩ = some (.int .u64 a0_5) := (blk_cell BK272.out 5).trans rfl
                              have hcz39_6 : wc.cell? ⟨gb272, 6, none⟩ = some (.slice A0_6 l0_6.length c0_6) := (blk_cell BK272.out 6).trans rfl
                              have hcz39_7 : wc.cell? ⟨gb272, 7, none⟩ = some (.slice A0_7 l0_7.length c0_7) := (blk_cell BK272.out 7).trans rfl
                              have hfz39_0 := blk_frozen BK272.out 0
                              have hfz39_1 := blk_frozen BK272.out 1
                              have hfz39_2 := blk_frozen BK272.out 2
                              have hfz39_3 := blk_frozen BK272.out 3
                              have hfz39_4 := blk_frozen BK272.out 4
                              have hfz39_5 := blk_frozen BK272.out 5
                              have hfz39_6 := blk_frozen BK272.out 6
                              have hfz39_7 := blk_frozen BK272.out 7
                              go_wp2_with (first | ((with_reducible refine gate_callee (f := 32) rfl ?_); refine goesL_ (some 50) rfl rfl Tryd.func32 (by kernel_rfl) rfl #[.slice none 0 0, .int .i64 (l0_6.length : Int)] rfl (by (try simp only [List.map_toArray, List.map_cons, List.map_nil]); first | done | rfl | (simp only [List.length_drop, List.length_take]; rfl)) ?_; (with_reducible refine (spec_DocInt32.calls (fun k_ => some k_ = (.slice none 0 0 : Value).ownBlock) (.slice none 0 0) ([] : List Int) (l0_6.length : Int) t294 w _ ?side1 ?side2 A36.out).mono ?_); (case side1 => repeat (first | (with_reducible first | exact HB.out | apply below_alloc | apply pw_below_drewN | apply below_drew1 | refine below_set ?_ GE272.out) | exact HB.out)); (case side2 => exact Kd.R_tight rfl HO_3.out); rintro e w40 ⟨v295, rfl, ho0, hb, hkp⟩; refine ⟨_, rfl, ?_⟩; have n0_ := Aside0.mk (blk_kept (by (with_reducible repeat (first | refine blk_drewN ?_ _ | refine blk_drew ?_ | refine blk_alloc ?_ _)); exact BK272.out) hkp (fun hs_ => (fun e_ => (Kd.R_ne HO_3.out BK272.out (by decide)) e_) hs_)); have n1_ := Aside0.mk (Kd.R_mono (ok' := fun k_ => True) ho0 (fun k_ hk_ => trivial)); have n2_ := Aside0.mk (hb); clear BK272; clear HB; clear HO_3; have BK272 := n0_; have HO296 := n1_; have HB := n2_; clear n0_ n1_ n2_; (try clear hb); (try clear hkp); (try clear ho0); have hcz41_0 : w40.cell? ⟨gb272, 0, none⟩ = some (.int .i64 a0_0) := (blk_cell BK272.out 0).trans rfl; have hcz41_1 : w40.cell? ⟨gb272, 1, none⟩ = some (.string a0_1) := (blk_cell BK272.out 1).trans rfl; have hcz41_2 : w40.cell? ⟨gb272, 2, none⟩ = some (.string a0_2) := (blk_cell BK272.out 2).trans rfl; have hcz41_3 : w40.cell? ⟨gb272, 3, none⟩ = some (.int .i64 a0_3) := (blk_cell BK272.out 3).trans rfl; have hcz41_4 : w40.cell? ⟨gb272, 4, none⟩ = some (.int .u64 a0_4) := (blk_cell BK272.out 4).trans rfl; have hcz41_5 : w40.cell? ⟨gb272, 5, none⟩ = some (.int .u64 a0_5) := (blk_cell BK272.out 5).trans rfl; have hcz41_6 : w40.cell? ⟨gb272, 6, none⟩ = some (.slice A0_6 l0_6.length c0_6) := (blk_cell BK272.out 6).trans rfl; have hcz41_7 : w40.cell? ⟨gb272, 7, none⟩ = some (.slice A0_7 l0_7.length c0_7) := (blk_cell BK272.out 7).trans rfl; have hfz41_0 := blk_frozen BK272.out 0; have hfz41_1 := blk_frozen BK272.out 1; have hfz41_2 := blk_frozen BK272.out 2; have hfz41_3 := blk_frozen BK272.out 3; have hfz41_4 := blk_frozen BK272.out 4; have hfz41_5 := blk_frozen BK272.out 5; have hfz41_6 := blk_frozen BK272.out 6; have hfz41_7 := blk_frozen BK272.out 7) | ((with_reducible refine gate_builtin (b := .append) (xs := #[.tmp 51, .tmp 55]) rfl ?_); at_builtin; refine Kd.R_append (Kd.int .u8) (w0 := w) w.heap.size rfl (.tmp 51) (.tmp 55) 23 5 (.int .u8 0) 1 rfl Tryd.underlying23 info5 rfl (by decide) (by omega) v295 t294 ((a0_3) % 256) [.int .u8 ((a0_3) % 256)] (fun _ => True) (fun _ => False) rfl rfl ?aP (fun _ hk => hk.elim) ?aF ?aO ?aB ?aS ?aL ?_; (case aP => exact rfl); (case aB => exact (by repeat (first | (with_reducible first | exact HB.out | apply below_alloc | apply pw_below_drewN | apply below_drew1 | refine below_set ?_ GE272.out) | exact HB.out))); (case aF => exact (fun _ _ => trivial)); (case aO => exact (by (with_reducible repeat (first | apply Kd.R_alloc | apply Kd.R_drewN | apply Kd.R_drew)); exact HO296.out)); (case aS => exact (below_size (by repeat (first | (with_reducible first | exact HB.out | apply below_alloc | apply pw_below_drewN | apply below_drew1 | refine below_set ?_ GE272.out) | exact HB.out)))); (case aL => have := LMc37.out; omega); intro v298 w42 ho hb hg hat; rw [← Ny297.out] at ho; have n0_ := Aside0.mk (blk_grown (g := gb272) (o := .cells #[.int .i64 a0_0, .string a0_1, .string a0_2, .int .i64 a0_3, .int .u64 a0_4, .int .u64 a0_5, .slice A0_6 l0_6.length c0_6, .slice A0_7 l0_7.length c0_7] 26 (0, 0)) (by (with_reducible repeat (first | refine blk_drewN ?_ _ | refine blk_drew ?_ | refine blk_alloc ?_ _)); exact BK272.out) hg (Kd.R_ne HO296.out BK272.out (by decide))); have n1_ := Aside0.mk (hb); have n2_ := Aside0.mk (ho); clear BK272; clear HB; clear HO296; have BK272 := n0_; have HB := n1_; have HO299 := n2_; clear n0_ n1_ n2_; clear ho hb hg hat; have hcz43_0 : w42.cell? ⟨gb272, 0, none⟩ = some (.int .i64 a0_0) := (blk_cell BK272.out 0).trans rfl; have hcz43_1 : w42.cell? ⟨gb272, 1, none⟩ = some (.string a0_1) := (blk_cell BK272.out 1).trans rfl; have hcz43_2 : w42.cell? ⟨gb272, 2, none⟩ = some (.string a0_2) := (blk_cell BK272.out 2).trans rfl; have hcz43_3 : w42.cell? ⟨gb272, 3, none⟩ = some (.int .i64 a0_3) := (blk_cell BK272.out 3).trans rfl; have hcz43_4 : w42.cell? ⟨gb272, 4, none⟩ = some (.int .u64 a0_4) := (blk_cell BK272.out 4).trans rfl; have hcz43_5 : w42.cell? ⟨gb272, 5, none⟩ = some (.int .u64 a0_5) := (blk_cell BK272.out 5).trans rfl; have hcz43_6 : w42.cell? ⟨gb272, 6, none⟩ = some (.slice A0_6 l0_6.length c0_6) := (blk_cell BK272.out 6).trans rfl; have hcz43_7 : w42.cell? ⟨gb272, 7, none⟩ = some (.slice A0_7 l0_7.length c0_7) := (blk_cell BK272.out 7).trans rfl; have hfz43_0 := blk_frozen BK272.out 0; have hfz43_1 := blk_frozen BK272.out 1; have hfz43_2 := blk_frozen BK272.out 2; have hfz43_3 := blk_frozen BK272.out 3; have hfz43_4 := blk_frozen BK272.out 4; have hfz43_5 := blk_frozen BK272.out 5; have hfz43_6 := blk_frozen BK272.out 6; have hfz43_7 := blk_frozen BK272.out 7) | ((with_reducible refine gate_builtin (b := .append) (xs := #[.tmp 57, .tmp 59]) rfl ?_); at_builtin; refine Kd.R_append_rows (Kd.int .u8) (w0 := w) w.heap.size rfl (.tmp 57) (.tmp 59) 23 5 (.int .u8 0) 1 rfl Tryd.underlying23 info5 rfl (by decide) (by omega) v298 y297 l0_6 _ _ _ (fun _ => True) (fun _ => False) rfl rfl ?aO ?aR (fun _ _ h => h) (fun _ h => h.elim) ?aF ?aB ?aS ?aL ?_; (case aR => repeat (first | exact (Kd.C_below HR0_6.out HB.out) | (with_reducible refine Kd.C_alloc ?_ _) | (with_reducible refine Kd.C_drewN ?_ _) | (with_reducible refine Kd.C_drew ?_))); (case aB => exact (by repeat (first | (with_reducible first | exact HB.out | apply below_alloc | apply pw_below_drewN | apply below_drew1 | refine below_set ?_ GE272.out) | exact HB.out))); (case aF => exact (fun _ _ => trivial)); (case aO => exact (by (with_reducible repeat (first | apply Kd.R_alloc | apply Kd.R_drewN | apply Kd.R_drew)); exact HO299.out)); (case aS => exact (below_size (by repeat (first | (with_reducible first | exact HB.out | apply below_alloc | apply pw_below_drewN | apply below_drew1 | refine below_set ?_ GE272.out) | exact HB.out)))); (case aL => have := LMc38.out; omega); intro v301 w44 ho hb hg hat; rw [← Ny300.out] at ho; have n0_ := Aside0.mk (blk_grown (g := gb272) (o := .cells #[.int .i64 a0_0, .string a0_1, .string a0_2, .int .i64 a0_3, .int .u64 a0_4, .int .u64 a0_5, .slice A0_6 l0_6.length c0_6, .slice A0_7 l0_7.length c0_7] 26 (0, 0)) (by (with_reducible repeat (first | refine blk_drewN ?_ _ | refine blk_drew ?_ | refine blk_alloc ?_ _)); exact BK272.out) hg (Kd.R_ne HO299.out BK272.out (by decide))); have n1_ := Aside0.mk (hb); have n2_ := Aside0.mk (ho); clear BK272; clear HB; clear HO299; have BK272 := n0_; have HB := n1_; have HO302 := n2_; clear n0_ n1_ n2_; clear ho hb hg hat))
                              go_ret
                              exact ⟨_, by first | rfl | (simp [errW_none, errW_some] <;> rfl) | (simp [*, errW_none, errW_some] <;> rfl), by (with_reducible repeat (first | apply Kd.R_alloc | apply Kd.R_drewN | apply Kd.R_drew)); exact HO302.out, by repeat (first | (with_reducible first | exact HB.out | apply below_alloc | apply pw_below_drewN | apply below_drew1 | refine below_set ?_ GE272.out) | exact HB.out)⟩
                          · rw [if_neg c38] at H
                            exact absurd H (by simp)
                        · rw [if_neg c37] at H
                          exact absurd H (by simp)
                    · rw [if_neg c23] at H
                      have c23b0 : (a0_0 == 5) = false := beq_eq_false_iff_ne.mpr c23
                      have c23b1 : (a0_0 != 5) = true := bne_iff_ne.mpr c23
                      by_cases c45 : a0_0 = 7
                      · rw [if_pos c45] at H
                        have c45b0 : (a0_0 == 7) = true := beq_iff_eq.mpr c45
                        have c45b1 : (a0_0 != 7) = false := bne_eq_false_iff_eq.mpr c45
                        clear c45
                        by_cases c46 : ([] : List Int).length + l0_6.length < 140737488355328
                        · rw [if_pos c46] at H
                          have LMc46 := Aside0.mk c46
                          clear c46
                          obtain ⟨y303, hy303⟩ : ∃ y_ : List Int, y_ = (([] : List Int) ++ l0_6) := ⟨_, rfl⟩
                          replace H : (some y303) = some r := by first | (rw [hy303]; with_reducible exact H) | (have H2_ := (Option.bind_some _ _).symm.trans H; rw [hy303]; with_reducible exact H2_) | (have H2_ := (Option.bind_some _ _).symm.trans H; with_reducible exact H2_) | with_reducible exact H | (rw [hy303]; exact H) | exact H
                          have Ny303 := Aside0.mk hy303
                          clear hy303
                          as_aux_lemma =>
                            obtain rfl := Option.some.inj H
                            have hcz47_0 : wc.cell? ⟨gb272, 0, none⟩ = some (.int .i64 a0_0) := (blk_cell BK272.out 0).trans rfl
                            have hcz47_1 : wc.cell? ⟨gb272, 1, none⟩ = some (.string a0_1) := (blk_cell BK272.out 1).trans rfl
                            have hcz47_2 : wc.cell? ⟨gb272, 2, none⟩ = some (.string a0_2) := (blk_cell BK272.out 2).trans rfl
                            have hcz47_3 : wc.cell? ⟨gb272, 3, none⟩ = some (.int .i64 a0_3) := (blk_cell BK272.out 3).trans rfl
                            have hcz47_4 : wc.cell? ⟨gb272, 4, none⟩ = some (.int .u64 a0_4) := (blk_cell BK272.out 4).trans rfl
                            have hcz47_5 : wc.cell? ⟨gb272, 5, none⟩ = some (.int .u64 a0_5) := (blk_cell BK272.out 5).trans rfl
                            have hcz47_6 : wc.cell? ⟨gb272, 6, none⟩ = some (.slice A0_6 l0_6.length c0_6) := (blk_cell BK272.out 6).trans rfl
                            have hcz47_7 : wc.cell? ⟨gb272, 7, none⟩ = some (.slice A0_7 l0_7.length c0_7) := (blk_cell BK272.out 7).trans rfl
                            have hfz47_0 := blk_frozen BK272.out 0
                            have hfz47_1 := blk_frozen BK272.out 1
                            have hfz47_2 := blk_frozen BK272.out 2
                            have hfz47_3 := blk_frozen BK272.out 3
                            have hfz47_4 := blk_frozen BK272.out 4
                            have hfz47_5 := blk_frozen BK272.out 5
                            have hfz47_6 := blk_frozen BK272.out 6
                            have hfz47_7 := blk_frozen BK272.out 7
                            go_wp2_with (first | ((with_reducible refine gate_builtin (b := .append) (xs := #[.tmp 63, .tmp 65]) rfl ?_); at_builtin; refine Kd.R_append_rows (Kd.int .u8) (w0 := w) w.heap.size rfl (.tmp 63) (.tmp 65) 23 5 (.int .u8 0) 1 rfl Tryd.underlying23 info5 rfl (by decide) (by omega) (.slice none 0 0) ([] : List Int) l0_6 _ _ _ (fun _ => True) (fun _ => False) rfl rfl ?aO ?aR (fun _ _ h => h) (fun _ h => h.elim) ?aF ?aB ?aS ?aL ?_; (case aR => repeat (first | exact (Kd.C_below HR0_6.out HB.out) | (with_reducible refine Kd.C_alloc ?_ _) | (with_reducible refine Kd.C_drewN ?_ _) | (with_reducible refine Kd.C_drew ?_))); (case aB => exact (by repeat (first | (with_reducible first | exact HB.out | apply below_alloc | apply pw_below_drewN | apply below_drew1 | refine below_set ?_ GE272.out) | exact HB.out))); (case aF => exact (fun _ _ => trivial)); (case aO => exact (by (with_reducible repeat (first | apply Kd.R_alloc | apply Kd.R_drewN | apply Kd.R_drew)); exact HO_3.out)); (case aS => exact (below_size (by repeat (first | (with_reducible first | exact HB.out | apply below_alloc | apply pw_below_drewN | apply below_drew1 | refine below_set ?_ GE272.out) | exact HB.out)))); (case aL => have := LMc46.out; omega); intro v304 w48 ho hb hg hat; rw [← Ny303.out] at ho; have n0_ := Aside0.mk (blk_grown (g := gb272) (o := .cells #[.int .i64 a0_0, .string a0_1, .string a0_2, .int .i64 a0_3, .int .u64 a0_4, .int .u64 a0_5, .slice A0_6 l0_6.length c0_6, .slice A0_7 l0_7.length c0_7] 26 (0, 0)) (by (with_reducible repeat (first | refine blk_drewN ?_ _ | refine blk_drew ?_ | refine blk_alloc ?_ _)); exact BK272.out) hg (Kd.R_ne HO_3.out BK272.out (by decide))); have n1_ := Aside0.mk (hb); have n2_ := Aside0.mk (ho); clear BK272; clear HB; clear HO_3; have BK272 := n0_; have HB := n1_; have HO305 := n2_; clear n0_ n1_ n2_; clear ho hb hg hat))
                            go_ret
                            exact ⟨_, by first | rfl | (simp [errW_none, errW_some] <;> rfl) | (simp [*, errW_none, errW_some] <;> rfl), by (with_reducible repeat (first | apply Kd.R_alloc | apply Kd.R_drewN | apply Kd.R_drew)); exact HO305.out, by repeat (first | (with_reducible first | exact HB.out | apply below_alloc | apply pw_below_drewN | apply below_drew1 | refine below_set ?_ GE272.out) | exact HB.out)⟩
                        · rw [if_neg c46] at H
                          exact absurd H (by simp)
                      · rw [if_neg c45] at H
                        have c45b0 : (a0_0 == 7) = false := beq_eq_false_iff_ne.mpr c45
                        have c45b1 : (a0_0 != 7) = true := bne_iff_ne.mpr c45
                        by_cases c49 : a0_0 = 8
                        · rw [if_pos c49] at H
                          have c49b0 : (a0_0 == 8) = true := beq_iff_eq.mpr c49
                          have c49b1 : (a0_0 != 8) = false := bne_eq_false_iff_eq.mpr c49
                          clear c49
                          by_cases c50 : ([] : List Int).length < 140737488355328
                          · rw [if_pos c50] at H
                            have LMc50 := Aside0.mk c50
                            clear c50
                            obtain ⟨y306, hy306⟩ : ∃ y_ : List Int, y_ = (([] : List Int) ++ [(a0_3) % 256]) := ⟨_, rfl⟩
                            replace H : (some y306) = some r := by first | (rw [hy306]; with_reducible exact H) | (have H2_ := (Option.bind_some _ _).symm.trans H; rw [hy306]; with_reducible exact H2_) | (have H2_ := (Option.bind_some _ _).symm.trans H; with_reducible exact H2_) | with_reducible exact H | (rw [hy306]; exact H) | exact H
                            have Ny306 := Aside0.mk hy306
                            clear hy306
                            as_aux_lemma =>
                              obtain rfl := Option.some.inj H
                              have hcz51_0 : wc.cell? ⟨gb272, 0, none⟩ = some (.int .i64 a0_0) := (blk_cell BK272.out 0).trans rfl
                              have hcz51_1 : wc.cell? ⟨gb272, 1, none⟩ = some (.string a0_1) := (blk_cell BK272.out 1).trans rfl
                              have hcz51_2 : wc.cell? ⟨gb272, 2, none⟩ = some (.string a0_2) := (blk_cell BK272.out 2).trans rfl
                              have hcz51_3 : wc.cell? ⟨gb272, 3, none⟩ = some (.int .i64 a0_3) := (blk_cell BK272.out 3).trans rfl
                              have hcz51_4 : wc.cell? ⟨gb272, 4, none⟩ = some (.int .u64 a0_4) := (blk_cell BK272.out 4).trans rfl
                              have hcz51_5 : wc.cell? ⟨gb272, 5, none⟩ = some (.int .u64 a0_5) := (blk_cell BK272.out 5).trans rfl
                              have hcz51_6 : wc.cell? ⟨gb272, 6, none⟩ = some (.slice A0_6 l0_6.length c0_6) := (blk_cell BK272.out 6).trans rfl
                              have hcz51_7 : wc.cell? ⟨gb272, 7, none⟩ = some (.slice A0_7 l0_7.length c0_7) := (blk_cell BK272.out 7).trans rfl
                              have hfz51_0 := blk_frozen BK272.out 0
                              have hfz51_1 := blk_frozen BK272.out 1
                              have hfz51_2 := blk_frozen BK272.out 2
                              have hfz51_3 := blk_frozen BK272.out 3
                              have hfz51_4 := blk_frozen BK272.out 4
                              have hfz51_5 := blk_frozen BK272.out 5
                              have hfz51_6 := blk_frozen BK272.out 6
                              have hfz51_7 := blk_frozen BK272.out 7
                              go_wp2_with (first | ((with_reducible refine gate_builtin (b := .append) (xs := #[.tmp 69, .tmp 73]) rfl ?_); at_builtin; refine Kd.R_append (Kd.int .u8) (w0 := w) w.heap.size rfl (.tmp 69) (.tmp 73) 23 5 (.int .u8 0) 1 rfl Tryd.underlying23 info5 rfl (by decide) (by omega) (.slice none 0 0) ([] : List Int) ((a0_3) % 256) [.int .u8 ((a0_3) % 256)] (fun _ => True) (fun _ => False) rfl rfl ?aP (fun _ hk => hk.elim) ?aF ?aO ?aB ?aS ?aL ?_; (case aP => exact rfl); (case aB => exact (by repeat (first | (with_reducible first | exact HB.out | apply below_alloc | apply pw_below_drewN | apply below_drew1 | refine below_set ?_ GE272.out) | exact HB.out))); (case aF => exact (fun _ _ => trivial)); (case aO => exact (by (with_reducible repeat (first | apply Kd.R_alloc | apply Kd.R_drewN | apply Kd.R_drew)); exact HO_3.out)); (case aS => exact (below_size (by repeat (first | (with_reducible first | exact HB.out | apply below_alloc | apply pw_below_drewN | apply below_drew1 | refine below_set ?_ GE272.out) | exact HB.out)))); (case aL => have := LMc50.out; omega); intro v307 w52 ho hb hg hat; rw [← Ny306.out] at ho; have n0_ := Aside0.mk (blk_grown (g := gb272) (o := .cells #[.int .i64 a0_0, .string a0_1, .string a0_2, .int .i64 a0_3, .int .u64 a0_4, .int .u64 a0_5, .slice A0_6 l0_6.length c0_6, .slice A0_7 l0_7.length c0_7] 26 (0, 0)) (by (with_reducible repeat (first | refine blk_drewN ?_ _ | refine blk_drew ?_ | refine blk_alloc ?_ _)); exact BK272.out) hg (Kd.R_ne HO_3.out BK272.out (by decide))); have n1_ := Aside0.mk (hb); have n2_ := Aside0.mk (ho); clear BK272; clear HB; clear HO_3; have BK272 := n0_; have HB := n1_; have HO308 := n2_; clear n0_ n1_ n2_; clear ho hb hg hat))
                              go_ret
                              exact ⟨_, by first | rfl | (simp [errW_none, errW_some] <;> rfl) | (simp [*, errW_none, errW_some] <;> rfl), by (with_reducible repeat (first | apply Kd.R_alloc | apply Kd.R_drewN | apply Kd.R_drew)); exact HO308.out, by repeat (first | (with_reducible first | exact HB.out | apply below_alloc | apply pw_below_drewN | apply below_drew1 | refine below_set ?_ GE272.out) | exact HB.out)⟩
                          · rw [if_neg c50] at H
                            exact absurd H (by simp)
                        · rw [if_neg c49] at H
                          have c49b0 : (a0_0 == 8) = false := beq_eq_false_iff_ne.mpr c49
                          have c49b1 : (a0_0 != 8) = true := bne_iff_ne.mpr c49
                          have HC53 := Aside0.mk H
                          clear H
                          go_upto_if 75 with (fail)
                          go_cut [75] (fun v75 wc => ∃ (kq : Nat) (x75_52 : Bool), v75 = .bool x75_52 ∧ Aside0 (spec_DocValue.j3 kq ([] : List Int) a0_0 x75_52 a0_0 a0_1 a0_2 a0_3 a0_4 a0_5 l0_6 l0_7 = some r) ∧ Aside0 (kq ≤ kj16) ∧ Aside0 (Kd.R (Kd.int .u8) 5 wc w.heap.size (fun _ => True) (.slice none 0 0) ([] : List Int)) ∧ Aside0 (wc.heap[gb272]? = some (.cells #[.int .i64 a0_0, .string a0_1, .string a0_2, .int .i64 a0_3, .int .u64 a0_4, .int .u64 a0_5, (.slice A0_6 l0_6.length c0_6), (.slice A0_7 l0_7.length c0_7)] 26 (0, 0))) ∧ Aside0 (Below w.heap.size w wc))
                          case first =>
                            have H := HC53.out
                            clear HC53
                            by_cases c54 : a0_0 = 9
                            · rw [if_pos c54] at H
                              have c54b0 : (a0_0 == 9) = true := beq_iff_eq.mpr c54
                              have c54b1 : (a0_0 != 9) = false := bne_eq_false_iff_eq.mpr c54
                              clear c54
                              (first | rw [c54b0] | (simp only [i64_w, i32_w]; rw [c54b0]) | skip)
                              as_aux_lemma =>
                                have H' := Aside0.mk H
                                clear H
                                go_wp2
                                go_meet
                                case rel => exact ⟨_, ((a0_0 == 9)), (by first | rfl | (simp; done) | (simp [*]; done)), H', ⟨by have := HJ1.out; have := HJ9.out; have := HJ16.out; first | omega | exact Nat.le_refl _⟩, ⟨by (with_reducible repeat (first | apply Kd.R_alloc | apply Kd.R_drewN | apply Kd.R_drew)); exact HO_3.out⟩, ⟨by (with_reducible repeat (first | refine blk_drewN ?_ _ | refine blk_drew ?_ | refine blk_alloc ?_ _)); exact BK272.out⟩, ⟨by repeat (first | (with_reducible first | exact HB.out | apply below_alloc | apply pw_below_drewN | apply below_drew1 | refine below_set ?_ GE272.out) | exact HB.out)⟩⟩
                            · rw [if_neg c54] at H
                              have c54b0 : (a0_0 == 9) = false := beq_eq_false_iff_ne.mpr c54
                              have c54b1 : (a0_0 != 9) = true := bne_iff_ne.mpr c54
                              (first | rw [c54b0] | (simp only [i64_w, i32_w]; rw [c54b0]) | skip)
                              as_aux_lemma =>
                                have H' := Aside0.mk H
                                clear H
                                go_wp2
                                go_meet
                                case rel => exact ⟨_, ((a0_0 == 18)), (by first | rfl | (simp; done) | (simp [*]; done)), H', ⟨by have := HJ1.out; have := HJ9.out; have := HJ16.out; first | omega | exact Nat.le_refl _⟩, ⟨by (with_reducible repeat (first | apply Kd.R_alloc | apply Kd.R_drewN | apply Kd.R_drew)); exact HO_3.out⟩, ⟨by (with_reducible repeat (first | refine blk_drewN ?_ _ | refine blk_drew ?_ | refine blk_alloc ?_ _)); exact BK272.out⟩, ⟨by repeat (first | (with_reducible first | exact HB.out | apply below_alloc | apply pw_below_drewN | apply below_drew1 | refine below_set ?_ GE272.out) | exact HB.out)⟩⟩
                          case rest =>
                            clear HC53
                            try clear c1
                            try clear c2
                            try clear p2
                            try clear c3
                            try clear c4
                            try clear c5
                            try clear c5b0
                            try clear c5b1
                            try clear c6
                            try clear p6
                            try clear c11
                            try clear c11b0
                            try clear c11b1
                            try clear c12
                            try clear c12b0
                            try clear c12b1
                            try clear c13
                            try clear c18
                            try clear c18b0
                            try clear c18b1
                            try clear c19
                            try clear c23
                            try clear c23b0
                            try clear c23b1
                            try clear c24
                            try clear c24b0
                            try clear c24b1
                            try clear c26
                            try clear c28
                            try clear c29
                            try clear c30
                            try clear c31
                            try clear c32
                            try clear c37
                            try clear c38
                            try clear c45
                            try clear c45b0
                            try clear c45b1
                            try clear c46
                            try clear c49
                            try clear c49b0
                            try clear c49b1
                            try clear c50
                            try clear c54
                            try clear c54b0
                            try clear c54b1
                            try clear hcz15_0
                            try clear hcz15_1
                            try clear hcz15_2
                            try clear hcz15_3
                            try clear hcz15_4
                            try clear hcz15_5
                            try clear hcz15_6
                            try clear hcz15_7
                            try clear hcz21_0
                            try clear hcz21_1
                            try clear hcz21_2
                            try clear hcz21_3
                            try clear hcz21_4
                            try clear hcz21_5
                            try clear hcz21_6
                            try clear hcz21_7
                            try clear hcz29_0
                            try clear hcz29_1
                            try clear hcz29_2
                            try clear hcz29_3
                            try clear hcz29_4
                            try clear hcz29_5
                            try clear hcz29_6
                            try clear hcz29_7
                            try clear hcz34_0
                            try clear hcz34_1
                            try clear hcz34_2
                            try clear hcz34_3
                            try clear hcz34_4
                            try clear hcz34_5
                            try clear hcz34_6
                            try clear hcz34_7
                            try clear hcz39_0
                            try clear hcz39_1
                            try clear hcz39_2
                            try clear hcz39_3
                            try clear hcz39_4
                            try clear hcz39_5
                            try clear hcz39_6
                            try clear hcz39_7
                            try clear hcz41_0
                            try clear hcz41_1
                            try clear hcz41_2
                            try clear hcz41_3
                            try clear hcz41_4
                            try clear hcz41_5
                            try clear hcz41_6
                            try clear hcz41_7
                            try clear hcz43_0
                            try clear hcz43_1
                            try clear hcz43_2
                            try clear hcz43_3
                            try clear hcz43_4
                            try clear hcz43_5
                            try clear hcz43_6
                            try clear hcz43_7
                            try clear hcz47_0
                            try clear hcz47_1
                            try clear hcz47_2
                            try clear hcz47_3
                            try clear hcz47_4
                            try clear hcz47_5
                            try clear hcz47_6
                            try clear hcz47_7
                            try clear hcz4_0
                            try clear hcz4_1
                            try clear hcz4_2
                            try clear hcz4_3
                            try clear hcz4_4
                            try clear hcz4_5
                            try clear hcz4_6
                            try clear hcz4_7
                            try clear hcz51_0
                            try clear hcz51_1
                            try clear hcz51_2
                            try clear hcz51_3
                            try clear hcz51_4
                            try clear hcz51_5
                            try clear hcz51_6
                            try clear hcz51_7
                            try clear hcz8_0
                            try clear hcz8_1
                            try clear hcz8_2
                            try clear hcz8_3
                            try clear hcz8_4
                            try clear hcz8_5
                            try clear hcz8_6
                            try clear hcz8_7
                            try clear hfz15_0
                            try clear hfz15_1
                            try clear hfz15_2
                            try clear hfz15_3
                            try clear hfz15_4
                            try clear hfz15_5
                            try clear hfz15_6
                            try clear hfz15_7
                            try clear hfz21_0
                            try clear hfz21_1
                            try clear hfz21_2
                            try clear hfz21_3
                            try clear hfz21_4
                            try clear hfz21_5
                            try clear hfz21_6
                            try clear hfz21_7
                            try clear hfz29_0
                            try clear hfz29_1
                            try clear hfz29_2
                            try clear hfz29_3
                            try clear hfz29_4
                            try clear hfz29_5
                            try clear hfz29_6
                            try clear hfz29_7
                            try clear hfz34_0
                            try clear hfz34_1
                            try clear hfz34_2
                            try clear hfz34_3
                            try clear hfz34_4
                            try clear hfz34_5
                            try clear hfz34_6
                            try clear hfz34_7
                            try clear hfz39_0
                            try clear hfz39_1
                            try clear hfz39_2
                            try clear hfz39_3
                            try clear hfz39_4
                            try clear hfz39_5
                            try clear hfz39_6
                            try clear hfz39_7
                            try clear hfz41_0
                            try clear hfz41_1
                            try clear hfz41_2
                            try clear hfz41_3
                            try clear hfz41_4
                            try clear hfz41_5
                            try clear hfz41_6
                            try clear hfz41_7
                            try clear hfz43_0
                            try clear hfz43_1
                            try clear hfz43_2
                            try clear hfz43_3
                            try clear hfz43_4
                            try clear hfz43_5
                            try clear hfz43_6
                            try clear hfz43_7
                            try clear hfz47_0
                            try clear hfz47_1
                            try clear hfz47_2
                            try clear hfz47_3
                            try clear hfz47_4
                            try clear hfz47_5
                            try clear hfz47_6
                            try clear hfz47_7
                            try clear hfz4_0
                            try clear hfz4_1
                            try clear hfz4_2
                            try clear hfz4_3
                            try clear hfz4_4
                            try clear hfz4_5
                            try clear hfz4_6
                            try clear hfz4_7
                            try clear hfz51_0
                            try clear hfz51_1
                            try clear hfz51_2
                            try clear hfz51_3
                            try clear hfz51_4
                            try clear hfz51_5
                            try clear hfz51_6
                            try clear hfz51_7
                            try clear hfz8_0
                            try clear hfz8_1
                            try clear hfz8_2
                            try clear hfz8_3
                            try clear hfz8_4
                            try clear hfz8_5
                            try clear hfz8_6
                            try clear hfz8_7
                            try clear p2
                            obtain ⟨kq, x75_52, rfl, HA, HJ52, HO_3, BK272, HB⟩ := hcut
                            cases kq with
                            | zero => exact absurd HA.out (by simp [spec_DocValue.j3])
                            | succ kj52 =>
                              have H := HA.out
                              clear HA
                              simp only [spec_DocValue.j3] at H
                              by_cases c55 : x75_52 = true
                              · subst c55
                                have H1 : ((spec_DocInt64.f kj52 ([] : List Int) (IntKind.u64.wrap (a0_3))).bind fun t309 => (some t309)) = some r := by rw [if_pos rfl] at H; exact H
                                clear H
                                have H := H1
                                clear H1
                                replace H := Option.bind_eq_some_iff.mp H
                                obtain ⟨t309, A560, H⟩ := H
                                replace H : (some t309) = some r := H
                                have A56 := Aside0.mk A560
                                clear A560
                                as_aux_lemma =>
                                  obtain rfl := Option.some.inj H
                                  have hcz57_0 : wc.cell? ⟨gb272, 0, none⟩ = some (.int .i64 a0_0) := (blk_cell BK272.out 0).trans rfl
                                  have hcz57_1 : wc.cell? ⟨gb272, 1, none⟩ = some (.string a0_1) := (blk_cell BK272.out 1).trans rfl
                                  have hcz57_2 : wc.cell? ⟨gb272, 2, none⟩ = some (.string a0_2) := (blk_cell BK272.out 2).trans rfl
                                  have hcz57_3 : wc.cell? ⟨gb272, 3, none⟩ = some (.int .i64 a0_3) := (blk_cell BK272.out 3).trans rfl
                                  have hcz57_4 : wc.cell? ⟨gb272, 4, none⟩ = some (.int .u64 a0_4) := (blk_cell BK272.out 4).trans rfl
                                  have hcz57_5 : wc.cell? ⟨gb272, 5, none⟩ = some (.int .u64 a0_5) := (blk_cell BK272.out 5).trans rfl
                                  have hcz57_6 : wc.cell? ⟨gb272, 6, none⟩ = some (.slice A0_6 l0_6.length c0_6) := (blk_cell BK272.out 6).trans rfl
                                  have hcz57_7 : wc.cell? ⟨gb272, 7, none⟩ = some (.slice A0_7 l0_7.length c0_7) := (blk_cell BK272.out 7).trans rfl
                                  have hfz57_0 := blk_frozen BK272.out 0
                                  have hfz57_1 := blk_frozen BK272.out 1
                                  have hfz57_2 := blk_frozen BK272.out 2
                                  have hfz57_3 := blk_frozen BK272.out 3
                                  have hfz57_4 := blk_frozen BK272.out 4
                                  have hfz57_5 := blk_frozen BK272.out 5
                                  have hfz57_6 := blk_frozen BK272.out 6
                                  have hfz57_7 := blk_frozen BK272.out 7
                                  go_wp2_with (first | ((with_reducible refine gate_callee (f := 29) rfl ?_); refine goesL_ (some 82) rfl rfl Tryd.func29 (by kernel_rfl) rfl #[.slice none 0 0, .int .u64 (IntKind.u64.wrap (a0_3))] rfl (by (try simp only [List.map_toArray, List.map_cons, List.map_nil]); first | done | rfl | (simp only [List.length_drop, List.length_take]; rfl)) ?_; (with_reducible refine (spec_DocInt64.calls kj52 (fun k_ => some k_ = (.slice none 0 0 : Value).ownBlock) (.slice none 0 0) ([] : List Int) (IntKind.u64.wrap (a0_3)) t309 w _ ?side1 ?side2 A56.out).mono ?_); (case side1 => repeat (first | (with_reducible first | exact HB.out | apply below_alloc | apply pw_below_drewN | apply below_drew1 | refine below_set ?_ GE272.out) | exact HB.out)); (case side2 => exact Kd.R_tight rfl HO_3.out); rintro e w58 ⟨v310, rfl, ho0, hb, hkp⟩; refine ⟨_, rfl, ?_⟩; have n0_ := Aside0.mk (blk_kept (by (with_reducible repeat (first | refine blk_drewN ?_ _ | refine blk_drew ?_ | refine blk_alloc ?_ _)); exact BK272.out) hkp (fun hs_ => (fun e_ => (Kd.R_ne HO_3.out BK272.out (by decide)) e_) hs_)); have n1_ := Aside0.mk (Kd.R_mono (ok' := fun k_ => True) ho0 (fun k_ hk_ => trivial)); have n2_ := Aside0.mk (hb); clear BK272; clear HB; clear HO_3; have BK272 := n0_; have HO311 := n1_; have HB := n2_; clear n0_ n1_ n2_; (try clear hb); (try clear hkp); (try clear ho0)))
                                  go_ret
                                  exact ⟨_, by first | rfl | (simp [errW_none, errW_some] <;> rfl) | (simp [*, errW_none, errW_some] <;> rfl), by (with_reducible repeat (first | apply Kd.R_alloc | apply Kd.R_drewN | apply Kd.R_drew)); exact HO311.out, by repeat (first | (with_reducible first | exact HB.out | apply below_alloc | apply pw_below_drewN | apply below_drew1 | refine below_set ?_ GE272.out) | exact HB.out)⟩
                              · replace c55 := Bool.eq_false_iff.mpr c55
                                subst c55
                                have H1 : (if a0_0 = 16 then ((spec_DocInt32.f ([] : List Int) a0_3).bind fun t312 => (some t312)) else (if a0_0 = 11 then (if ([] : List Int).length + a0_1.size < 140737488355328 then ((some (([] : List Int) ++ bytesOf a0_1 : List Int)).bind fun y315 => (if y315.length < 140737488355328 then ((some (y315 ++ [0] : List Int)).bind fun y318 => (if y318.length + a0_2.size < 140737488355328 then ((some (y318 ++ bytesOf a0_2 : List Int)).bind fun y321 => (if y321.length < 140737488355328 then (some (y321 ++ [0])) else (none))) else (none))) else (none))) else (none)) else (if a0_0 = 12 then ((spec_docText.f ([] : List Int) a0_1).bind fun t327 => (if t327.length + l0_6.length < 140737488355328 then (some (t327 ++ l0_6)) else (none))) else (if a0_0 = 15 then ((spec_docText.f ([] : List Int) a0_1).bind fun t333 => ((spec_DocBytes.f kj52 l0_7).bind fun t336 => ((spec_DocInt32.f ([] : List Int) (wrap64 ((wrap64 (4 + (t333.length : Int))) + (t336.length : Int)))).bind fun t339 => (if t339.length + t333.length < 140737488355328 then ((some (t339 ++ t333 : List Int)).bind fun y342 => (if y342.length + t336.length < 140737488355328 then (some (y342 ++ t336)) else (none))) else (none))))) else (if a0_0 = 19 then ((spec_DocInt64.f kj52 ([] : List Int) a0_4).bind fun t348 => ((spec_DocInt64.f kj52 t348 a0_5).bind fun t351 => (some t351))) else (some ([] : List Int))))))) = some r := by rw [if_neg (show ¬ (false = true) by decide)] at H; exact H
                                clear H
                                have H := H1
                                clear H1
                                by_cases c59 : a0_0 = 16
                                · rw [if_pos c59] at H
                                  have c59b0 : (a0_0 == 16) = true := beq_iff_eq.mpr c59
                                  have c59b1 : (a0_0 != 16) = false := bne_eq_false_iff_eq.mpr c59
                                  clear c59
                                  replace H := Option.bind_eq_some_iff.mp H
                                  obtain ⟨t312, A600, H⟩ := H
                                  replace H : (some t312) = some r := H
                                  have A60 := Aside0.mk A600
                                  clear A600
                                  as_aux_lemma =>
                                    obtain rfl := Option.some.inj H
                                    have hcz61_0 : wc.cell? ⟨gb272, 0, none⟩ = some (.int .i64 a0_0) := (blk_cell BK272.out 0).trans rfl
                                    have hcz61_1 : wc.cell? ⟨gb272, 1, none⟩ = some (.string a0_1) := (blk_cell BK272.out 1).trans rfl
                                    have hcz61_2 : wc.cell? ⟨gb272, 2, none⟩ = some (.string a0_2) := (blk_cell BK272.out 2).trans rfl
                                    have hcz61_3 : wc.cell? ⟨gb272, 3, none⟩ = some (.int .i64 a0_3) := (blk_cell BK272.out 3).trans rfl
                                    have hcz61_4 : wc.cell? ⟨gb272, 4, none⟩ = some (.int .u64 a0_4) := (blk_cell BK272.out 4).trans rfl
                                    have hcz61_5 : wc.cell? ⟨gb272, 5, none⟩ = some (.int .u64 a0_5) := (blk_cell BK272.out 5).trans rfl
                                    have hcz61_6 : wc.cell? ⟨gb272, 6, none⟩ = some (.slice A0_6 l0_6.length c0_6) := (blk_cell BK272.out 6).trans rfl
                                    have hcz61_7 : wc.cell? ⟨gb272, 7, none⟩ = some (.slice A0_7 l0_7.length c0_7) := (blk_cell BK272.out 7).trans rfl
                                    have hfz61_0 := blk_frozen BK272.out 0
                                    have hfz61_1 := blk_frozen BK272.out 1
                                    have hfz61_2 := blk_frozen BK272.out 2
                                    have hfz61_3 := blk_frozen BK272.out 3
                                    have hfz61_4 := blk_frozen BK272.out 4
                                    have hfz61_5 := blk_frozen BK272.out 5
                                    have hfz61_6 := blk_frozen BK272.out 6
                                    have hfz61_7 := blk_frozen BK272.out 7
                                    go_wp2_with (first | ((with_reducible refine gate_callee (f := 32) rfl ?_); refine goesL_ (some 88) rfl rfl Tryd.func32 (by kernel_rfl) rfl #[.slice none 0 0, .int .i64 a0_3] rfl (by (try simp only [List.map_toArray, List.map_cons, List.map_nil]); first | done | rfl | (simp only [List.length_drop, List.length_take]; rfl)) ?_; (with_reducible refine (spec_DocInt32.calls (fun k_ => some k_ = (.slice none 0 0 : Value).ownBlock) (.slice none 0 0) ([] : List Int) a0_3 t312 w _ ?side1 ?side2 A60.out).mono ?_); (case side1 => repeat (first | (with_reducible first | exact HB.out | apply below_alloc | apply pw_below_drewN | apply below_drew1 | refine below_set ?_ GE272.out) | exact HB.out)); (case side2 => exact Kd.R_tight rfl HO_3.out); rintro e w62 ⟨v313, rfl, ho0, hb, hkp⟩; refine ⟨_, rfl, ?_⟩; have n0_ := Aside0.mk (blk_kept (by (with_reducible repeat (first | refine blk_drewN ?_ _ | refine blk_drew ?_ | refine blk_alloc ?_ _)); exact BK272.out) hkp (fun hs_ => (fun e_ => (Kd.R_ne HO_3.out BK272.out (by decide)) e_) hs_)); have n1_ := Aside0.mk (Kd.R_mono (ok' := fun k_ => True) ho0 (fun k_ hk_ => trivial)); have n2_ := Aside0.mk (hb); clear BK272; clear HB; clear HO_3; have BK272 := n0_; have HO314 := n1_; have HB := n2_; clear n0_ n1_ n2_; (try clear hb); (try clear hkp); (try clear ho0)))
                                    go_ret
                                    exact ⟨_, by first | rfl | (simp [errW_none, errW_some] <;> rfl) | (simp [*, errW_none, errW_some] <;> rfl), by (with_reducible repeat (first | apply Kd.R_alloc | apply Kd.R_drewN | apply Kd.R_drew)); exact HO314.out, by repeat (first | (with_reducible first | exact HB.out | apply below_alloc | apply pw_below_drewN | apply below_drew1 | refine below_set ?_ GE272.out) | exact HB.out)⟩
                                · rw [if_neg c59] at H
                                  have c59b0 : (a0_0 == 16) = false := beq_eq_false_iff_ne.mpr c59
                                  have c59b1 : (a0_0 != 16) = true := bne_iff_ne.mpr c59
                                  by_cases c63 : a0_0 = 11
                                  · rw [if_pos c63] at H
                                    have c63b0 : (a0_0 == 11) = true := beq_iff_eq.mpr c63
                                    have c63b1 : (a0_0 != 11) = false := bne_eq_false_iff_eq.mpr c63
                                    clear c63
                                    by_cases c64 : ([] : List Int).length + a0_1.size < 140737488355328
                                    · rw [if_pos c64] at H
                                      have LMc64 := Aside0.mk c64
                                      clear c64
                                      obtain ⟨y315, hy315⟩ : ∃ y_ : List Int, y_ = (([] : List Int) ++ bytesOf a0_1) := ⟨_, rfl⟩
                                      replace H : (if y315.length < 140737488355328 then ((some (y315 ++ [0] : List Int)).bind fun y318 => (if y318.length + a0_2.size < 140737488355328 then ((some (y318 ++ bytesOf a0_2 : List Int)).bind fun y321 => (if y321.length < 140737488355328 then (some (y321 ++ [0])) else (none))) else (none))) else (none)) = some r := by first | (rw [hy315]; with_reducible exact H) | (have H2_ := (Option.bind_some _ _).symm.trans H; rw [hy315]; with_reducible exact H2_) | (have H2_ := (Option.bind_some _ _).symm.trans H; with_reducible exact H2_) | with_reducible exact H | (rw [hy315]; exact H) | exact H
                                      have Ny315 := Aside0.mk hy315
                                      clear hy315
                                      by_cases c65 : y315.length < 140737488355328
                                      · rw [if_pos c65] at H
                                        have LMc65 := Aside0.mk c65
                                        clear c65
                                        obtain ⟨y318, hy318⟩ : ∃ y_ : List Int, y_ = (y315 ++ [0]) := ⟨_, rfl⟩
                                        replace H : (if y318.length + a0_2.size < 140737488355328 then ((some (y318 ++ bytesOf a0_2 : List Int)).bind fun y321 => (if y321.length < 140737488355328 then (some (y321 ++ [0])) else (none))) else (none)) = some r := by first | (rw [hy318]; with_reducible exact H) | (have H2_ := (Option.bind_some _ _).symm.trans H; rw [hy318]; with_reducible exact H2_) | (have H2_ := (Option.bind_some _ _).symm.trans H; with_reducible exact H2_) | with_reducible exact H | (rw [hy318]; exact H) | exact H
                                        have Ny318 := Aside0.mk hy318
                                        clear hy318
                                        by_cases c66 : y318.length + a0_2.size < 140737488355328
                                        · rw [if_pos c66] at H
                                          have LMc66 := Aside0.mk c66
                                          clear c66
                                          obtain ⟨y321, hy321⟩ : ∃ y_ : List Int, y_ = (y318 ++ bytesOf a0_2) := ⟨_, rfl⟩
                                          replace H : (if y321.length < 140737488355328 then (some (y321 ++ [0])) else (none)) = some r := by first | (rw [hy321]; with_reducible exact H) | (have H2_ := (Option.bind_some _ _).symm.trans H; rw [hy321]; with_reducible exact H2_) | (have H2_ := (Option.bind_some _ _).symm.trans H; with_reducible exact H2_) | with_reducible exact H | (rw [hy321]; exact H) | exact H
                                          have Ny321 := Aside0.mk hy321
                                          clear hy321
                                          by_cases c67 : y321.length < 140737488355328
                                          · rw [if_pos c67] at H
                                            have LMc67 := Aside0.mk c67
                                            clear c67
                                            obtain ⟨y324, hy324⟩ : ∃ y_ : List Int, y_ = (y321 ++ [0]) := ⟨_, rfl⟩
                                            replace H : (some y324) = some r := by first | (rw [hy324]; with_reducible exact H) | (have H2_ := (Option.bind_some _ _).symm.trans H; rw [hy324]; with_reducible exact H2_) | (have H2_ := (Option.bind_some _ _).symm.trans H; with_reducible exact H2_) | with_reducible exact H | (rw [hy324]; exact H) | exact H
                                            have Ny324 := Aside0.mk hy324
                                            clear hy324
                                            as_aux_lemma =>
                                              obtain rfl := Option.some.inj H
                                              have hcz68_0 : wc.cell? ⟨gb272, 0, none⟩ = some (.int .i64 a0_0) := (blk_cell BK272.out 0).trans rfl
                                              have hcz68_1 : wc.cell? ⟨gb272, 1, none⟩ = some (.string a0_1) := (blk_cell BK272.out 1).trans rfl
                                              have hcz68_2 : wc.cell? ⟨gb272, 2, none⟩ = some (.string a0_2) := (blk_cell BK272.out 2).trans rfl
                                              have hcz68_3 : wc.cell? ⟨gb272, 3, none⟩ = some (.int .i64 a0_3) := (blk_cell BK272.out 3).trans rfl
                                              have hcz68_4 : wc.cell? ⟨gb272, 4, none⟩ = some (.int .u64 a0_4) := (blk_cell BK272.out 4).trans rfl
                                              have hcz68_5 : wc.cell? ⟨gb272, 5, none⟩ = some (.int .u64 a0_5) := (blk_cell BK272.out 5).trans rfl
                                              have hcz68_6 : wc.cell? ⟨gb272, 6, none⟩ = some (.slice A0_6 l0_6.length c0_6) := (blk_cell BK272.out 6).trans rfl
                                              have hcz68_7 : wc.cell? ⟨gb272, 7, none⟩ = some (.slice A0_7 l0_7.length c0_7) := (blk_cell BK272.out 7).trans rfl
                                              have hfz68_0 := blk_frozen BK272.out 0
                                              have hfz68_1 := blk_frozen BK272.out 1
                                              have hfz68_2 := blk_frozen BK272.out 2
                                              have hfz68_3 := blk_frozen BK272.out 3
                                              have hfz68_4 := blk_frozen BK272.out 4
                                              have hfz68_5 := blk_frozen BK272.out 5
                                              have hfz68_6 := blk_frozen BK272.out 6
                                              have hfz68_7 := blk_frozen BK272.out 7
                                              go_wp2_with (first | (at_builtin; refine HW.R_append_str (w0 := w) w.heap.size rfl (.tmp 91) _ 23 9 5 rfl Tryd.underlying23 Tryd.underlying9 info5 (.slice none 0 0) ([] : List Int) a0_1 (fun _ => True) rfl rfl ?aO ?aF ?aB ?aS ?aL ?_; (case aB => exact (by repeat (first | (with_reducible first | exact HB.out | apply below_alloc | apply pw_below_drewN | apply below_drew1 | refine below_set ?_ GE272.out) | exact HB.out))); (case aF => exact (fun _ _ => trivial)); (case aO => exact (by (with_reducible repeat (first | apply Kd.R_alloc | apply Kd.R_drewN | apply Kd.R_drew)); exact HO_3.out)); (case aS => exact (below_size (by repeat (first | (with_reducible first | exact HB.out | apply below_alloc | apply pw_below_drewN | apply below_drew1 | refine below_set ?_ GE272.out) | exact HB.out)))); (case aL => have := LMc64.out; omega); intro v316 w69 ho hb hg hat; rw [← Ny315.out] at ho; have n0_ := Aside0.mk (blk_grown (g := gb272) (o := .cells #[.int .i64 a0_0, .string a0_1, .string a0_2, .int .i64 a0_3, .int .u64 a0_4, .int .u64 a0_5, .slice A0_6 l0_6.length c0_6, .slice A0_7 l0_7.length c0_7] 26 (0, 0)) (by (with_reducible repeat (first | refine blk_drewN ?_ _ | refine blk_drew ?_ | refine blk_alloc ?_ _)); exact BK272.out) hg (Kd.R_ne HO_3.out BK272.out (by decide))); have n1_ := Aside0.mk (hb); have n2_ := Aside0.mk (ho); clear BK272; clear HB; clear HO_3; have BK272 := n0_; have HB := n1_; have HO317 := n2_; clear n0_ n1_ n2_; clear ho hb hg hat) | ((with_reducible refine gate_builtin (b := .append) (xs := #[.tmp 95, .tmp 96]) rfl ?_); at_builtin; refine Kd.R_append (Kd.int .u8) (w0 := w) w.heap.size rfl (.tmp 95) (.tmp 96) 23 5 (.int .u8 0) 1 rfl Tryd.underlying23 info5 rfl (by decide) (by omega) v316 y315 0 [.int .u8 0] (fun _ => True) (fun _ => False) rfl rfl ?aP (fun _ hk => hk.elim) ?aF ?aO ?aB ?aS ?aL ?_; (case aP => exact rfl); (case aB => exact (by repeat (first | (with_reducible first | exact HB.out | apply below_alloc | apply pw_below_drewN | apply below_drew1 | refine below_set ?_ GE272.out) | exact HB.out))); (case aF => exact (fun _ _ => trivial)); (case aO => exact (by (with_reducible repeat (first | apply Kd.R_alloc | apply Kd.R_drewN | apply Kd.R_drew)); exact HO317.out)); (case aS => exact (below_size (by repeat (first | (with_reducible first | exact HB.out | apply below_alloc | apply pw_below_drewN | apply below_drew1 | refine below_set ?_ GE272.out) | exact HB.out)))); (case aL => have := LMc65.out; omega); intro v319 w70 ho hb hg hat; rw [← Ny318.out] at ho; have n0_ := Aside0.mk (blk_grown (g := gb272) (o := .cells #[.int .i64 a0_0, .string a0_1, .string a0_2, .int .i64 a0_3, .int .u64 a0_4, .int .u64 a0_5, .slice A0_6 l0_6.length c0_6, .slice A0_7 l0_7.length c0_7] 26 (0, 0)) (by (with_reducible repeat (first | refine blk_drewN ?_ _ | refine blk_drew ?_ | refine blk_alloc ?_ _)); exact BK272.out) hg (Kd.R_ne HO317.out BK272.out (by decide))); have n1_ := Aside0.mk (hb); have n2_ := Aside0.mk (ho); clear BK272; clear HB; clear HO317; have BK272 := n0_; have HB := n1_; have HO320 := n2_; clear n0_ n1_ n2_; clear ho hb hg hat; have hcz71_0 : w70.cell? ⟨gb272, 0, none⟩ = some (.int .i64 a0_0) := (blk_cell BK272.out 0).trans rfl; have hcz71_1 : w70.cell? ⟨gb272, 1, none⟩ = some (.string a0_1) := (blk_cell BK272.out 1).trans rfl; have hcz71_2 : w70.cell? ⟨gb272, 2, none⟩ = some (.string a0_2) := (blk_cell BK272.out 2).trans rfl; have hcz71_3 : w70.cell? ⟨gb272, 3, none⟩ = some (.int .i64 a0_3) := (blk_cell BK272.out 3).trans rfl; have hcz71_4 : w70.cell? ⟨gb272, 4, none⟩ = some (.int .u64 a0_4) := (blk_cell BK272.out 4).trans rfl; have hcz71_5 : w70.cell? ⟨gb272, 5, none⟩ = some (.int .u64 a0_5) := (blk_cell BK272.out 5).trans rfl; have hcz71_6 : w70.cell? ⟨gb272, 6, none⟩ = some (.slice A0_6 l0_6.length c0_6) := (blk_cell BK272.out 6).trans rfl; have hcz71_7 : w70.cell? ⟨gb272, 7, none⟩ = some (.slice A0_7 l0_7.length c0_7) := (blk_cell BK272.out 7).trans rfl; have hfz71_0 := blk_frozen BK272.out 0; have hfz71_1 := blk_frozen BK272.out 1; have hfz71_2 := blk_frozen BK272.out 2; have hfz71_3 := blk_frozen BK272.out 3; have hfz71_4 := blk_frozen BK272.out 4; have hfz71_5 := blk_frozen BK272.out 5; have hfz71_6 := blk_frozen BK272.out 6; have hfz71_7 := blk_frozen BK272.out 7) | (at_builtin; refine HW.R_append_str (w0 := w) w.heap.size rfl (.tmp 98) _ 23 9 5 rfl Tryd.underlying23 Tryd.underlying9 info5 v319 y318 a0_2 (fun _ => True) rfl rfl ?aO ?aF ?aB ?aS ?aL ?_; (case aB => exact (by repeat (first | (with_reducible first | exact HB.out | apply below_alloc | apply pw_below_drewN | apply below_drew1 | refine below_set ?_ GE272.out) | exact HB.out))); (case aF => exact (fun _ _ => trivial)); (case aO => exact (by (with_reducible repeat (first | apply Kd.R_alloc | apply Kd.R_drewN | apply Kd.R_drew)); exact HO320.out)); (case aS => exact (below_size (by repeat (first | (with_reducible first | exact HB.out | apply below_alloc | apply pw_below_drewN | apply below_drew1 | refine below_set ?_ GE272.out) | exact HB.out)))); (case aL => have := LMc66.out; omega); intro v322 w72 ho hb hg hat; rw [← Ny321.out] at ho; have n0_ := Aside0.mk (blk_grown (g := gb272) (o := .cells #[.int .i64 a0_0, .string a0_1, .string a0_2, .int .i64 a0_3, .int .u64 a0_4, .int .u64 a0_5, .slice A0_6 l0_6.length c0_6, .slice A0_7 l0_7.length c0_7] 26 (0, 0)) (by (with_reducible repeat (first | refine blk_drewN ?_ _ | refine blk_drew ?_ | refine blk_alloc ?_ _)); exact BK272.out) hg (Kd.R_ne HO320.out BK272.out (by decide))); have n1_ := Aside0.mk (hb); have n2_ := Aside0.mk (ho); clear BK272; clear HB; clear HO320; have BK272 := n0_; have HB := n1_; have HO323 := n2_; clear n0_ n1_ n2_; clear ho hb hg hat) | ((with_reducible refine gate_builtin (b := .append) (xs := #[.tmp 102, .tmp 103]) rfl ?_); at_builtin; refine Kd.R_append (Kd.int .u8) (w0 := w) w.heap.size rfl (.tmp 102) (.tmp 103) 23 5 (.int .u8 0) 1 rfl Tryd.underlying23 info5 rfl (by decide) (by omega) v322 y321 0 [.int .u8 0] (fun _ => True) (fun _ => False) rfl rfl ?aP (fun _ hk => hk.elim) ?aF ?aO ?aB ?aS ?aL ?_; (case aP => exact rfl); (case aB => exact (by repeat (first | (with_reducible first | exact HB.out | apply below_alloc | apply pw_below_drewN | apply below_drew1 | refine below_set ?_ GE272.out) | exact HB.out))); (case aF => exact (fun _ _ => trivial)); (case aO => exact (by (with_reducible repeat (first | apply Kd.R_alloc | apply Kd.R_drewN | apply Kd.R_drew)); exact HO323.out)); (case aS => exact (below_size (by repeat (first | (with_reducible first | exact HB.out | apply below_alloc | apply pw_below_drewN | apply below_drew1 | refine below_set ?_ GE272.out) | exact HB.out)))); (case aL => have := LMc67.out; omega); intro v325 w73 ho hb hg hat; rw [← Ny324.out] at ho; have n0_ := Aside0.mk (blk_grown (g := gb272) (o := .cells #[.int .i64 a0_0, .string a0_1, .string a0_2, .int .i64 a0_3, .int .u64 a0_4, .int .u64 a0_5, .slice A0_6 l0_6.length c0_6, .slice A0_7 l0_7.length c0_7] 26 (0, 0)) (by (with_reducible repeat (first | refine blk_drewN ?_ _ | refine blk_drew ?_ | refine blk_alloc ?_ _)); exact BK272.out) hg (Kd.R_ne HO323.out BK272.out (by decide))); have n1_ := Aside0.mk (hb); have n2_ := Aside0.mk (ho); clear BK272; clear HB; clear HO323; have BK272 := n0_; have HB := n1_; have HO326 := n2_; clear n0_ n1_ n2_; clear ho hb hg hat))
                                              go_ret
                                              exact ⟨_, by first | rfl | (simp [errW_none, errW_some] <;> rfl) | (simp [*, errW_none, errW_some] <;> rfl), by (with_reducible repeat (first | apply Kd.R_alloc | apply Kd.R_drewN | apply Kd.R_drew)); exact HO326.out, by repeat (first | (with_reducible first | exact HB.out | apply below_alloc | apply pw_below_drewN | apply below_drew1 | refine below_set ?_ GE272.out) | exact HB.out)⟩
                                          · rw [if_neg c67] at H
                                            exact absurd H (by simp)
                                        · rw [if_neg c66] at H
                                          exact absurd H (by simp)
                                      · rw [if_neg c65] at H
                                        exact absurd H (by simp)
                                    · rw [if_neg c64] at H
                                      exact absurd H (by simp)
                                  · rw [if_neg c63] at H
                                    have c63b0 : (a0_0 == 11) = false := beq_eq_false_iff_ne.mpr c63
                                    have c63b1 : (a0_0 != 11) = true := bne_iff_ne.mpr c63
                                    by_cases c74 : a0_0 = 12
                                    · rw [if_pos c74] at H
                                      have c74b0 : (a0_0 == 12) = true := beq_iff_eq.mpr c74
                                      have c74b1 : (a0_0 != 12) = false := bne_eq_false_iff_eq.mpr c74
                                      clear c74
                                      replace H := Option.bind_eq_some_iff.mp H
                                      obtain ⟨t327, A750, H⟩ := H
                                      replace H : (if t327.length + l0_6.length < 140737488355328 then (some (t327 ++ l0_6)) else (none)) = some r := H
                                      have A75 := Aside0.mk A750
                                      clear A750
                                      by_cases c76 : t327.length + l0_6.length < 140737488355328
                                      · rw [if_pos c76] at H
                                        have LMc76 := Aside0.mk c76
                                        clear c76
                                        obtain ⟨y330, hy330⟩ : ∃ y_ : List Int, y_ = (t327 ++ l0_6) := ⟨_, rfl⟩
                                        replace H : (some y330) = some r := by first | (rw [hy330]; with_reducible exact H) | (have H2_ := (Option.bind_some _ _).symm.trans H; rw [hy330]; with_reducible exact H2_) | (have H2_ := (Option.bind_some _ _).symm.trans H; with_reducible exact H2_) | with_reducible exact H | (rw [hy330]; exact H) | exact H
                                        have Ny330 := Aside0.mk hy330
                                        clear hy330
                                        as_aux_lemma =>
                                          obtain rfl := Option.some.inj H
                                          have hcz77_0 : wc.cell? ⟨gb272, 0, none⟩ = some (.int .i64 a0_0) := (blk_cell BK272.out 0).trans rfl
                                          have hcz77_1 : wc.cell? ⟨gb272, 1, none⟩ = some (.string a0_1) := (blk_cell BK272.out 1).trans rfl
                                          have hcz77_2 : wc.cell? ⟨gb272, 2, none⟩ = some (.string a0_2) := (blk_cell BK272.out 2).trans rfl
                                          have hcz77_3 : wc.cell? ⟨gb272, 3, none⟩ = some (.int .i64 a0_3) := (blk_cell BK272.out 3).trans rfl
                                          have hcz77_4 : wc.cell? ⟨gb272, 4, none⟩ = some (.int .u64 a0_4) := (blk_cell BK272.out 4).trans rfl
                                          have hcz77_5 : wc.cell? ⟨gb272, 5, none⟩ = some (.int .u64 a0_5) := (blk_cell BK272.out 5).trans rfl
                                          have hcz77_6 : wc.cell? ⟨gb272, 6, none⟩ = some (.slice A0_6 l0_6.length c0_6) := (blk_cell BK272.out 6).trans rfl
                                          have hcz77_7 : wc.cell? ⟨gb272, 7, none⟩ = some (.slice A0_7 l0_7.length c0_7) := (blk_cell BK272.out 7).trans rfl
                                          have hfz77_0 := blk_frozen BK272.out 0
                                          have hfz77_1 := blk_frozen BK272.out 1
                                          have hfz77_2 := blk_frozen BK272.out 2
                                          have hfz77_3 := blk_frozen BK272.out 3
                                          have hfz77_4 := blk_frozen BK272.out 4
                                          have hfz77_5 := blk_frozen BK272.out 5
                                          have hfz77_6 := blk_frozen BK272.out 6
                                          have hfz77_7 := blk_frozen BK272.out 7
                                          go_wp2_with (first | ((with_reducible refine gate_callee (f := 30) rfl ?_); refine goesL_ (some 110) rfl rfl Tryd.func30 (by kernel_rfl) rfl #[.slice none 0 0, .string a0_1] rfl (by (try simp only [List.map_toArray, List.map_cons, List.map_nil]); first | done | rfl | (simp only [List.length_drop, List.length_take]; rfl)) ?_; (with_reducible refine (spec_docText.calls (fun k_ => some k_ = (.slice none 0 0 : Value).ownBlock) (.slice none 0 0) ([] : List Int) a0_1 t327 w _ ?side1 ?side2 A75.out).mono ?_); (case side1 => repeat (first | (with_reducible first | exact HB.out | apply below_alloc | apply pw_below_drewN | apply below_drew1 | refine below_set ?_ GE272.out) | exact HB.out)); (case side2 => exact Kd.R_tight rfl HO_3.out); rintro e w78 ⟨v328, rfl, ho0, hb, hkp⟩; refine ⟨_, rfl, ?_⟩; have n0_ := Aside0.mk (blk_kept (by (with_reducible repeat (first | refine blk_drewN ?_ _ | refine blk_drew ?_ | refine blk_alloc ?_ _)); exact BK272.out) hkp (fun hs_ => (fun e_ => (Kd.R_ne HO_3.out BK272.out (by decide)) e_) hs_)); have n1_ := Aside0.mk (Kd.R_mono (ok' := fun k_ => True) ho0 (fun k_ hk_ => trivial)); have n2_ := Aside0.mk (hb); clear BK272; clear HB; clear HO_3; have BK272 := n0_; have HO329 := n1_; have HB := n2_; clear n0_ n1_ n2_; (try clear hb); (try clear hkp); (try clear ho0); have hcz79_0 : w78.cell? ⟨gb272, 0, none⟩ = some (.int .i64 a0_0) := (blk_cell BK272.out 0).trans rfl; have hcz79_1 : w78.cell? ⟨gb272, 1, none⟩ = some (.string a0_1) := (blk_cell BK272.out 1).trans rfl; have hcz79_2 : w78.cell? ⟨gb272, 2, none⟩ = some (.string a0_2) := (blk_cell BK272.out 2).trans rfl; have hcz79_3 : w78.cell? ⟨gb272, 3, none⟩ = some (.int .i64 a0_3) := (blk_cell BK272.out 3).trans rfl; have hcz79_4 : w78.cell? ⟨gb272, 4, none⟩ = some (.int .u64 a0_4) := (blk_cell BK272.out 4).trans rfl; have hcz79_5 : w78.cell? ⟨gb272, 5, none⟩ = some (.int .u64 a0_5) := (blk_cell BK272.out 5).trans rfl; have hcz79_6 : w78.cell? ⟨gb272, 6, none⟩ = some (.slice A0_6 l0_6.length c0_6) := (blk_cell BK272.out 6).trans rfl; have hcz79_7 : w78.cell? ⟨gb272, 7, none⟩ = some (.slice A0_7 l0_7.length c0_7) := (blk_cell BK272.out 7).trans rfl; have hfz79_0 := blk_frozen BK272.out 0; have hfz79_1 := blk_frozen BK272.out 1; have hfz79_2 := blk_frozen BK272.out 2; have hfz79_3 := blk_frozen BK272.out 3; have hfz79_4 := blk_frozen BK272.out 4; have hfz79_5 := blk_frozen BK272.out 5; have hfz79_6 := blk_frozen BK272.out 6; have hfz79_7 := blk_frozen BK272.out 7) | ((with_reducible refine gate_builtin (b := .append) (xs := #[.tmp 111, .tmp 113]) rfl ?_); at_builtin; refine Kd.R_append_rows (Kd.int .u8) (w0 := w) w.heap.size rfl (.tmp 111) (.tmp 113) 23 5 (.int .u8 0) 1 rfl Tryd.underlying23 info5 rfl (by decide) (by omega) v328 t327 l0_6 _ _ _ (fun _ => True) (fun _ => False) rfl rfl ?aO ?aR (fun _ _ h => h) (fun _ h => h.elim) ?aF ?aB ?aS ?aL ?_; (case aR => repeat (first | exact (Kd.C_below HR0_6.out HB.out) | (with_reducible refine Kd.C_alloc ?_ _) | (with_reducible refine Kd.C_drewN ?_ _) | (with_reducible refine Kd.C_drew ?_))); (case aB => exact (by repeat (first | (with_reducible first | exact HB.out | apply below_alloc | apply pw_below_drewN | apply below_drew1 | refine below_set ?_ GE272.out) | exact HB.out))); (case aF => exact (fun _ _ => trivial)); (case aO => exact (by (with_reducible repeat (first | apply Kd.R_alloc | apply Kd.R_drewN | apply Kd.R_drew)); exact HO329.out)); (case aS => exact (below_size (by repeat (first | (with_reducible first | exact HB.out | apply below_alloc | apply pw_below_drewN | apply below_drew1 | refine below_set ?_ GE272.out) | exact HB.out)))); (case aL => have := LMc76.out; omega); intro v331 w80 ho hb hg hat; rw [← Ny330.out] at ho; have n0_ := Aside0.mk (blk_grown (g := gb272) (o := .cells #[.int .i64 a0_0, .string a0_1, .string a0_2, .int .i64 a0_3, .int .u64 a0_4, .int .u64 a0_5, .slice A0_6 l0_6.length c0_6, .slice A0_7 l0_7.length c0_7] 26 (0, 0)) (by (with_reducible repeat (first | refine blk_drewN ?_ _ | refine blk_drew ?_ | refine blk_alloc ?_ _)); exact BK272.out) hg (Kd.R_ne HO329.out BK272.out (by decide))); have n1_ := Aside0.mk (hb); have n2_ := Aside0.mk (ho); clear BK272; clear HB; clear HO329; have BK272 := n0_; have HB := n1_; have HO332 := n2_; clear n0_ n1_ n2_; clear ho hb hg hat))
                                          go_ret
                                          exact ⟨_, by first | rfl | (simp [errW_none, errW_some] <;> rfl) | (simp [*, errW_none, errW_some] <;> rfl), by (with_reducible repeat (first | apply Kd.R_alloc | apply Kd.R_drewN | apply Kd.R_drew)); exact HO332.out, by repeat (first | (with_reducible first | exact HB.out | apply below_alloc | apply pw_below_drewN | apply below_drew1 | refine below_set ?_ GE272.out) | exact HB.out)⟩
                                      · rw [if_neg c76] at H
                                        exact absurd H (by simp)
                                    · rw [if_neg c74] at H
                                      have c74b0 : (a0_0 == 12) = false := beq_eq_false_iff_ne.mpr c74
                                      have c74b1 : (a0_0 != 12) = true := bne_iff_ne.mpr c74
                                      by_cases c81 : a0_0 = 15
                                      · rw [if_pos c81] at H
                                        have c81b0 : (a0_0 == 15) = true := beq_iff_eq.mpr c81
                                        have c81b1 : (a0_0 != 15) = false := bne_eq_false_iff_eq.mpr c81
                                        clear c81
                                        replace H := Option.bind_eq_some_iff.mp H
                                        obtain ⟨t333, A820, H⟩ := H
                                        replace H : ((spec_DocBytes.f kj52 l0_7).bind fun t336 => ((spec_DocInt32.f ([] : List Int) (wrap64 ((wrap64 (4 + (t333.length : Int))) + (t336.length : Int)))).bind fun t339 => (if t339.length + t333.length < 140737488355328 then ((some (t339 ++ t333 : List Int)).bind fun y342 => (if y342.length + t336.length < 140737488355328 then (some (y342 ++ t336)) else (none))) else (none)))) = some r := H
                                        have A82 := Aside0.mk A820
                                        clear A820
                                        replace H := Option.bind_eq_some_iff.mp H
                                        obtain ⟨t336, A830, H⟩ := H
                                        replace H : ((spec_DocInt32.f ([] : List Int) (wrap64 ((wrap64 (4 + (t333.length : Int))) + (t336.length : Int)))).bind fun t339 => (if t339.length + t333.length < 140737488355328 then ((some (t339 ++ t333 : List Int)).bind fun y342 => (if y342.length + t336.length < 140737488355328 then (some (y342 ++ t336)) else (none))) else (none))) = some r := H
                                        have A83 := Aside0.mk A830
                                        clear A830
                                        replace H := Option.bind_eq_some_iff.mp H
                                        obtain ⟨t339, A840, H⟩ := H
                                        replace H : (if t339.length + t333.length < 140737488355328 then ((some (t339 ++ t333 : List Int)).bind fun y342 => (if y342.length + t336.length < 140737488355328 then (some (y342 ++ t336)) else (none))) else (none)) = some r := H
                                        have A84 := Aside0.mk A840
                                        clear A840
                                        by_cases c85 : t339.length + t333.length < 140737488355328
                                        · rw [if_pos c85] at H
                                          have LMc85 := Aside0.mk c85
                                          clear c85
                                          obtain ⟨y342, hy342⟩ : ∃ y_ : List Int, y_ = (t339 ++ t333) := ⟨_, rfl⟩
                                          replace H : (if y342.length + t336.length < 140737488355328 then (some (y342 ++ t336)) else (none)) = some r := by first | (rw [hy342]; with_reducible exact H) | (have H2_ := (Option.bind_some _ _).symm.trans H; rw [hy342]; with_reducible exact H2_) | (have H2_ := (Option.bind_some _ _).symm.trans H; with_reducible exact H2_) | with_reducible exact H | (rw [hy342]; exact H) | exact H
                                          have Ny342 := Aside0.mk hy342
                                          clear hy342
                                          by_cases c86 : y342.length + t336.length < 140737488355328
                                          · rw [if_pos c86] at H
                                            have LMc86 := Aside0.mk c86
                                            clear c86
                                            obtain ⟨y345, hy345⟩ : ∃ y_ : List Int, y_ = (y342 ++ t336) := ⟨_, rfl⟩
                                            replace H : (some y345) = some r := by first | (rw [hy345]; with_reducible exact H) | (have H2_ := (Option.bind_some _ _).symm.trans H; rw [hy345]; with_reducible exact H2_) | (have H2_ := (Option.bind_some _ _).symm.trans H; with_reducible exact H2_) | with_reducible exact H | (rw [hy345]; exact H) | exact H
                                            have Ny345 := Aside0.mk hy345
                                            clear hy345
                                            as_aux_lemma =>
                                              obtain rfl := Option.some.inj H
                                              have hcz87_0 : wc.cell? ⟨gb272, 0, none⟩ = some (.int .i64 a0_0) := (blk_cell BK272.out 0).trans rfl
                                              have hcz87_1 : wc.cell? ⟨gb272, 1, none⟩ = some (.string a0_1) := (blk_cell BK272.out 1).trans rfl
                                              have hcz87_2 : wc.cell? ⟨gb272, 2, none⟩ = some (.string a0_2) := (blk_cell BK272.out 2).trans rfl
                                              have hcz87_3 : wc.cell? ⟨gb272, 3, none⟩ = some (.int .i64 a0_3) := (blk_cell BK272.out 3).trans rfl
                                              have hcz87_4 : wc.cell? ⟨gb272, 4, none⟩ = some (.int .u64 a0_4) := (blk_cell BK272.out 4).trans rfl
                                              have hcz87_5 : wc.cell? ⟨gb272, 5, none⟩ = some (.int .u64 a0_5) := (blk_cell BK272.out 5).trans rfl
                                              have hcz87_6 : wc.cell? ⟨gb272, 6, none⟩ = some (.slice A0_6 l0_6.length c0_6) := (blk_cell BK272.out 6).trans rfl
                                              have hcz87_7 : wc.cell? ⟨gb272, 7, none⟩ = some (.slice A0_7 l0_7.length c0_7) := (blk_cell BK272.out 7).trans rfl
                                              have hfz87_0 := blk_frozen BK272.out 0
                                              have hfz87_1 := blk_frozen BK272.out 1
                                              have hfz87_2 := blk_frozen BK272.out 2
                                              have hfz87_3 := blk_frozen BK272.out 3
                                              have hfz87_4 := blk_frozen BK272.out 4
                                              have hfz87_5 := blk_frozen BK272.out 5
                                              have hfz87_6 := blk_frozen BK272.out 6
                                              have hfz87_7 := blk_frozen BK272.out 7
                                              go_wp2_with (first | ((with_reducible refine gate_callee (f := 30) rfl ?_); refine goesL_ (some 119) rfl rfl Tryd.func30 (by kernel_rfl) rfl #[.slice none 0 0, .string a0_1] rfl (by (try simp only [List.map_toArray, List.map_cons, List.map_nil]); first | done | rfl | (simp only [List.length_drop, List.length_take]; rfl)) ?_; (refine (spec_docText.calls (fun k_ => some k_ = (.slice none 0 0 : Value).ownBlock) (.slice none 0 0) ([] : List Int) a0_1 t333 w _ ?side1 ?side2 A82.out).mono ?_); (case side1 => repeat (first | (with_reducible first | exact HB.out | apply below_alloc | apply pw_below_drewN | apply below_drew1 | refine below_set ?_ GE272.out) | exact HB.out)); (case side2 => exact Kd.R_nil _ _ _ _ _); rintro e w88 ⟨v334, rfl, ho0, hb, hkp⟩; refine ⟨_, rfl, ?_⟩; have n0_ := Aside0.mk (Kd.R_mono (ok' := fun k_ => some k_ ≠ (v334 : Value).ownBlock) (Kd.R_keptB (HO_3.out) hkp (fun k_ hk_ hs_ => (fun e_ => by simp [Value.ownBlock] at e_) hs_)) (fun k_ hk_ => fun e_ => Or.elim (ho0.1 k_ e_.symm) (fun hs_ => hk_.2.1 hs_) (fun hn_ => Nat.not_le.2 hk_.2.2 hn_))); have n1_ := Aside0.mk (blk_kept (by (with_reducible repeat (first | refine blk_drewN ?_ _ | refine blk_drew ?_ | refine blk_alloc ?_ _)); exact BK272.out) hkp (fun hs_ => (fun e_ => by simp [Value.ownBlock] at e_) hs_)); have n2_ := Aside0.mk (Kd.R_mono (ok' := fun k_ => some k_ ≠ (.slice none 0 0 : Value).ownBlock) ho0 (fun k_ hk_ => Or.elim hk_ (fun hs_ => absurd hs_ (by simp [Value.ownBlock])) (fun hn_ => (Kd.fresh' (Kd.R_lt (by (with_reducible repeat (first | apply Kd.R_alloc | apply Kd.R_drewN | apply Kd.R_drew)); exact HO_3.out)) k_ hn_)))); have n3_ := Aside0.mk (hb); clear HO_3; clear BK272; clear HB; have HO_3 := n0_; have BK272 := n1_; have HO335 := n2_; have HB := n3_; clear n0_ n1_ n2_ n3_; (try clear hb); (try clear hkp); (try clear ho0); have hcz89_0 : w88.cell? ⟨gb272, 0, none⟩ = some (.int .i64 a0_0) := (blk_cell BK272.out 0).trans rfl; have hcz89_1 : w88.cell? ⟨gb272, 1, none⟩ = some (.string a0_1) := (blk_cell BK272.out 1).trans rfl; have hcz89_2 : w88.cell? ⟨gb272, 2, none⟩ = some (.string a0_2) := (blk_cell BK272.out 2).trans rfl; have hcz89_3 : w88.cell? ⟨gb272, 3, none⟩ = some (.int .i64 a0_3) := (blk_cell BK272.out 3).trans rfl; have hcz89_4 : w88.cell? ⟨gb272, 4, none⟩ = some (.int .u64 a0_4) := (blk_cell BK272.out 4).trans rfl; have hcz89_5 : w88.cell? ⟨gb272, 5, none⟩ = some (.int .u64 a0_5) := (blk_cell BK272.out 5).trans rfl; have hcz89_6 : w88.cell? ⟨gb272, 6, none⟩ = some (.slice A0_6 l0_6.length c0_6) := (blk_cell BK272.out 6).trans rfl; have hcz89_7 : w88.cell? ⟨gb272, 7, none⟩ = some (.slice A0_7 l0_7.length c0_7) := (blk_cell BK272.out 7).trans rfl; have hfz89_0 := blk_frozen BK272.out 0; have hfz89_1 := blk_frozen BK272.out 1; have hfz89_2 := blk_frozen BK272.out 2; have hfz89_3 := blk_frozen BK272.out 3; have hfz89_4 := blk_frozen BK272.out 4; have hfz89_5 := blk_frozen BK272.out 5; have hfz89_6 := blk_frozen BK272.out 6; have hfz89_7 := blk_frozen BK272.out 7) | ((with_reducible refine gate_callee (f := 31) rfl ?_); refine goesL_ (some 122) rfl rfl Tryd.func31 (by kernel_rfl) rfl #[.slice A0_7 l0_7.length c0_7] rfl (by (try simp only [List.map_toArray, List.map_cons, List.map_nil]); first | done | rfl | (simp only [List.length_drop, List.length_take]; rfl)) ?_; (with_reducible refine (Grp_spec_DocBytes.get0 (ih kj52 (by have := HJ1.out; have := HJ9.out; have := HJ16.out; have := HJ52.out; omega)) _ _ l0_7 t336 _ ?side1 ?side2 A83.out).mono ?_); (case side1 => repeat (first | exact (Kd.C_below HR0_7.out HB.out) | (with_reducible refine Kd.C_alloc ?_ _) | (with_reducible refine Kd.C_drewN ?_ _) | (with_reducible refine Kd.C_drew ?_))); (case side2 => exact HC0_7.out); rintro e w90 ⟨v337, rfl, ho0, hb⟩; refine ⟨_, rfl, ?_⟩; have n0_ := Aside0.mk (Kd.R_elder' (by (with_reducible repeat (first | apply Kd.R_alloc | apply Kd.R_drewN | apply Kd.R_drew)); exact HO_3.out) (Kd.R_base ho0) hb); have n1_ := Aside0.mk (Kd.R_elder' (by (with_reducible repeat (first | apply Kd.R_alloc | apply Kd.R_drewN | apply Kd.R_drew)); exact HO335.out) (Kd.R_base ho0) hb); have n2_ := Aside0.mk (Kd.R_lower (Kd.R_new' (Kd.R_new' ho0 (Kd.R_lt (by (with_reducible repeat (first | apply Kd.R_alloc | apply Kd.R_drewN | apply Kd.R_drew)); exact HO_3.out))) (Kd.R_lt (by (with_reducible repeat (first | apply Kd.R_alloc | apply Kd.R_drewN | apply Kd.R_drew)); exact HO335.out))) (below_size (by repeat (first | (with_reducible first | exact HB.out | apply below_alloc | apply pw_below_drewN | apply below_drew1 | refine below_set ?_ GE272.out) | exact HB.out)))); have n3_ := Aside0.mk (blk_below (g := gb272) (o := .cells #[.int .i64 a0_0, .string a0_1, .string a0_2, .int .i64 a0_3, .int .u64 a0_4, .int .u64 a0_5, .slice A0_6 l0_6.length c0_6, .slice A0_7 l0_7.length c0_7] 26 (0, 0)) (by (with_reducible repeat (first | refine blk_drewN ?_ _ | refine blk_drew ?_ | refine blk_alloc ?_ _)); exact BK272.out) hb); have n4_ := Aside0.mk (below_step (by repeat (first | (with_reducible first | exact HB.out | apply below_alloc | apply pw_below_drewN | apply below_drew1 | refine below_set ?_ GE272.out) | exact HB.out)) hb); clear HO_3; clear HO335; clear BK272; clear HB; have HO_3 := n0_; have HO335 := n1_; have HO338 := n2_; have BK272 := n3_; have HB := n4_; clear n0_ n1_ n2_ n3_ n4_; (try clear hb); (try clear hb2); (try clear hk); (try clear hi); (try clear ho0); obtain ⟨Ao91, co91, eo91⟩ := Kd.R_slice HO335.out; subst eo91; obtain ⟨Ao92, co92, eo92⟩ := Kd.R_slice HO338.out; subst eo92) | ((with_reducible refine gate_callee (f := 32) rfl ?_); refine goesL_ (some 130) rfl rfl Tryd.func32 (by kernel_rfl) rfl #[.slice none 0 0, .int .i64 (wrap64 ((wrap64 (4 + (t333.length : Int))) + (t336.length : Int)))] rfl (by (try simp only [List.map_toArray, List.map_cons, List.map_nil]); first | done | rfl | (simp only [List.length_drop, List.length_take]; rfl)) ?_; (with_reducible refine (spec_DocInt32.calls (fun k_ => some k_ = (.slice none 0 0 : Value).ownBlock) (.slice none 0 0) ([] : List Int) (wrap64 ((wrap64 (4 + (t333.length : Int))) + (t336.length : Int))) t339 w _ ?side1 ?side2 A84.out).mono ?_); (case side1 => repeat (first | (with_reducible first | exact HB.out | apply below_alloc | apply pw_below_drewN | apply below_drew1 | refine below_set ?_ GE272.out) | exact HB.out)); (case side2 => exact Kd.R_tight rfl HO_3.out); rintro e w93 ⟨v340, rfl, ho0, hb, hkp⟩; refine ⟨_, rfl, ?_⟩; have n0_ := Aside0.mk (blk_kept (by (with_reducible repeat (first | refine blk_drewN ?_ _ | refine blk_drew ?_ | refine blk_alloc ?_ _)); exact BK272.out) hkp (fun hs_ => (fun e_ => (Kd.R_ne HO_3.out BK272.out (by decide)) e_) hs_)); have n1_ := Aside0.mk (Kd.R_mono (ok' := fun k_ => some k_ ≠ (.slice Ao92 t336.length co92 : Value).ownBlock ∧ some k_ ≠ (v340 : Value).ownBlock) (Kd.R_keptB (HO335.out) hkp (fun k_ hk_ hs_ => (hk_.1) hs_)) (fun k_ hk_ => ⟨hk_.1.2, fun e_ => Or.elim (ho0.1 k_ e_.symm) (fun hs_ => hk_.2.1 hs_) (fun hn_ => Nat.not_le.2 hk_.2.2 hn_)⟩)); have n2_ := Aside0.mk (Kd.R_mono (ok' := fun k_ => some k_ ≠ (.slice Ao91 t333.length co91 : Value).ownBlock ∧ some k_ ≠ (v340 : Value).ownBlock) (Kd.R_keptB (HO338.out) hkp (fun k_ hk_ hs_ => (hk_.1.2) hs_)) (fun k_ hk_ => ⟨hk_.1.2, fun e_ => Or.elim (ho0.1 k_ e_.symm) (fun hs_ => hk_.2.1 hs_) (fun hn_ => Nat.not_le.2 hk_.2.2 hn_)⟩)); have n3_ := Aside0.mk (Kd.R_mono (ok' := fun k_ => some k_ ≠ (.slice Ao91 t333.length co91 : Value).ownBlock ∧ some k_ ≠ (.slice Ao92 t336.length co92 : Value).ownBlock) ho0 (fun k_ hk_ => ⟨Or.elim hk_ (fun hs_ => fun e_ => (((HO335.out).1 k_ e_.symm).1) hs_) (fun hn_ => (Kd.fresh' (Kd.R_lt (by (with_reducible repeat (first | apply Kd.R_alloc | apply Kd.R_drewN | apply Kd.R_drew)); exact HO335.out)) k_ hn_)), Or.elim hk_ (fun hs_ => fun e_ => (((HO338.out).1 k_ e_.symm).1.2) hs_) (fun hn_ => (Kd.fresh' (Kd.R_lt (by (with_reducible repeat (first | apply Kd.R_alloc | apply Kd.R_drewN | apply Kd.R_drew)); exact HO338.out)) k_ hn_))⟩)); have n4_ := Aside0.mk (hb); clear BK272; clear HO335; clear HO338; clear HB; clear HO_3; have BK272 := n0_; have HO335 := n1_; have HO338 := n2_; have HO341 := n3_; have HB := n4_; clear n0_ n1_ n2_ n3_ n4_; (try clear hb); (try clear hkp); (try clear ho0)) | ((with_reducible refine gate_builtin (b := .append) (xs := #[.tmp 131, .tmp 132]) rfl ?_); at_builtin; refine Kd.R_append_rows (Kd.int .u8) (w0 := w) w.heap.size rfl (.tmp 131) (.tmp 132) 23 5 (.int .u8 0) 1 rfl Tryd.underlying23 info5 rfl (by decide) (by omega) v340 t339 t333 _ _ _ (fun k_ => some k_ ≠ (.slice Ao91 t333.length co91 : Value).ownBlock ∧ some k_ ≠ (.slice Ao92 t336.length co92 : Value).ownBlock) (fun _ => False) rfl rfl ?aO ?aR (fun _ _ h => h) (fun _ h => h.elim) ?aF ?aB ?aS ?aL ?_; (case aR => repeat (first | exact (Kd.R_reads' HO335.out).2.2 | (with_reducible refine Kd.C_alloc ?_ _) | (with_reducible refine Kd.C_drewN ?_ _) | (with_reducible refine Kd.C_drew ?_))); (case aB => exact (by repeat (first | (with_reducible first | exact HB.out | apply below_alloc | apply pw_below_drewN | apply below_drew1 | refine below_set ?_ GE272.out) | exact HB.out))); (case aF => exact (fun k_ hk => ⟨Kd.fresh' (Kd.R_lt (by (with_reducible repeat (first | apply Kd.R_alloc | apply Kd.R_drewN | apply Kd.R_drew)); exact HO335.out)) k_ hk, Kd.fresh' (Kd.R_lt (by (with_reducible repeat (first | apply Kd.R_alloc | apply Kd.R_drewN | apply Kd.R_drew)); exact HO338.out)) k_ hk⟩)); (case aO => exact (by (with_reducible repeat (first | apply Kd.R_alloc | apply Kd.R_drewN | apply Kd.R_drew)); exact HO341.out)); (case aS => exact (below_size (by repeat (first | (with_reducible first | exact HB.out | apply below_alloc | apply pw_below_drewN | apply below_drew1 | refine below_set ?_ GE272.out) | exact HB.out)))); (case aL => have := LMc85.out; omega); intro v343 w94 ho hb hg hat; rw [← Ny342.out] at ho; have n0_ := Aside0.mk (blk_grown (g := gb272) (o := .cells #[.int .i64 a0_0, .string a0_1, .string a0_2, .int .i64 a0_3, .int .u64 a0_4, .int .u64 a0_5, .slice A0_6 l0_6.length c0_6, .slice A0_7 l0_7.length c0_7] 26 (0, 0)) (by (with_reducible repeat (first | refine blk_drewN ?_ _ | refine blk_drew ?_ | refine blk_alloc ?_ _)); exact BK272.out) hg (Kd.R_ne HO341.out BK272.out (by decide))); have n1_ := Aside0.mk (Kd.R_after (ok := (fun k_ => some k_ ≠ (.slice Ao92 t336.length co92 : Value).ownBlock)) (by (with_reducible repeat (first | apply Kd.R_alloc | apply Kd.R_drewN | apply Kd.R_drew)); exact HO335.out) hg hat); have n2_ := Aside0.mk (Kd.R_after (ok := (fun k_ => some k_ ≠ (.slice Ao91 t333.length co91 : Value).ownBlock)) (by (with_reducible repeat (first | apply Kd.R_alloc | apply Kd.R_drewN | apply Kd.R_drew)); exact HO338.out) hg hat); have n3_ := Aside0.mk (hb); have n4_ := Aside0.mk (ho); clear BK272; clear HO335; clear HO338; clear HB; clear HO341; have BK272 := n0_; have HO335 := n1_; have HO338 := n2_; have HB := n3_; have HO344 := n4_; clear n0_ n1_ n2_ n3_ n4_; clear ho hb hg hat) | ((with_reducible refine gate_builtin (b := .append) (xs := #[.tmp 134, .tmp 135]) rfl ?_); at_builtin; refine Kd.R_append_rows (Kd.int .u8) (w0 := w) w.heap.size rfl (.tmp 134) (.tmp 135) 23 5 (.int .u8 0) 1 rfl Tryd.underlying23 info5 rfl (by decide) (by omega) v343 y342 t336 _ _ _ (fun k_ => some k_ ≠ (.slice Ao91 t333.length co91 : Value).ownBlock ∧ some k_ ≠ (.slice Ao92 t336.length co92 : Value).ownBlock) (fun _ => False) rfl rfl ?aO ?aR (fun _ _ h => h) (fun _ h => h.elim) ?aF ?aB ?aS ?aL ?_; (case aR => repeat (first | exact (Kd.R_reads' HO338.out).2.2 | (with_reducible refine Kd.C_alloc ?_ _) | (with_reducible refine Kd.C_drewN ?_ _) | (with_reducible refine Kd.C_drew ?_))); (case aB => exact (by repeat (first | (with_reducible first | exact HB.out | apply below_alloc | apply pw_below_drewN | apply below_drew1 | refine below_set ?_ GE272.out) | exact HB.out))); (case aF => exact (fun k_ hk => ⟨Kd.fresh' (Kd.R_lt (by (with_reducible repeat (first | apply Kd.R_alloc | apply Kd.R_drewN | apply Kd.R_drew)); exact HO335.out)) k_ hk, Kd.fresh' (Kd.R_lt (by (with_reducible repeat (first | apply Kd.R_alloc | apply Kd.R_drewN | apply Kd.R_drew)); exact HO338.out)) k_ hk⟩)); (case aO => exact (by (with_reducible repeat (first | apply Kd.R_alloc | apply Kd.R_drewN | apply Kd.R_drew)); exact HO344.out)); (case aS => exact (below_size (by repeat (first | (with_reducible first | exact HB.out | apply below_alloc | apply pw_below_drewN | apply below_drew1 | refine below_set ?_ GE272.out) | exact HB.out)))); (case aL => have := LMc86.out; omega); intro v346 w95 ho hb hg hat; rw [← Ny345.out] at ho; have n0_ := Aside0.mk (blk_grown (g := gb272) (o := .cells #[.int .i64 a0_0, .string a0_1, .string a0_2, .int .i64 a0_3, .int .u64 a0_4, .int .u64 a0_5, .slice A0_6 l0_6.length c0_6, .slice A0_7 l0_7.length c0_7] 26 (0, 0)) (by (with_reducible repeat (first | refine blk_drewN ?_ _ | refine blk_drew ?_ | refine blk_alloc ?_ _)); exact BK272.out) hg (Kd.R_ne HO344.out BK272.out (by decide))); have n1_ := Aside0.mk (Kd.R_after (ok := (fun k_ => some k_ ≠ (.slice Ao92 t336.length co92 : Value).ownBlock)) (by (with_reducible repeat (first | apply Kd.R_alloc | apply Kd.R_drewN | apply Kd.R_drew)); exact HO335.out) hg hat); have n2_ := Aside0.mk (Kd.R_after (ok := (fun k_ => some k_ ≠ (.slice Ao91 t333.length co91 : Value).ownBlock)) (by (with_reducible repeat (first | apply Kd.R_alloc | apply Kd.R_drewN | apply Kd.R_drew)); exact HO338.out) hg hat); have n3_ := Aside0.mk (hb); have n4_ := Aside0.mk (ho); clear BK272; clear HO335; clear HO338; clear HB; clear HO344; have BK272 := n0_; have HO335 := n1_; have HO338 := n2_; have HB := n3_; have HO347 := n4_; clear n0_ n1_ n2_ n3_ n4_; clear ho hb hg hat))
                                              go_ret
                                              exact ⟨_, by first | rfl | (simp [errW_none, errW_some] <;> rfl) | (simp [*, errW_none, errW_some] <;> rfl), by (with_reducible repeat (first | apply Kd.R_alloc | apply Kd.R_drewN | apply Kd.R_drew)); exact Kd.R_mono HO347.out (fun _ hk => trivial), by repeat (first | (with_reducible first | exact HB.out | apply below_alloc | apply pw_below_drewN | apply below_drew1 | refine below_set ?_ GE272.out) | exact HB.out)⟩
                                          · rw [if_neg c86] at H
                                            exact absurd H (by simp)
                                        · rw [if_neg c85] at H
                                          exact absurd H (by simp)
                                      · rw [if_neg c81] at H
                                        have c81b0 : (a0_0 == 15) = false := beq_eq_false_iff_ne.mpr c81
                                        have c81b1 : (a0_0 != 15) = true := bne_iff_ne.mpr c81
                                        by_cases c96 : a0_0 = 19
                                        · rw [if_pos c96] at H
                                          have c96b0 : (a0_0 == 19) = true := beq_iff_eq.mpr c96
                                          have c96b1 : (a0_0 != 19) = false := bne_eq_false_iff_eq.mpr c96
                                          clear c96
                                          replace H := Option.bind_eq_some_iff.mp H
                                          obtain ⟨t348, A970, H⟩ := H
                                          replace H : ((spec_DocInt64.f kj52 t348 a0_5).bind fun t351 => (some t351)) = some r := H
                                          have A97 := Aside0.mk A970
                                          clear A970
                                          replace H := Option.bind_eq_some_iff.mp H
                                          obtain ⟨t351, A980, H⟩ := H
                                          replace H : (some t351) = some r := H
                                          have A98 := Aside0.mk A980
                                          clear A980
                                          as_aux_lemma =>
                                            obtain rfl := Option.some.inj H
                                            have hcz99_0 : wc.cell? ⟨gb272, 0, none⟩ = some (.int .i64 a0_0) := (blk_cell BK272.out 0).trans rfl
                                            have hcz99_1 : wc.cell? ⟨gb272, 1, none⟩ = some (.string a0_1) := (blk_cell BK272.out 1).trans rfl
                                            have hcz99_2 : wc.cell? ⟨gb272, 2, none⟩ = some (.string a0_2) := (blk_cell BK272.out 2).trans rfl
                                            have hcz99_3 : wc.cell? ⟨gb272, 3, none⟩ = some (.int .i64 a0_3) := (blk_cell BK272.out 3).trans rfl
                                            have hcz99_4 : wc.cell? ⟨gb272, 4, none⟩ = some (.int .u64 a0_4) := (blk_cell BK272.out 4).trans rfl
                                            have hcz99_5 : wc.cell? ⟨gb272, 5, none⟩ = some (.int .u64 a0_5) := (blk_cell BK272.out 5).trans rfl
                                            have hcz99_6 : wc.cell? ⟨gb272, 6, none⟩ = some (.slice A0_6 l0_6.length c0_6) := (blk_cell BK272.out 6).trans rfl
                                            have hcz99_7 : wc.cell? ⟨gb272, 7, none⟩ = some (.slice A0_7 l0_7.length c0_7) := (blk_cell BK272.out 7).trans rfl
                                            have hfz99_0 := blk_frozen BK272.out 0
                                            have hfz99_1 := blk_frozen BK272.out 1
                                            have hfz99_2 := blk_frozen BK272.out 2
                                            have hfz99_3 := blk_frozen BK272.out 3
                                            have hfz99_4 := blk_frozen BK272.out 4
                                            have hfz99_5 := blk_frozen BK272.out 5
                                            have hfz99_6 := blk_frozen BK272.out 6
                                            have hfz99_7 := blk_frozen BK272.out 7
                                            go_wp2_with (first | ((with_reducible refine gate_callee (f := 29) rfl ?_); refine goesL_ (some 142) rfl rfl Tryd.func29 (by kernel_rfl) rfl #[.slice none 0 0, .int .u64 a0_4] rfl (by (try simp only [List.map_toArray, List.map_cons, List.map_nil]); first | done | rfl | (simp only [List.length_drop, List.length_take]; rfl)) ?_; (with_reducible refine (spec_DocInt64.calls kj52 (fun k_ => some k_ = (.slice none 0 0 : Value).ownBlock) (.slice none 0 0) ([] : List Int) a0_4 t348 w _ ?side1 ?side2 A97.out).mono ?_); (case side1 => repeat (first | (with_reducible first | exact HB.out | apply below_alloc | apply pw_below_drewN | apply below_drew1 | refine below_set ?_ GE272.out) | exact HB.out)); (case side2 => exact Kd.R_tight rfl HO_3.out); rintro e w100 ⟨v349, rfl, ho0, hb, hkp⟩; refine ⟨_, rfl, ?_⟩; have n0_ := Aside0.mk (blk_kept (by (with_reducible repeat (first | refine blk_drewN ?_ _ | refine blk_drew ?_ | refine blk_alloc ?_ _)); exact BK272.out) hkp (fun hs_ => (fun e_ => (Kd.R_ne HO_3.out BK272.out (by decide)) e_) hs_)); have n1_ := Aside0.mk (Kd.R_mono (ok' := fun k_ => True) ho0 (fun k_ hk_ => trivial)); have n2_ := Aside0.mk (hb); clear BK272; clear HB; clear HO_3; have BK272 := n0_; have HO350 := n1_; have HB := n2_; clear n0_ n1_ n2_; (try clear hb); (try clear hkp); (try clear ho0); have hcz101_0 : w100.cell? ⟨gb272, 0, none⟩ = some (.int .i64 a0_0) := (blk_cell BK272.out 0).trans rfl; have hcz101_1 : w100.cell? ⟨gb272, 1, none⟩ = some (.string a0_1) := (blk_cell BK272.out 1).trans rfl; have hcz101_2 : w100.cell? ⟨gb272, 2, none⟩ = some (.string a0_2) := (blk_cell BK272.out 2).trans rfl; have hcz101_3 : w100.cell? ⟨gb272, 3, none⟩ = some (.int .i64 a0_3) := (blk_cell BK272.out 3).trans rfl; have hcz101_4 : w100.cell? ⟨gb272, 4, none⟩ = some (.int .u64 a0_4) := (blk_cell BK272.out 4).trans rfl; have hcz101_5 : w100.cell? ⟨gb272, 5, none⟩ = some (.int .u64 a0_5) := (blk_cell BK272.out 5).trans rfl; have hcz101_6 : w100.cell? ⟨gb272, 6, none⟩ = some (.slice A0_6 l0_6.length c0_6) := (blk_cell BK272.out 6).trans rfl; have hcz101_7 : w100.cell? ⟨gb272, 7, none⟩ = some (.slice A0_7 l0_7.length c0_7) := (blk_cell BK272.out 7).trans rfl; have hfz101_0 := blk_frozen BK272.out 0; have hfz101_1 := blk_frozen BK272.out 1; have hfz101_2 := blk_frozen BK272.out 2; have hfz101_3 := blk_frozen BK272.out 3; have hfz101_4 := blk_frozen BK272.out 4; have hfz101_5 := blk_frozen BK272.out 5; have hfz101_6 := blk_frozen BK272.out 6; have hfz101_7 := blk_frozen BK272.out 7; obtain ⟨Ao102, co102, eo102⟩ := Kd.R_slice HO350.out; subst eo102) | ((with_reducible refine gate_callee (f := 29) rfl ?_); refine goesL_ (some 146) rfl rfl Tryd.func29 (by kernel_rfl) rfl #[.slice Ao102 t348.length co102, .int .u64 a0_5] rfl (by (try simp only [List.map_toArray, List.map_cons, List.map_nil]); first | done | rfl | (simp only [List.length_drop, List.length_take]; rfl)) ?_; (with_reducible refine (spec_DocInt64.calls kj52 (fun k_ => some k_ = (.slice Ao102 t348.length co102 : Value).ownBlock) (.slice Ao102 t348.length co102) t348 a0_5 t351 w _ ?side1 ?side2 A98.out).mono ?_); (case side1 => repeat (first | (with_reducible first | exact HB.out | apply below_alloc | apply pw_below_drewN | apply below_drew1 | refine below_set ?_ GE272.out) | exact HB.out)); (case side2 => exact Kd.R_tight rfl HO350.out); rintro e w103 ⟨v352, rfl, ho0, hb, hkp⟩; refine ⟨_, rfl, ?_⟩; have n0_ := Aside0.mk (blk_kept (by (with_reducible repeat (first | refine blk_drewN ?_ _ | refine blk_drew ?_ | refine blk_alloc ?_ _)); exact BK272.out) hkp (fun hs_ => (fun e_ => (Kd.R_ne HO350.out BK272.out (by decide)) e_) hs_)); have n1_ := Aside0.mk (Kd.R_mono (ok' := fun k_ => True) ho0 (fun k_ hk_ => trivial)); have n2_ := Aside0.mk (hb); clear BK272; clear HB; clear HO350; have BK272 := n0_; have HO353 := n1_; have HB := n2_; clear n0_ n1_ n2_; (try clear hb); (try clear hkp); (try clear ho0)))
                                            go_ret
                                            exact ⟨_, by first | rfl | (simp [errW_none, errW_some] <;> rfl) | (simp [*, errW_none, errW_some] <;> rfl), by (with_reducible repeat (first | apply Kd.R_alloc | apply Kd.R_drewN | apply Kd.R_drew)); exact HO353.out, by repeat (first | (with_reducible first | exact HB.out | apply below_alloc | apply pw_below_drewN | apply below_drew1 | refine below_set ?_ GE272.out) | exact HB.out)⟩
                                        · rw [if_neg c96] at H
                                          have c96b0 : (a0_0 == 19) = false := beq_eq_false_iff_ne.mpr c96
                                          have c96b1 : (a0_0 != 19) = true := bne_iff_ne.mpr c96
                                          as_aux_lemma =>
                                            obtain rfl := Option.some.inj H
                                            go_wp2
                                            go_ret
                                            exact ⟨_, by first | rfl | (simp [errW_none, errW_some] <;> rfl) | (simp [*, errW_none, errW_some] <;> rfl), by (with_reducible repeat (first | apply Kd.R_alloc | apply Kd.R_drewN | apply Kd.R_drew)); exact HO_3.out, by repeat (first | (with_reducible first | exact HB.out | apply below_alloc | apply pw_below_drewN | apply below_drew1 | refine below_set ?_ GE272.out) | exact HB.out)⟩

end Go.Proofs.YtndpbbgniflckaaDoor.PBa
