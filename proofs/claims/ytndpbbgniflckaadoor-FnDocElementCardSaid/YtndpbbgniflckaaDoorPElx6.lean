/- Printed by a program of this session (a turned copy of the printer of the kit): contracts of functions of the translation, each with the Lean function that it computes. Conditions: as each theorem states them. -/
import Derived.Test.YtndpbbgniflckaaDoorPElx0
import Derived.Test.YtndpbbgniflckaaDoorPElx4
import Derived.Test.YtndpbbgniflckaaDoorPElx5
namespace Go.Proofs.YtndpbbgniflckaaDoor.PEl
open Go.RowKit Go.Proofs.YtndpbbgniflckaaDoorW.PrintWords Go.Proofs.YtndpbbgniflckaaDoorW.PrintLast Go.Proofs.YtndpbbgniflckaaDoorW.PrintMore
attribute [local go_sem] max2_int min2_int max_two min_two max_three min_three max_four min_four   -- for this text's walks alone
set_option linter.unusedVariables false
set_option linter.unusedSimpArgs false

/-! ### spec_DocValue: function 13 -/
set_option maxHeartbeats 8000000 in
set_option maxRecDepth 100000 in
theorem spec_DocValue.step (k : Nat) (ih : ∀ j, j < k → Grp_spec_DocBytes.Spec j) : ∀ (a0_0 : Int) (a0_1 : ByteArray) (a0_2 : ByteArray) (a0_3 : Int) (a0_4 : Int) (a0_5 : Int) (A0_6 : Option Addr) (c0_6 : Nat) (l0_6 : List Int) (A0_7 : Option Addr) (c0_7 : Nat) (l0_7 : List (S31)) (r : List Int) (w : World) (hr0_6 : Kd.C (Kd.int .u8) w A0_6 l0_6.length l0_6) (hc0_6 : l0_6.length ≤ c0_6) (hr0_7 : Kd.C k31 w A0_7 l0_7.length l0_7) (hc0_7 : l0_7.length ≤ c0_7) (h : spec_DocValue.f k a0_0 a0_1 a0_2 a0_3 a0_4 a0_5 l0_6 l0_7 = some r),
    Calls Tryd.prog 13 #[.agg #[.int .i64 a0_0, .string a0_1, .string a0_2, .int .i64 a0_3, .int .u64 a0_4, .int .u64 a0_5, .slice A0_6 l0_6.length c0_6, .slice A0_7 l0_7.length c0_7]] w fun e w' => ∃ v0_ : Value, e = .returned (v0_) ∧ Kd.R (Kd.int .u8) 5 w' w.heap.size (fun _ => True) v0_ r ∧ Below w.heap.size w w' := by
  intro a0_0 a0_1 a0_2 a0_3 a0_4 a0_5 A0_6 c0_6 l0_6 A0_7 c0_7 l0_7 r w hr0_6 hc0_6 hr0_7 hc0_7 h
  cases k with
  | zero => exact absurd h (by simp [spec_DocValue.f])
  | succ k =>
  simp only [spec_DocValue.f] at h
  have hu26 := Tryd.underlying26
  have HR0_6 := Aside0.mk hr0_6
  have HC0_6 := Aside0.mk hc0_6
  clear hr0_6 hc0_6
  have HR0_7 := Aside0.mk hr0_7
  have HC0_7 := Aside0.mk hc0_7
  clear hr0_7 hc0_7
  have HB := Aside0.mk (Below.refl w.heap.size w)
  have H : (if a0_0 = 1 then (spec_DocValue.j0 k ([] : List Int) a0_0 (a0_0 == 1) a0_0 a0_1 a0_2 a0_3 a0_4 a0_5 l0_6 l0_7) else (spec_DocValue.j0 k ([] : List Int) a0_0 (a0_0 == 17) a0_0 a0_1 a0_2 a0_3 a0_4 a0_5 l0_6 l0_7)) = some r := h
  clear h
  have HC2 := Aside0.mk H
  clear H
  go_enter Tryd.func13, Tryd.ntmps13
  go_upto_if 9 with (first | ((with_reducible refine gate_dst (N := 1) rfl ?_); refine box_event ?hg (N := 1) ?hd (cs := #[.int .i64 a0_0, .string a0_1, .string a0_2, .int .i64 a0_3, .int .u64 a0_4, .int .u64 a0_5, .slice A0_6 l0_6.length c0_6, .slice A0_7 l0_7.length c0_7]) (t := 26) ?hr ?_; (case hd => rfl); (case hg => rfl); (case hr => first | (go_simp; done) | (go_simp; rfl)); intro gb273 hg w3 hbox hb; have n0_ := Aside0.mk (below_step (by repeat (first | (with_reducible first | exact HB.out | apply below_alloc | apply pw_below_drewN | apply below_drew1) | exact HB.out)) hb); have n1_ := Aside0.mk (hbox); have n2_ := Aside0.mk ((by rw [hg]; exact (below_size (by repeat (first | (with_reducible first | exact HB.out | apply below_alloc | apply pw_below_drewN | apply below_drew1) | exact HB.out))) : w.heap.size ≤ gb273)); have n3_ := Aside0.mk ((by rw [hg]; exact (below_size (by repeat (first | (with_reducible first | exact HB.out | apply below_alloc | apply pw_below_drewN | apply below_drew1) | exact HB.out))) : w.heap.size ≤ gb273)); clear HB; have HB := n0_; have BK273 := n1_; have GW273 := n2_; have GE273 := n3_; clear n0_ n1_ n2_ n3_; clear hb hbox hg; have hcz4_0 : w3.cell? ⟨gb273, 0, none⟩ = some (.int .i64 a0_0) := (blk_cell BK273.out 0).trans rfl; have hcz4_1 : w3.cell? ⟨gb273, 1, none⟩ = some (.string a0_1) := (blk_cell BK273.out 1).trans rfl; have hcz4_2 : w3.cell? ⟨gb273, 2, none⟩ = some (.string a0_2) := (blk_cell BK273.out 2).trans rfl; have hcz4_3 : w3.cell? ⟨gb273, 3, none⟩ = some (.int .i64 a0_3) := (blk_cell BK273.out 3).trans rfl; have hcz4_4 : w3.cell? ⟨gb273, 4, none⟩ = some (.int .u64 a0_4) := (blk_cell BK273.out 4).trans rfl; have hcz4_5 : w3.cell? ⟨gb273, 5, none⟩ = some (.int .u64 a0_5) := (blk_cell BK273.out 5).trans rfl; have hcz4_6 : w3.cell? ⟨gb273, 6, none⟩ = some (.slice A0_6 l0_6.length c0_6) := (blk_cell BK273.out 6).trans rfl; have hcz4_7 : w3.cell? ⟨gb273, 7, none⟩ = some (.slice A0_7 l0_7.length c0_7) := (blk_cell BK273.out 7).trans rfl; have hfz4_0 := blk_frozen BK273.out 0; have hfz4_1 := blk_frozen BK273.out 1; have hfz4_2 := blk_frozen BK273.out 2; have hfz4_3 := blk_frozen BK273.out 3; have hfz4_4 := blk_frozen BK273.out 4; have hfz4_5 := blk_frozen BK273.out 5; have hfz4_6 := blk_frozen BK273.out 6; have hfz4_7 := blk_frozen BK273.out 7))
  (try simp only [Act.put, List.setIfInBounds_toArray, List.set_cons_zero, List.set_cons_succ])
  go_cut [9] (fun v9 wc => ∃ (kq : Nat) (x9_1 : Bool), v9 = .bool x9_1 ∧ Aside0 (spec_DocValue.j0 kq ([] : List Int) a0_0 x9_1 a0_0 a0_1 a0_2 a0_3 a0_4 a0_5 l0_6 l0_7 = some r) ∧ Aside0 (kq ≤ k) ∧ Aside0 (Kd.R (Kd.int .u8) 5 wc w.heap.size (fun _ => True) (.slice none 0 0) ([] : List Int)) ∧ Aside0 (wc.heap[gb273]? = some (.cells #[.int .i64 a0_0, .string a0_1, .string a0_2, .int .i64 a0_3, .int .u64 a0_4, .int .u64 a0_5, (.slice A0_6 l0_6.length c0_6), (.slice A0_7 l0_7.length c0_7)] 26 (0, 0))) ∧ Aside0 (Below w.heap.size w wc))
  case first =>
    have H := HC2.out
    clear HC2
    by_cases c5 : a0_0 = 1
    · rw [if_pos c5] at H
      have c5b0 : (a0_0 == 1) = true := beq_iff_eq.mpr c5
      have c5b1 : (a0_0 != 1) = false := bne_eq_false_iff_eq.mpr c5
      clear c5
      (first | rw [c5b0] | (simp only [i64_w, i32_w]; rw [c5b0]) | skip)
      as_aux_lemma =>
        have H' := Aside0.mk H
        clear H
        go_wp2
        go_meet
        case rel => exact ⟨_, ((a0_0 == 1)), (by first | rfl | (simp; done) | (simp [*]; done)), H', ⟨by first | omega | exact Nat.le_refl _⟩, ⟨by first | exact Kd.R_nil _ _ _ _ _ | exact Kd.N_nil _ _ _ _ _ | exact Kd.V_nil _ _ _ _ _ | exact Kd.Q_nil _ _ _ _ _ | exact Kd.S_nil _ _ _ _ _⟩, ⟨by (with_reducible repeat (first | refine blk_drewN ?_ _ | refine blk_drew ?_ | refine blk_alloc ?_ _)); exact BK273.out⟩, ⟨by repeat (first | (with_reducible first | exact HB.out | apply below_alloc | apply pw_below_drewN | apply below_drew1 | refine below_set ?_ GE273.out) | exact HB.out)⟩⟩
    · rw [if_neg c5] at H
      have c5b0 : (a0_0 == 1) = false := beq_eq_false_iff_ne.mpr c5
      have c5b1 : (a0_0 != 1) = true := bne_iff_ne.mpr c5
      (first | rw [c5b0] | (simp only [i64_w, i32_w]; rw [c5b0]) | skip)
      as_aux_lemma =>
        have H' := Aside0.mk H
        clear H
        go_wp2
        go_meet
        case rel => exact ⟨_, ((a0_0 == 17)), (by first | rfl | (simp; done) | (simp [*]; done)), H', ⟨by first | omega | exact Nat.le_refl _⟩, ⟨by first | exact Kd.R_nil _ _ _ _ _ | exact Kd.N_nil _ _ _ _ _ | exact Kd.V_nil _ _ _ _ _ | exact Kd.Q_nil _ _ _ _ _ | exact Kd.S_nil _ _ _ _ _⟩, ⟨by (with_reducible repeat (first | refine blk_drewN ?_ _ | refine blk_drew ?_ | refine blk_alloc ?_ _)); exact BK273.out⟩, ⟨by repeat (first | (with_reducible first | exact HB.out | apply below_alloc | apply pw_below_drewN | apply below_drew1 | refine below_set ?_ GE273.out) | exact HB.out)⟩⟩
  case rest =>
    clear HC2
    try clear c1
    try clear p2
    try clear c5
    try clear c5b0
    try clear c5b1
    try clear hcz4_0
    try clear hcz4_1
    try clear hcz4_2
    try clear hcz4_3
    try clear hcz4_4
    try clear hcz4_5
    try clear hcz4_6
    try clear hcz4_7
    try clear hfz4_0
    try clear hfz4_1
    try clear hfz4_2
    try clear hfz4_3
    try clear hfz4_4
    try clear hfz4_5
    try clear hfz4_6
    try clear hfz4_7
    obtain ⟨kq, x9_1, rfl, HA, HJ1, HO_3, BK273, HB⟩ := hcut
    cases kq with
    | zero => exact absurd HA.out (by simp [spec_DocValue.j0])
    | succ kj1 =>
      have H := HA.out
      clear HA
      simp only [spec_DocValue.j0] at H
      by_cases c6 : x9_1 = true
      · subst c6
        have H1 : ((spec_DocInt64.f kj1 ([] : List Int) a0_4).bind fun t274 => (some t274)) = some r := by rw [if_pos rfl] at H; exact H
        clear H
        have H := H1
        clear H1
        replace H := Option.bind_eq_some_iff.mp H
        obtain ⟨t274, A70, H⟩ := H
        replace H : (some t274) = some r := H
        have A7 := Aside0.mk A70
        clear A70
        as_aux_lemma =>
          obtain rfl := Option.some.inj H
          have hcz8_0 : wc.cell? ⟨gb273, 0, none⟩ = some (.int .i64 a0_0) := (blk_cell BK273.out 0).trans rfl
          have hcz8_1 : wc.cell? ⟨gb273, 1, none⟩ = some (.string a0_1) := (blk_cell BK273.out 1).trans rfl
          have hcz8_2 : wc.cell? ⟨gb273, 2, none⟩ = some (.string a0_2) := (blk_cell BK273.out 2).trans rfl
          have hcz8_3 : wc.cell? ⟨gb273, 3, none⟩ = some (.int .i64 a0_3) := (blk_cell BK273.out 3).trans rfl
          have hcz8_4 : wc.cell? ⟨gb273, 4, none⟩ = some (.int .u64 a0_4) := (blk_cell BK273.out 4).trans rfl
          have hcz8_5 : wc.cell? ⟨gb273, 5, none⟩ = some (.int .u64 a0_5) := (blk_cell BK273.out 5).trans rfl
          have hcz8_6 : wc.cell? ⟨gb273, 6, none⟩ = some (.slice A0_6 l0_6.length c0_6) := (blk_cell BK273.out 6).trans rfl
          have hcz8_7 : wc.cell? ⟨gb273, 7, none⟩ = some (.slice A0_7 l0_7.length c0_7) := (blk_cell BK273.out 7).trans rfl
          have hfz8_0 := blk_frozen BK273.out 0
          have hfz8_1 := blk_frozen BK273.out 1
          have hfz8_2 := blk_frozen BK273.out 2
          have hfz8_3 := blk_frozen BK273.out 3
          have hfz8_4 := blk_frozen BK273.out 4
          have hfz8_5 := blk_frozen BK273.out 5
          have hfz8_6 := blk_frozen BK273.out 6
          have hfz8_7 := blk_frozen BK273.out 7
          go_wp2_with (first | ((with_reducible refine gate_callee (f := 29) rfl ?_); refine goesL_ (some 15) rfl rfl Tryd.func29 (by kernel_rfl) rfl #[.slice none 0 0, .int .u64 a0_4] rfl (by (try simp only [List.map_toArray, List.map_cons, List.map_nil]); first | done | rfl | (simp only [List.length_drop, List.length_take]; rfl)) ?_; (with_reducible refine (spec_DocInt64.calls kj1 (fun k_ => some k_ = (.slice none 0 0 : Value).ownBlock) (.slice none 0 0) ([] : List Int) a0_4 t274 w _ ?side1 ?side2 A7.out).mono ?_); (case side1 => repeat (first | (with_reducible first | exact HB.out | apply below_alloc | apply pw_below_drewN | apply below_drew1 | refine below_set ?_ GE273.out) | exact HB.out)); (case side2 => exact Kd.R_tight rfl HO_3.out); rintro e w9 ⟨v275, rfl, ho0, hb, hkp⟩; refine ⟨_, rfl, ?_⟩; have n0_ := Aside0.mk (blk_kept (by (with_reducible repeat (first | refine blk_drewN ?_ _ | refine blk_drew ?_ | refine blk_alloc ?_ _)); exact BK273.out) hkp (fun hs_ => (fun e_ => (Kd.R_ne HO_3.out BK273.out (by decide)) e_) hs_)); have n1_ := Aside0.mk (Kd.R_mono (ok' := fun k_ => True) ho0 (fun k_ hk_ => trivial)); have n2_ := Aside0.mk (hb); clear BK273; clear HB; clear HO_3; have BK273 := n0_; have HO276 := n1_; have HB := n2_; clear n0_ n1_ n2_; (try clear hb); (try clear hkp); (try clear ho0)))
          go_ret
          exact ⟨_, by first | rfl | (simp [errW_none, errW_some] <;> rfl) | (simp [*, errW_none, errW_some] <;> rfl), by (with_reducible repeat (first | apply Kd.R_alloc | apply Kd.R_drewN | apply Kd.R_drew)); exact HO276.out, by repeat (first | (with_reducible first | exact HB.out | apply below_alloc | apply pw_below_drewN | apply below_drew1 | refine below_set ?_ GE273.out) | exact HB.out)⟩
      · replace c6 := Bool.eq_false_iff.mpr c6
        subst c6
        have H1 : (if a0_0 = 2 then (spec_DocValue.j1 kj1 ([] : List Int) a0_0 (a0_0 == 2) a0_0 a0_1 a0_2 a0_3 a0_4 a0_5 l0_6 l0_7) else (if a0_0 = 13 then (spec_DocValue.j1 kj1 ([] : List Int) a0_0 (a0_0 == 13) a0_0 a0_1 a0_2 a0_3 a0_4 a0_5 l0_6 l0_7) else (spec_DocValue.j1 kj1 ([] : List Int) a0_0 (a0_0 == 14) a0_0 a0_1 a0_2 a0_3 a0_4 a0_5 l0_6 l0_7))) = some r := by rw [if_neg (show ¬ (false = true) by decide)] at H; exact H
        clear H
        have H := H1
        clear H1
        have HC10 := Aside0.mk H
        clear H
        go_upto_if 16 with (fail)
        go_cut [16] (fun v16 wc => ∃ (kq : Nat) (x16_9 : Bool), v16 = .bool x16_9 ∧ Aside0 (spec_DocValue.j1 kq ([] : List Int) a0_0 x16_9 a0_0 a0_1 a0_2 a0_3 a0_4 a0_5 l0_6 l0_7 = some r) ∧ Aside0 (kq ≤ kj1) ∧ Aside0 (Kd.R (Kd.int .u8) 5 wc w.heap.size (fun _ => True) (.slice none 0 0) ([] : List Int)) ∧ Aside0 (wc.heap[gb273]? = some (.cells #[.int .i64 a0_0, .string a0_1, .string a0_2, .int .i64 a0_3, .int .u64 a0_4, .int .u64 a0_5, (.slice A0_6 l0_6.length c0_6), (.slice A0_7 l0_7.length c0_7)] 26 (0, 0))) ∧ Aside0 (Below w.heap.size w wc))
        case first =>
          have H := HC10.out
          clear HC10
          by_cases c11 : a0_0 = 2
          · rw [if_pos c11] at H
            have c11b0 : (a0_0 == 2) = true := beq_iff_eq.mpr c11
            have c11b1 : (a0_0 != 2) = false := bne_eq_false_iff_eq.mpr c11
            clear c11
            (first | rw [c11b0] | (simp only [i64_w, i32_w]; rw [c11b0]) | skip)
            as_aux_lemma =>
              have H' := Aside0.mk H
              clear H
              go_wp2
              go_meet
              case rel => exact ⟨_, ((a0_0 == 2)), (by first | rfl | (simp; done) | (simp [*]; done)), H', ⟨by have := HJ1.out; first | omega | exact Nat.le_refl _⟩, ⟨by (with_reducible repeat (first | apply Kd.R_alloc | apply Kd.R_drewN | apply Kd.R_drew)); exact HO_3.out⟩, ⟨by (with_reducible repeat (first | refine blk_drewN ?_ _ | refine blk_drew ?_ | refine blk_alloc ?_ _)); exact BK273.out⟩, ⟨by repeat (first | (with_reducible first | exact HB.out | apply below_alloc | apply pw_below_drewN | apply below_drew1 | refine below_set ?_ GE273.out) | exact HB.out)⟩⟩
          · rw [if_neg c11] at H
            have c11b0 : (a0_0 == 2) = false := beq_eq_false_iff_ne.mpr c11
            have c11b1 : (a0_0 != 2) = true := bne_iff_ne.mpr c11
            (first | rw [c11b0] | (simp only [i64_w, i32_w]; rw [c11b0]) | skip)
            by_cases c12 : a0_0 = 13
            · rw [if_pos c12] at H
              have c12b0 : (a0_0 == 13) = true := beq_iff_eq.mpr c12
              have c12b1 : (a0_0 != 13) = false := bne_eq_false_iff_eq.mpr c12
              clear c12
              as_aux_lemma =>
                have H' := Aside0.mk H
                clear H
                go_wp2
                go_meet
                case rel => exact ⟨_, ((a0_0 == 13)), (by first | rfl | (simp; done) | (simp [*]; done)), H', ⟨by have := HJ1.out; first | omega | exact Nat.le_refl _⟩, ⟨by (with_reducible repeat (first | apply Kd.R_alloc | apply Kd.R_drewN | apply Kd.R_drew)); exact HO_3.out⟩, ⟨by (with_reducible repeat (first | refine blk_drewN ?_ _ | refine blk_drew ?_ | refine blk_alloc ?_ _)); exact BK273.out⟩, ⟨by repeat (first | (with_reducible first | exact HB.out | apply below_alloc | apply pw_below_drewN | apply below_drew1 | refine below_set ?_ GE273.out) | exact HB.out)⟩⟩
            · rw [if_neg c12] at H
              have c12b0 : (a0_0 == 13) = false := beq_eq_false_iff_ne.mpr c12
              have c12b1 : (a0_0 != 13) = true := bne_iff_ne.mpr c12
              as_aux_lemma =>
                have H' := Aside0.mk H
                clear H
                go_wp2
                go_meet
                case rel => exact ⟨_, ((a0_0 == 14)), (by first | rfl | (simp; done) | (simp [*]; done)), H', ⟨by have := HJ1.out; first | omega | exact Nat.le_refl _⟩, ⟨by (with_reducible repeat (first | apply Kd.R_alloc | apply Kd.R_drewN | apply Kd.R_drew)); exact HO_3.out⟩, ⟨by (with_reducible repeat (first | refine blk_drewN ?_ _ | refine blk_drew ?_ | refine blk_alloc ?_ _)); exact BK273.out⟩, ⟨by repeat (first | (with_reducible first | exact HB.out | apply below_alloc | apply pw_below_drewN | apply below_drew1 | refine below_set ?_ GE273.out) | exact HB.out)⟩⟩
        case rest =>
          clear HC10
          try clear c1
          try clear c2
          try clear p2
          try clear c5
          try clear c5b0
          try clear c5b1
          try clear c6
          try clear c11
          try clear c11b0
          try clear c11b1
          try clear c12
          try clear c12b0
          try clear c12b1
          try clear hcz4_0
          try clear hcz4_1
          try clear hcz4_2
          try clear hcz4_3
          try clear hcz4_4
          try clear hcz4_5
          try clear hcz4_6
          try clear hcz4_7
          try clear hcz8_0
          try clear hcz8_1
          try clear hcz8_2
          try clear hcz8_3
          try clear hcz8_4
          try clear hcz8_5
          try clear hcz8_6
          try clear hcz8_7
          try clear hfz4_0
          try clear hfz4_1
          try clear hfz4_2
          try clear hfz4_3
          try clear hfz4_4
          try clear hfz4_5
          try clear hfz4_6
          try clear hfz4_7
          try clear hfz8_0
          try clear hfz8_1
          try clear hfz8_2
          try clear hfz8_3
          try clear hfz8_4
          try clear hfz8_5
          try clear hfz8_6
          try clear hfz8_7
          try clear p2
          obtain ⟨kq, x16_9, rfl, HA, HJ9, HO_3, BK273, HB⟩ := hcut
          cases kq with
          | zero => exact absurd HA.out (by simp [spec_DocValue.j1])
          | succ kj9 =>
            have H := HA.out
            clear HA
            simp only [spec_DocValue.j1] at H
            by_cases c13 : x16_9 = true
            · subst c13
              have H1 : ((spec_docText.f ([] : List Int) a0_1).bind fun t277 => (some t277)) = some r := by rw [if_pos rfl] at H; exact H
              clear H
              have H := H1
              clear H1
              replace H := Option.bind_eq_some_iff.mp H
              obtain ⟨t277, A140, H⟩ := H
              replace H : (some t277) = some r := H
              have A14 := Aside0.mk A140
              clear A140
              as_aux_lemma =>
                obtain rfl := Option.some.inj H
                have hcz15_0 : wc.cell? ⟨gb273, 0, none⟩ = some (.int .i64 a0_0) := (blk_cell BK273.out 0).trans rfl
                have hcz15_1 : wc.cell? ⟨gb273, 1, none⟩ = some (.string a0_1) := (blk_cell BK273.out 1).trans rfl
                have hcz15_2 : wc.cell? ⟨gb273, 2, none⟩ = some (.string a0_2) := (blk_cell BK273.out 2).trans rfl
                have hcz15_3 : wc.cell? ⟨gb273, 3, none⟩ = some (.int .i64 a0_3) := (blk_cell BK273.out 3).trans rfl
                have hcz15_4 : wc.cell? ⟨gb273, 4, none⟩ = some (.int .u64 a0_4) := (blk_cell BK273.out 4).trans rfl
                have hcz15_5 : wc.cell? ⟨gb273, 5, none⟩ = some (.int .u64 a0_5) := (blk_cell BK273.out 5).trans rfl
                have hcz15_6 : wc.cell? ⟨gb273, 6, none⟩ = some (.slice A0_6 l0_6.length c0_6) := (blk_cell BK273.out 6).trans rfl
                have hcz15_7 : wc.cell? ⟨gb273, 7, none⟩ = some (.slice A0_7 l0_7.length c0_7) := (blk_cell BK273.out 7).trans rfl
                have hfz15_0 := blk_frozen BK273.out 0
                have hfz15_1 := blk_frozen BK273.out 1
                have hfz15_2 := blk_frozen BK273.out 2
                have hfz15_3 := blk_frozen BK273.out 3
                have hfz15_4 := blk_frozen BK273.out 4
                have hfz15_5 := blk_frozen BK273.out 5
                have hfz15_6 := blk_frozen BK273.out 6
                have hfz15_7 := blk_frozen BK273.out 7
                go_wp2_with (first | ((with_reducible refine gate_callee (f := 30) rfl ?_); refine goesL_ (some 23) rfl rfl Tryd.func30 (by kernel_rfl) rfl #[.slice none 0 0, .string a0_1] rfl (by (try simp only [List.map_toArray, List.map_cons, List.map_nil]); first | done | rfl | (simp only [List.length_drop, List.length_take]; rfl)) ?_; (with_reducible refine (spec_docText.calls (fun k_ => some k_ = (.slice none 0 0 : Value).ownBlock) (.slice none 0 0) ([] : List Int) a0_1 t277 w _ ?side1 ?side2 A14.out).mono ?_); (case side1 => repeat (first | (with_reducible first | exact HB.out | apply below_alloc | apply pw_below_drewN | apply below_drew1 | refine below_set ?_ GE273.out) | exact HB.out)); (case side2 => exact Kd.R_tight rfl HO_3.out); rintro e w16 ⟨v278, rfl, ho0, hb, hkp⟩; refine ⟨_, rfl, ?_⟩; have n0_ := Aside0.mk (blk_kept (by (with_reducible repeat (first | refine blk_drewN ?_ _ | refine blk_drew ?_ | refine blk_alloc ?_ _)); exact BK273.out) hkp (fun hs_ => (fun e_ => (Kd.R_ne HO_3.out BK273.out (by decide)) e_) hs_)); have n1_ := Aside0.mk (Kd.R_mono (ok' := fun k_ => True) ho0 (fun k_ hk_ => trivial)); have n2_ := Aside0.mk (hb); clear BK273; clear HB; clear HO_3; have BK273 := n0_; have HO279 := n1_; have HB := n2_; clear n0_ n1_ n2_; (try clear hb); (try clear hkp); (try clear ho0)))
                go_ret
                exact ⟨_, by first | rfl | (simp [errW_none, errW_some] <;> rfl) | (simp [*, errW_none, errW_some] <;> rfl), by (with_reducible repeat (first | apply Kd.R_alloc | apply Kd.R_drewN | apply Kd.R_drew)); exact HO279.out, by repeat (first | (with_reducible first | exact HB.out | apply below_alloc | apply pw_below_drewN | apply below_drew1 | refine below_set ?_ GE273.out) | exact HB.out)⟩
            · replace c13 := Bool.eq_false_iff.mpr c13
              subst c13
              have H1 : (if a0_0 = 3 then (spec_DocValue.j2 kj9 ([] : List Int) a0_0 (a0_0 == 3) a0_0 a0_1 a0_2 a0_3 a0_4 a0_5 l0_6 l0_7) else (spec_DocValue.j2 kj9 ([] : List Int) a0_0 (a0_0 == 4) a0_0 a0_1 a0_2 a0_3 a0_4 a0_5 l0_6 l0_7)) = some r := by rw [if_neg (show ¬ (false = true) by decide)] at H; exact H
              clear H
              have H := H1
              clear H1
              have HC17 := Aside0.mk H
              clear H
              go_upto_if 24 with (fail)
              go_cut [24] (fun v24 wc => ∃ (kq : Nat) (x24_16 : Bool), v24 = .bool x24_16 ∧ Aside0 (spec_DocValue.j2 kq ([] : List Int) a0_0 x24_16 a0_0 a0_1 a0_2 a0_3 a0_4 a0_5 l0_6 l0_7 = some r) ∧ Aside0 (kq ≤ kj9) ∧ Aside0 (Kd.R (Kd.int .u8) 5 wc w.heap.size (fun _ => True) (.slice none 0 0) ([] : List Int)) ∧ Aside0 (wc.heap[gb273]? = some (.cells #[.int .i64 a0_0, .string a0_1, .string a0_2, .int .i64 a0_3, .int .u64 a0_4, .int .u64 a0_5, (.slice A0_6 l0_6.length c0_6), (.slice A0_7 l0_7.length c0_7)] 26 (0, 0))) ∧ Aside0 (Below w.heap.size w wc))
              case first =>
                have H := HC17.out
                clear HC17
                by_cases c18 : a0_0 = 3
                · rw [if_pos c18] at H
                  have c18b0 : (a0_0 == 3) = true := beq_iff_eq.mpr c18
                  have c18b1 : (a0_0 != 3) = false := bne_eq_false_iff_eq.mpr c18
                  clear c18
                  (first | rw [c18b0] | (simp only [i64_w, i32_w]; rw [c18b0]) | skip)
                  as_aux_lemma =>
                    have H' := Aside0.mk H
                    clear H
                    go_wp2
                    go_meet
                    case rel => exact ⟨_, ((a0_0 == 3)), (by first | rfl | (simp; done) | (simp [*]; done)), H', ⟨by have := HJ1.out; have := HJ9.out; first | omega | exact Nat.le_refl _⟩, ⟨by (with_reducible repeat (first | apply Kd.R_alloc | apply Kd.R_drewN | apply Kd.R_drew)); exact HO_3.out⟩, ⟨by (with_reducible repeat (first | refine blk_drewN ?_ _ | refine blk_drew ?_ | refine blk_alloc ?_ _)); exact BK273.out⟩, ⟨by repeat (first | (with_reducible first | exact HB.out | apply below_alloc | apply pw_below_drewN | apply below_drew1 | refine below_set ?_ GE273.out) | exact HB.out)⟩⟩
                · rw [if_neg c18] at H
                  have c18b0 : (a0_0 == 3) = false := beq_eq_false_iff_ne.mpr c18
                  have c18b1 : (a0_0 != 3) = true := bne_iff_ne.mpr c18
                  (first | rw [c18b0] | (simp only [i64_w, i32_w]; rw [c18b0]) | skip)
                  as_aux_lemma =>
                    have H' := Aside0.mk H
                    clear H
                    go_wp2
                    go_meet
                    case rel => exact ⟨_, ((a0_0 == 4)), (by first | rfl | (simp; done) | (simp [*]; done)), H', ⟨by have := HJ1.out; have := HJ9.out; first | omega | exact Nat.le_refl _⟩, ⟨by (with_reducible repeat (first | apply Kd.R_alloc | apply Kd.R_drewN | apply Kd.R_drew)); exact HO_3.out⟩, ⟨by (with_reducible repeat (first | refine blk_drewN ?_ _ | refine blk_drew ?_ | refine blk_alloc ?_ _)); exact BK273.out⟩, ⟨by repeat (first | (with_reducible first | exact HB.out | apply below_alloc | apply pw_below_drewN | apply below_drew1 | refine below_set ?_ GE273.out) | exact HB.out)⟩⟩
              case rest =>
                clear HC17
                try clear c1
                try clear c2
                try clear p2
                try clear c3
                try clear c5
                try clear c5b0
                try clear c5b1
                try clear c6
                try clear c11
                try clear c11b0
                try clear c11b1
                try clear c12
                try clear c12b0
                try clear c12b1
                try clear c13
                try clear c18
                try clear c18b0
                try clear c18b1
                try clear hcz15_0
                try clear hcz15_1
                try clear hcz15_2
                try clear hcz15_3
                try clear hcz15_4
                try clear hcz15_5
                try clear hcz15_6
                try clear hcz15_7
                try clear hcz4_0
                try clear hcz4_1
                try clear hcz4_2
                try clear hcz4_3
                try clear hcz4_4
                try clear hcz4_5
                try clear hcz4_6
                try clear hcz4_7
                try clear hcz8_0
                try clear hcz8_1
                try clear hcz8_2
                try clear hcz8_3
                try clear hcz8_4
                try clear hcz8_5
                try clear hcz8_6
                try clear hcz8_7
                try clear hfz15_0
                try clear hfz15_1
                try clear hfz15_2
                try clear hfz15_3
                try clear hfz15_4
                try clear hfz15_5
                try clear hfz15_6
                try clear hfz15_7
                try clear hfz4_0
                try clear hfz4_1
                try clear hfz4_2
                try clear hfz4_3
                try clear hfz4_4
                try clear hfz4_5
                try clear hfz4_6
                try clear hfz4_7
                try clear hfz8_0
                try clear hfz8_1
                try clear hfz8_2
                try clear hfz8_3
                try clear hfz8_4
                try clear hfz8_5
                try clear hfz8_6
                try clear hfz8_7
                try clear p2
                obtain ⟨kq, x24_16, rfl, HA, HJ16, HO_3, BK273, HB⟩ := hcut
                cases kq with
                | zero => exact absurd HA.out (by simp [spec_DocValue.j2])
                | succ kj16 =>
                  have H := HA.out
                  clear HA
                  simp only [spec_DocValue.j2] at H
                  by_cases c19 : x24_16 = true
                  · subst c19
                    have H1 : ((spec_DocBytes.f kj16 l0_7).bind fun t280 => (some t280)) = some r := by rw [if_pos rfl] at H; exact H
                    clear H
                    have H := H1
                    clear H1
                    replace H := Option.bind_eq_some_iff.mp H
                    obtain ⟨t280, A200, H⟩ := H
                    replace H : (some t280) = some r := H
                    have A20 := Aside0.mk A200
                    clear A200
                    as_aux_lemma =>
                      obtain rfl := Option.some.inj H
                      have hcz21_0 : wc.cell? ⟨gb273, 0, none⟩ = some (.int .i64 a0_0) := (blk_cell BK273.out 0).trans rfl
                      have hcz21_1 : wc.cell? ⟨gb273, 1, none⟩ = some (.string a0_1) := (blk_cell BK273.out 1).trans rfl
                      have hcz21_2 : wc.cell? ⟨gb273, 2, none⟩ = some (.string a0_2) := (blk_cell BK273.out 2).trans rfl
                      have hcz21_3 : wc.cell? ⟨gb273, 3, none⟩ = some (.int .i64 a0_3) := (blk_cell BK273.out 3).trans rfl
                      have hcz21_4 : wc.cell? ⟨gb273, 4, none⟩ = some (.int .u64 a0_4) := (blk_cell BK273.out 4).trans rfl
                      have hcz21_5 : wc.cell? ⟨gb273, 5, none⟩ = some (.int .u64 a0_5) := (blk_cell BK273.out 5).trans rfl
                      have hcz21_6 : wc.cell? ⟨gb273, 6, none⟩ = some (.slice A0_6 l0_6.length c0_6) := (blk_cell BK273.out 6).trans rfl
                      have hcz21_7 : wc.cell? ⟨gb273, 7, none⟩ = some (.slice A0_7 l0_7.length c0_7) := (blk_cell BK273.out 7).trans rfl
                      have hfz21_0 := blk_frozen BK273.out 0
                      have hfz21_1 := blk_frozen BK273.out 1
                      have hfz21_2 := blk_frozen BK273.out 2
                      have hfz21_3 := blk_frozen BK273.out 3
                      have hfz21_4 := blk_frozen BK273.out 4
                      have hfz21_5 := blk_frozen BK273.out 5
                      have hfz21_6 := blk_frozen BK273.out 6
                      have hfz21_7 := blk_frozen BK273.out 7
                      go_wp2_with (first | ((with_reducible refine gate_callee (f := 31) rfl ?_); refine goesL_ (some 29) rfl rfl Tryd.func31 (by kernel_rfl) rfl #[.slice A0_7 l0_7.length c0_7] rfl (by (try simp only [List.map_toArray, List.map_cons, List.map_nil]); first | done | rfl | (simp only [List.length_drop, List.length_take]; rfl)) ?_; (with_reducible refine (Grp_spec_DocBytes.get0 (ih kj16 (by have := HJ1.out; have := HJ9.out; have := HJ16.out; omega)) _ _ l0_7 t280 _ ?side1 ?side2 A20.out).mono ?_); (case side1 => repeat (first | exact (Kd.C_below HR0_7.out HB.out) | (with_reducible refine Kd.C_alloc ?_ _) | (with_reducible refine Kd.C_drewN ?_ _) | (with_reducible refine Kd.C_drew ?_))); (case side2 => exact HC0_7.out); rintro e w22 ⟨v281, rfl, ho0, hb⟩; refine ⟨_, rfl, ?_⟩; have n0_ := Aside0.mk (Kd.R_elder' (by (with_reducible repeat (first | apply Kd.R_alloc | apply Kd.R_drewN | apply Kd.R_drew)); exact HO_3.out) (Kd.R_base ho0) hb); have n1_ := Aside0.mk (Kd.R_lower (Kd.R_new' ho0 (Kd.R_lt (by (with_reducible repeat (first | apply Kd.R_alloc | apply Kd.R_drewN | apply Kd.R_drew)); exact HO_3.out))) (below_size (by repeat (first | (with_reducible first | exact HB.out | apply below_alloc | apply pw_below_drewN | apply below_drew1 | refine below_set ?_ GE273.out) | exact HB.out)))); have n2_ := Aside0.mk (blk_below (g := gb273) (o := .cells #[.int .i64 a0_0, .string a0_1, .string a0_2, .int .i64 a0_3, .int .u64 a0_4, .int .u64 a0_5, .slice A0_6 l0_6.length c0_6, .slice A0_7 l0_7.length c0_7] 26 (0, 0)) (by (with_reducible repeat (first | refine blk_drewN ?_ _ | refine blk_drew ?_ | refine blk_alloc ?_ _)); exact BK273.out) hb); have n3_ := Aside0.mk (below_step (by repeat (first | (with_reducible first | exact HB.out | apply below_alloc | apply pw_below_drewN | apply below_drew1 | refine below_set ?_ GE273.out) | exact HB.out)) hb); clear HO_3; clear BK273; clear HB; have HO_3 := n0_; have HO282 := n1_; have BK273 := n2_; have HB := n3_; clear n0_ n1_ n2_ n3_; (try clear hb); (try clear hb2); (try clear hk); (try clear hi); (try clear ho0)))
                      go_ret
                      exact ⟨_, by first | rfl | (simp [errW_none, errW_some] <;> rfl) | (simp [*, errW_none, errW_some] <;> rfl), by (with_reducible repeat (first | apply Kd.R_alloc | apply Kd.R_drewN | apply Kd.R_drew)); exact Kd.R_mono HO282.out (fun _ hk => trivial), by repeat (first | (with_reducible first | exact HB.out | apply below_alloc | apply pw_below_drewN | apply below_drew1 | refine below_set ?_ GE273.out) | exact HB.out)⟩
                  · replace c19 := Bool.eq_false_iff.mpr c19
                    subst c19
                    have H1 : (if a0_0 = 5 then (if a0_3 = 2 then ((spec_DocInt32.f ([] : List Int) (wrap64 ((l0_6.length : Int) + 4))).bind fun t283 => (if t283.length < 140737488355328 then ((spec_DocInt32.f (t283 ++ [2]) (l0_6.length : Int)).bind fun t289 => (if t289.length + l0_6.length < 140737488355328 then (some (t289 ++ l0_6)) else (none))) else (none))) else ((spec_DocInt32.f ([] : List Int) (l0_6.length : Int)).bind fun t295 => (if t295.length < 140737488355328 then ((some (t295 ++ [(a0_3) % 256] : List Int)).bind fun y298 => (if y298.length + l0_6.length < 140737488355328 then (some (y298 ++ l0_6)) else (none))) else (none)))) else (if a0_0 = 7 then (if ([] : List Int).length + l0_6.length < 140737488355328 then (some (([] : List Int) ++ l0_6)) else (none)) else (if a0_0 = 8 then (if ([] : List Int).length < 140737488355328 then (some (([] : List Int) ++ [(a0_3) % 256])) else (none)) else (if a0_0 = 9 then (spec_DocValue.j3 kj16 ([] : List Int) a0_0 (a0_0 == 9) a0_0 a0_1 a0_2 a0_3 a0_4 a0_5 l0_6 l0_7) else (spec_DocValue.j3 kj16 ([] : List Int) a0_0 (a0_0 == 18) a0_0 a0_1 a0_2 a0_3 a0_4 a0_5 l0_6 l0_7))))) = some r := by rw [if_neg (show ¬ (false = true) by decide)] at H; exact H
                    clear H
                    have H := H1
                    clear H1
                    by_cases c23 : a0_0 = 5
                    · rw [if_pos c23] at H
                      have c23b0 : (a0_0 == 5) = true := beq_iff_eq.mpr c23
                      have c23b1 : (a0_0 != 5) = false := bne_eq_false_iff_eq.mpr c23
                      clear c23
                      by_cases c24 : a0_3 = 2
                      · rw [if_pos c24] at H
                        have c24b0 : (a0_3 == 2) = true := beq_iff_eq.mpr c24
                        have c24b1 : (a0_3 != 2) = false := bne_eq_false_iff_eq.mpr c24
                        clear c24
                        replace H := Option.bind_eq_some_iff.mp H
                        obtain ⟨t283, A250, H⟩ := H
                        replace H : (if t283.length < 140737488355328 then ((spec_DocInt32.f (t283 ++ [2]) (l0_6.length : Int)).bind fun t289 => (if t289.length + l0_6.length < 140737488355328 then (some (t289 ++ l0_6)) else (none))) else (none)) = some r := H
                        have A25 := Aside0.mk A250
                        clear A250
                        by_cases c26 : t283.length < 140737488355328
                        · rw [if_pos c26] at H
                          have LMc26 := Aside0.mk c26
                          clear c26
                          obtain ⟨y286, hy286⟩ : ∃ y_ : List Int, y_ = (t283 ++ [2]) := ⟨_, rfl⟩
                          replace H : ((spec_DocInt32.f y286 (l0_6.length : Int)).bind fun t289 => (if t289.length + l0_6.length < 140737488355328 then (some (t289 ++ l0_6)) else (none))) = some r := by first | (rw [hy286]; with_reducible exact H) | (have H2_ := (Option.bind_some _ _).symm.trans H; rw [hy286]; with_reducible exact H2_) | (have H2_ := (Option.bind_some _ _).symm.trans H; with_reducible exact H2_) | with_reducible exact H | (rw [hy286]; exact H) | exact H
                          have Ny286 := Aside0.mk hy286
                          clear hy286
                          replace H := Option.bind_eq_some_iff.mp H
                          obtain ⟨t289, A270, H⟩ := H
                          replace H : (if t289.length + l0_6.length < 140737488355328 then (some (t289 ++ l0_6)) else (none)) = some r := H
                          have A27 := Aside0.mk A270
                          clear A270
                          by_cases c28 : t289.length + l0_6.length < 140737488355328
                          · rw [if_pos c28] at H
                            have LMc28 := Aside0.mk c28
                            clear c28
                            obtain ⟨y292, hy292⟩ : ∃ y_ : List Int, y_ = (t289 ++ l0_6) := ⟨_, rfl⟩
                            replace H : (some y292) = some r := by first | (rw [hy292]; with_reducible exact H) | (have H2_ := (Option.bind_some _ _).symm.trans H; rw [hy292]; with_reducible exact H2_) | (have H2_ := (Option.bind_some _ _).symm.trans H; with_reducible exact H2_) | with_reducible exact H | (rw [hy292]; exact H) | exact H
                            have Ny292 := Aside0.mk hy292
                            clear hy292
                            as_aux_lemma =>
                              obtain rfl := Option.some.inj H
                              have hcz29_0 : wc.cell? ⟨gb273, 0, none⟩ = some (.int .i64 a0_0) := (blk_cell BK273.out 0).trans rfl
                              have hcz29_1 : wc.cell? ⟨gb273, 1, none⟩ = some (.string a0_1) := (blk_cell BK273.out 1).trans rfl
                              have hcz29_2 : wc.cell? ⟨gb273, 2, none⟩ = some (.string a0_2) := (blk_cell BK273.out 2).trans rfl
                              have hcz29_3 : wc.cell? ⟨gb273, 3, none⟩ = some (.int .i64 a0_3) := (blk_cell BK273.out 3).trans rfl
                              have hcz29_4 : wc.cell? ⟨gb273, 4, none⟩ = some (.int .u64 a0_4) := (blk_cell BK273.out 4).trans rfl
                              have hcz29_5 : wc.cell? ⟨gb273, 5, none⟩ = some (.int .u64 a0_5) := (blk_cell BK273.out 5).trans rfl
                              have hcz29_6 : wc.cell? ⟨gb273, 6, none⟩ = some (.slice A0_6 l0_6.length c0_6) := (blk_cell BK273.out 6).trans rfl
                              have hcz29_7 : wc.cell? ⟨gb273, 7, none⟩ = some (.slice A0_7 l0_7.length c0_7) := (blk_cell BK273.out 7).trans rfl
                              have hfz29_0 := blk_frozen BK273.out 0
                              have hfz29_1 := blk_frozen BK273.out 1
                              have hfz29_2 := blk_frozen BK273.out 2
                              have hfz29_3 := blk_frozen BK273.out 3
                              have hfz29_4 := blk_frozen BK273.out 4
                              have hfz29_5 := blk_frozen BK273.out 5
                              have hfz29_6 := blk_frozen BK273.out 6
                              have hfz29_7 := blk_frozen BK273.out 7
                              go_wp2_with (first | ((with_reducible refine gate_callee (f := 32) rfl ?_); refine goesL_ (some 41) rfl rfl Tryd.func32 (by kernel_rfl) rfl #[.slice none 0 0, .int .i64 (wrap64 ((l0_6.length : Int) + 4))] rfl (by (try simp only [List.map_toArray, List.map_cons, List.map_nil]); first | done | rfl | (simp only [List.length_drop, List.length_take]; rfl)) ?_; (with_reducible refine (spec_DocInt32.calls (fun k_ => some k_ = (.slice none 0 0 : Value).ownBlock) (.slice none 0 0) ([] : List Int) (wrap64 ((l0_6.length : Int) + 4)) t283 w _ ?side1 ?side2 A25.out).mono ?_); (case side1 => repeat (first | (with_reducible first | exact HB.out | apply below_alloc | apply pw_below_drewN | apply below_drew1 | refine below_set ?_ GE273.out) | exact HB.out)); (case side2 => exact Kd.R_tight rfl HO_3.out); rintro e w30 ⟨v284, rfl, ho0, hb, hkp⟩; refine ⟨_, rfl, ?_⟩; have n0_ := Aside0.mk (blk_kept (by (with_reducible repeat (first | refine blk_drewN ?_ _ | refine blk_drew ?_ | refine blk_alloc ?_ _)); exact BK273.out) hkp (fun hs_ => (fun e_ => (Kd.R_ne HO_3.out BK273.out (by decide)) e_) hs_)); have n1_ := Aside0.mk (Kd.R_mono (ok' := fun k_ => True) ho0 (fun k_ hk_ => trivial)); have n2_ := Aside0.mk (hb); clear BK273; clear HB; clear HO_3; have BK273 := n0_; have HO285 := n1_; have HB := n2_; clear n0_ n1_ n2_; (try clear hb); (try clear hkp); (try clear ho0)) | ((with_reducible refine gate_builtin (b := .append) (xs := #[.tmp 42, .tmp 43]) rfl ?_); at_builtin; refine Kd.R_append (Kd.int .u8) (w0 := w) w.heap.size rfl (.tmp 42) (.tmp 43) 23 5 (.int .u8 0) 1 rfl Tryd.underlying23 info5 rfl (by decide) (by omega) v284 t283 2 [.int .u8 2] (fun _ => True) (fun _ => False) rfl rfl ?aP (fun _ hk => hk.elim) ?aF ?aO ?aB ?aS ?aL ?_; (case aP => exact rfl); (case aB => exact (by repeat (first | (with_reducible first | exact HB.out | apply below_alloc | apply pw_below_drewN | apply below_drew1 | refine below_set ?_ GE273.out) | exact HB.out))); (case aF => exact (fun _ _ => trivial)); (case aO => exact (by (with_reducible repeat (first | apply Kd.R_alloc | apply Kd.R_drewN | apply Kd.R_drew)); exact HO285.out)); (case aS => exact (below_size (by repeat (first | (with_reducible first | exact HB.out | apply below_alloc | apply pw_below_drewN | apply below_drew1 | refine below_set ?_ GE273.out) | exact HB.out)))); (case aL => have := LMc26.out; omega); intro v287 w31 ho hb hg hat; rw [← Ny286.out] at ho; have n0_ := Aside0.mk (blk_grown (g := gb273) (o := .cells #[.int .i64 a0_0, .string a0_1, .string a0_2, .int .i64 a0_3, .int .u64 a0_4, .int .u64 a0_5, .slice A0_6 l0_6.length c0_6, .slice A0_7 l0_7.length c0_7] 26 (0, 0)) (by (with_reducible repeat (first | refine blk_drewN ?_ _ | refine blk_drew ?_ | refine blk_alloc ?_ _)); exact BK273.out) hg (Kd.R_ne HO285.out BK273.out (by decide))); have n1_ := Aside0.mk (hb); have n2_ := Aside0.mk (ho); clear BK273; clear HB; clear HO285; have BK273 := n0_; have HB := n1_; have HO288 := n2_; clear n0_ n1_ n2_; clear ho hb hg hat; obtain ⟨Ao32, co32, eo32⟩ := Kd.R_slice HO288.out; subst eo32) | ((with_reducible refine gate_callee (f := 32) rfl ?_); refine goesL_ (some 47) rfl rfl Tryd.func32 (by kernel_rfl) rfl #[.slice Ao32 y286.length co32, .int .i64 (l0_6.length : Int)] rfl (by (try simp only [List.map_toArray, List.map_cons, List.map_nil]); first | done | rfl | (simp only [List.length_drop, List.length_take]; rfl)) ?_; (with_reducible refine (spec_DocInt32.calls (fun k_ => some k_ = (.slice Ao32 y286.length co32 : Value).ownBlock) (.slice Ao32 y286.length co32) y286 (l0_6.length : Int) t289 w _ ?side1 ?side2 A27.out).mono ?_); (case side1 => repeat (first | (with_reducible first | exact HB.out | apply below_alloc | apply pw_below_drewN | apply below_drew1 | refine below_set ?_ GE273.out) | exact HB.out)); (case side2 => exact Kd.R_tight rfl HO288.out); rintro e w33 ⟨v290, rfl, ho0, hb, hkp⟩; refine ⟨_, rfl, ?_⟩; have n0_ := Aside0.mk (blk_kept (by (with_reducible repeat (first | refine blk_drewN ?_ _ | refine blk_drew ?_ | refine blk_alloc ?_ _)); exact BK273.out) hkp (fun hs_ => (fun e_ => (Kd.R_ne HO288.out BK273.out (by decide)) e_) hs_)); have n1_ := Aside0.mk (Kd.R_mono (ok' := fun k_ => True) ho0 (fun k_ hk_ => trivial)); have n2_ := Aside0.mk (hb); clear BK273; clear HB; clear HO288; have BK273 := n0_; have HO291 := n1_; have HB := n2_; clear n0_ n1_ n2_; (try clear hb); (try clear hkp); (try clear ho0); have hcz34_0 : w33.cell? ⟨gb273, 0, none⟩ = some (.int .i64 a0_0) := (blk_cell BK273.out 0).trans rfl; have hcz34_1 : w33.cell? ⟨gb273, 1, none⟩ = some (.string a0_1) := (blk_cell BK273.out 1).trans rfl; have hcz34_2 : w33.cell? ⟨gb273, 2, none⟩ = some (.string a0_2) := (blk_cell BK273.out 2).trans rfl; have hcz34_3 : w33.cell? ⟨gb273, 3, none⟩ = some (.int .i64 a0_3) := (blk_cell BK273.out 3).trans rfl; have hcz34_4 : w33.cell? ⟨gb273, 4, none⟩ = some (.int .u64 a0_4) := (blk_cell BK273.out 4).trans rfl; have hcz34_5 : w33.cell? ⟨gb273, 5, none⟩ = some (.int .u64 a0_5) := (blk_cell BK273.out 5).trans rfl; have hcz34_6 : w33.cell? ⟨gb273, 6, none⟩ = some (.slice A0_6 l0_6.length c0_6) := (blk_cell BK273.out 6).trans rfl; have hcz34_7 : w33.cell? ⟨gb273, 7, none⟩ = some (.slice A0_7 l0_7.length c0_7) := (blk_cell BK273.out 7).trans rfl; have hfz34_0 := blk_frozen BK273.out 0; have hfz34_1 := blk_frozen BK273.out 1; have hfz34_2 := blk_frozen BK273.out 2; have hfz34_3 := blk_frozen BK273.out 3; have hfz34_4 := blk_frozen BK273.out 4; have hfz34_5 := blk_frozen BK273.out 5; have hfz34_6 := blk_frozen BK273.out 6; have hfz34_7 := blk_frozen BK273.out 7) | ((with_reducible refine gate_builtin (b := .append) (xs := #[.tmp 57, .tmp 59]) rfl ?_); at_builtin; refine Kd.R_append_rows (Kd.int .u8) (w0 := w) w.heap.size rfl (.tmp 57) (.tmp 59) 23 5 (.int .u8 0) 1 rfl Tryd.underlying23 info5 rfl (by decide) (by omega) v290 t289 l0_6 _ _ _ (fun _ => True) (fun _ => False) rfl rfl ?aO ?aR (fun _ _ h => h) (fun _ h => h.elim) ?aF ?aB ?aS ?aL ?_; (case aR => repeat (first | exact (Kd.C_below HR0_6.out HB.out) | (with_reducible refine Kd.C_alloc ?_ _) | (with_reducible refine Kd.C_drewN ?_ _) | (with_reducible refine Kd.C_drew ?_))); (case aB => exact (by repeat (first | (with_reducible first | exact HB.out | apply below_alloc | apply pw_below_drewN | apply below_drew1 | refine below_set ?_ GE273.out) | exact HB.out))); (case aF => exact (fun _ _ => trivial)); (case aO => exact (by (with_reducible repeat (first | apply Kd.R_alloc | apply Kd.R_drewN | apply Kd.R_drew)); exact HO291.out)); (case aS => exact (below_size (by repeat (first | (with_reducible first | exact HB.out | apply below_alloc | apply pw_below_drewN | apply below_drew1 | refine below_set ?_ GE273.out) | exact HB.out)))); (case aL => have := LMc28.out; omega); intro v293 w35 ho hb hg hat; rw [← Ny292.out] at ho; have n0_ := Aside0.mk (blk_grown (g := gb273) (o := .cells #[.int .i64 a0_0, .string a0_1, .string a0_2, .int .i64 a0_3, .int .u64 a0_4, .int .u64 a0_5, .slice A0_6 l0_6.length c0_6, .slice A0_7 l0_7.length c0_7] 26 (0, 0)) (by (with_reducible repeat (first | refine blk_drewN ?_ _ | refine blk_drew ?_ | refine blk_alloc ?_ _)); exact BK273.out) hg (Kd.R_ne HO291.out BK273.out (by decide))); have n1_ := Aside0.mk (hb); have n2_ := Aside0.mk (ho); clear BK273; clear HB; clear HO291; have BK273 := n0_; have HB := n1_; have HO294 := n2_; clear n0_ n1_ n2_; clear ho hb hg hat))
                              go_ret
                              exact ⟨_, by first | rfl | (simp [errW_none, errW_some] <;> rfl) | (simp [*, errW_none, errW_some] <;> rfl), by (with_reducible repeat (first | apply Kd.R_alloc | apply Kd.R_drewN | apply Kd.R_drew)); exact HO294.out, by repeat (first | (with_reducible first | exact HB.out | apply below_alloc | apply pw_below_drewN | apply below_drew1 | refine below_set ?_ GE273.out) | exact HB.out)⟩
                          · rw [if_neg c28] at H
                            exact absurd H (by simp)
                        · rw [if_neg c26] at H
                          exact absurd H (by simp)
                      · rw [if_neg c24] at H
                        have c24b0 : (a0_3 == 2) = false := beq_eq_false_iff_ne.mpr c24
                        have c24b1 : (a0_3 != 2) = true := bne_iff_ne.mpr c24
                        replace H := Option.bind_eq_some_iff.mp H
                        obtain ⟨t295, A360, H⟩ := H
                        replace H : (if t295.length < 140737488355328 then ((some (t295 ++ [(a0_3) % 256] : List Int)).bind fun y298 => (if y298.length + l0_6.length < 140737488355328 then (some (y298 ++ l0_6)) else (none))) else (none)) = some r := H
                        have A36 := Aside0.mk A360
                        clear A360
                        by_cases c37 : t295.length < 140737488355328
                        · rw [if_pos c37] at H
                          have LMc37 := Aside0.mk c37
                          clear c37
                          obtain ⟨y298, hy298⟩ : ∃ y_ : List Int, y_ = (t295 ++ [(a0_3) % 256]) := ⟨_, rfl⟩
                          replace H : (if y298.length + l0_6.length < 140737488355328 then (some (y298 ++ l0_6)) else (none)) = some r := by first | (rw [hy298]; with_reducible exact H) | (have H2_ := (Option.bind_some _ _).symm.trans H; rw [hy298]; with_reducible exact H2_) | (have H2_ := (Option.bind_some _ _).symm.trans H; with_reducible exact H2_) | with_reducible exact H | (rw [hy298]; exact H) | exact H
                          have Ny298 := Aside0.mk hy298
                          clear hy298
                          by_cases c38 : y298.length + l0_6.length < 140737488355328
                          · rw [if_pos c38] at H
                            have LMc38 := Aside0.mk c38
                            clear c38
                            obtain ⟨y301, hy301⟩ : ∃ y_ : List Int, y_ = (y298 ++ l0_6) := ⟨_, rfl⟩
                            replace H : (some y301) = some r := by first | (rw [hy301]; with_reducible exact H) | (have H2_ := (Option.bind_some _ _).symm.trans H; rw [hy301]; with_reducible exact H2_) | (have H2_ := (Option.bind_some _ _).symm.trans H; with_reducible exact H2_) | with_reducible exact H | (rw [hy301]; exact H) | exact H
                            have Ny301 := Aside0.mk hy301
                            clear hy301
                            as_aux_lemma =>
                              obtain rfl := Option.some.inj H
                              have hcz39_0 : wc.cell? ⟨gb273, 0, none⟩ = some (.int .i64 a0_0) := (blk_cell BK273.out 0).trans rfl
                              have hcz39_1 : wc.cell? ⟨gb273, 1, none⟩ = some (.string a0_1) := (blk_cell BK273.out 1).trans rfl
                              have hcz39_2 : wc.cell? ⟨gb273, 2, none⟩ = some (.string a0_2) := (blk_cell BK273.out 2).trans rfl
                              have hcz39_3 : wc.cell? ⟨gb273, 3, none⟩ = some (.int .i64 a0_3) := (blk_cell BK273.out 3).trans rfl
                              have hcz39_4 : wc.cell? ⟨gb273, 4, none⟩ = some (.int .u64 a0_4) := (blk_cell BK273.out 4).trans rfl
                              have hcz39_5 : wc.cell? ⟨gb273, 5, none⟩ = some (.int .u64 a0_5) := (blk_cell BK273.out 5).trans rfl
                              have hcz39_6 : wc.cell? ⟨gb273, 6, none⟩ = some (.slice A0_6 l0_6.length c0_6) := (blk_cell BK273.out 6).trans rfl
                              have hcz39_7 : wc.cell? ⟨gb273, 7, none⟩ = some (.slice A0_7 l0_7.length c0_7) := (blk_cell BK273.out 7).trans rfl
                              have hfz39_0 := blk_frozen BK273.out 0
                              have hfz39_1 := blk_frozen BK273.out 1
                              have hfz39_2 := blk_frozen BK273.out 2
                              have hfz39_3 := blk_frozen BK273.out 3
                              have hfz39_4 := blk_frozen BK273.out 4
                              have hfz39_5 := blk_frozen BK273.out 5
                              have hfz39_6 := blk_frozen BK273.out 6
                              have hfz39_7 := blk_frozen BK273.out 7
                              go_wp2_with (first | ((with_reducible refine gate_callee (f := 32) rfl ?_); refine goesL_ (some 50) rfl rfl Tryd.func32 (by kernel_rfl) rfl #[.slice none 0 0, .int .i64 (l0_6.length : Int)] rfl (by (try simp only [List.map_toArray, List.map_cons, List.map_nil]); first | done | rfl | (simp only [List.length_drop, List.length_take]; rfl)) ?_; (with_reducible refine (spec_DocInt32.calls (fun k_ => some k_ = (.slice none 0 0 : Value).ownBlock) (.slice none 0 0) ([] : List Int) (l0_6.length : Int) t295 w _ ?side1 ?side2 A36.out).mono ?_); (case side1 => repeat (first | (with_reducible first | exact HB.out | apply below_alloc | apply pw_below_drewN | apply below_drew1 | refine below_set ?_ GE273.out) | exact HB.out)); (case side2 => exact Kd.R_tight rfl HO_3.out); rintro e w40 ⟨v296, rfl, ho0, hb, hkp⟩; refine ⟨_, rfl, ?_⟩; have n0_ := Aside0.mk (blk_kept (by (with_reducible repeat (first | refine blk_drewN ?_ _ | refine blk_drew ?_ | refine blk_alloc ?_ _)); exact BK273.out) hkp (fun hs_ => (fun e_ => (Kd.R_ne HO_3.out BK273.out (by decide)) e_) hs_)); have n1_ := Aside0.mk (Kd.R_mono (ok' := fun k_ => True) ho0 (fun k_ hk_ => trivial)); have n2_ := Aside0.mk (hb); clear BK273; clear HB; clear HO_3; have BK273 := n0_; have HO297 := n1_; have HB := n2_; clear n0_ n1_ n2_; (try clear hb); (try clear hkp); (try clear ho0); have hcz41_0 : w40.cell? ⟨gb273, 0, none⟩ = some (.int .i64 a0_0) := (blk_cell BK273.out 0).trans rfl; have hcz41_1 : w40.cell? ⟨gb273, 1, none⟩ = some (.string a0_1) := (blk_cell BK273.out 1).trans rfl; have hcz41_2 : w40.cell? ⟨gb273, 2, none⟩ = some (.string a0_2) := (blk_cell BK273.out 2).trans rfl; have hcz41_3 : w40.cell? ⟨gb273, 3, none⟩ = some (.int .i64 a0_3) := (blk_cell BK273.out 3).trans rfl; have hcz41_4 : w40.cell? ⟨gb273, 4, none⟩ = some (.int .u64 a0_4) := (blk_cell BK273.out 4).trans rfl; have hcz41_5 : w40.cell? ⟨gb273, 5, none⟩ = some (.int .u64 a0_5) := (blk_cell BK273.out 5).trans rfl; have hcz41_6 : w40.cell? ⟨gb273, 6, none⟩ = some (.slice A0_6 l0_6.length c0_6) := (blk_cell BK273.out 6).trans rfl; have hcz41_7 : w40.cell? ⟨gb273, 7, none⟩ = some (.slice A0_7 l0_7.length c0_7) := (blk_cell BK273.out 7).trans rfl; have hfz41_0 := blk_frozen BK273.out 0; have hfz41_1 := blk_frozen BK273.out 1; have hfz41_2 := blk_frozen BK273.out 2; have hfz41_3 := blk_frozen BK273.out 3; have hfz41_4 := blk_frozen BK273.out 4; have hfz41_5 := blk_frozen BK273.out 5; have hfz41_6 := blk_frozen BK273.out 6; have hfz41_7 := blk_frozen BK273.out 7) | ((with_reducible refine gate_builtin (b := .append) (xs := #[.tmp 51, .tmp 55]) rfl ?_); at_builtin; refine Kd.R_append (Kd.int .u8) (w0 := w) w.heap.size rfl (.tmp 51) (.tmp 55) 23 5 (.int .u8 0) 1 rfl Tryd.underlying23 info5 rfl (by decide) (by omega) v296 t295 ((a0_3) % 256) [.int .u8 ((a0_3) % 256)] (fun _ => True) (fun _ => False) rfl rfl ?aP (fun _ hk => hk.elim) ?aF ?aO ?aB ?aS ?aL ?_; (case aP => exact rfl); (case aB => exact (by repeat (first | (with_reducible first | exact HB.out | apply below_alloc | apply pw_below_drewN | apply below_drew1 | refine below_set ?_ GE273.out) | exact HB.out))); (case aF => exact (fun _ _ => trivial)); (case aO => exact (by (with_reducible repeat (first | apply Kd.R_alloc | apply Kd.R_drewN | apply Kd.R_drew)); exact HO297.out)); (case aS => exact (below_size (by repeat (first | (with_reducible first | exact HB.out | apply below_alloc | apply pw_below_drewN | apply below_drew1 | refine below_set ?_ GE273.out) | exact HB.out)))); (case aL => have := LMc37.out; omega); intro v299 w42 ho hb hg hat; rw [← Ny298.out] at ho; have n0_ := Aside0.mk (blk_grown (g := gb273) (o := .cells #[.int .i64 a0_0, .string a0_1, .string a0_2, .int .i64 a0_3, .int .u64 a0_4, .int .u64 a0_5, .slice A0_6 l0_6.length c0_6, .slice A0_7 l0_7.length c0_7] 26 (0, 0)) (by (with_reducible repeat (first | refine blk_drewN ?_ _ | refine blk_drew ?_ | refine blk_alloc ?_ _)); exact BK273.out) hg (Kd.R_ne HO297.out BK273.out (by decide))); have n1_ := Aside0.mk (hb); have n2_ := Aside0.mk (ho); clear BK273; clear HB; clear HO297; have BK273 := n0_; have HB := n1_; have HO300 := n2_; clear n0_ n1_ n2_; clear ho hb hg hat; have hcz43_0 : w42.cell? ⟨gb273, 0, none⟩ = some (.int .i64 a0_0) := (blk_cell BK273.out 0).trans rfl; have hcz43_1 : w42.cell? ⟨gb273, 1, none⟩ = some (.string a0_1) := (blk_cell BK273.out 1).trans rfl; have hcz43_2 : w42.cell? ⟨gb273, 2, none⟩ = some (.string a0_2) := (blk_cell BK273.out 2).trans rfl; have hcz43_3 : w42.cell? ⟨gb273, 3, none⟩ = some (.int .i64 a0_3) := (blk_cell BK273.out 3).trans rfl; have hcz43_4 : w42.cell? ⟨gb273, 4, none⟩ = some (.int .u64 a0_4) := (blk_cell BK273.out 4).trans rfl; have hcz43_5 : w42.cell? ⟨gb273, 5, none⟩ = some (.int .u64 a0_5) := (blk_cell BK273.out 5).trans rfl; have hcz43_6 : w42.cell? ⟨gb273, 6, none⟩ = some (.slice A0_6 l0_6.length c0_6) := (blk_cell BK273.out 6).trans rfl; have hcz43_7 : w42.cell? ⟨gb273, 7, none⟩ = some (.slice A0_7 l0_7.length c0_7) := (blk_cell BK273.out 7).trans rfl; have hfz43_0 := blk_frozen BK273.out 0; have hfz43_1 := blk_frozen BK273.out 1; have hfz43_2 := blk_frozen BK273.out 2; have hfz43_3 := blk_frozen BK273.out 3; have hfz43_4 := blk_frozen BK273.out 4; have hfz43_5 := blk_frozen BK273.out 5; have hfz43_6 := blk_frozen BK273.out 6; have hfz43_7 := blk_frozen BK273.out 7) | ((with_reducible refine gate_builtin (b := .append) (xs := #[.tmp 57, .tmp 59]) rfl ?_); at_builtin; refine Kd.R_append_rows (Kd.int .u8) (w0 := w) w.heap.size rfl (.tmp 57) (.tmp 59) 23 5 (.int .u8 0) 1 rfl Tryd.underlying23 info5 rfl (by decide) (by omega) v299 y298 l0_6 _ _ _ (fun _ => True) (fun _ => False) rfl rfl ?aO ?aR (fun _ _ h => h) (fun _ h => h.elim) ?aF ?aB ?aS ?aL ?_; (case aR => repeat (first | exact (Kd.C_below HR0_6.out HB.out) | (with_reducible refine Kd.C_alloc ?_ _) | (with_reducible refine Kd.C_drewN ?_ _) | (with_reducible refine Kd.C_drew ?_))); (case aB => exact (by repeat (first | (with_reducible first | exact HB.out | apply below_alloc | apply pw_below_drewN | apply below_drew1 | refine below_set ?_ GE273.out) | exact HB.out))); (case aF => exact (fun _ _ => trivial)); (case aO => exact (by (with_reducible repeat (first | apply Kd.R_alloc | apply Kd.R_drewN | apply Kd.R_drew)); exact HO300.out)); (case aS => exact (below_size (by repeat (first | (with_reducible first | exact HB.out | apply below_alloc | apply pw_below_drewN | apply below_drew1 | refine below_set ?_ GE273.out) | exact HB.out)))); (case aL => have := LMc38.out; omega); intro v302 w44 ho hb hg hat; rw [← Ny301.out] at ho; have n0_ := Aside0.mk (blk_grown (g := gb273) (o := .cells #[.int .i64 a0_0, .string a0_1, .string a0_2, .int .i64 a0_3, .int .u64 a0_4, .int .u64 a0_5, .slice A0_6 l0_6.length c0_6, .slice A0_7 l0_7.length c0_7] 26 (0, 0)) (by (with_reducible repeat (first | refine blk_drewN ?_ _ | refine blk_drew ?_ | refine blk_alloc ?_ _)); exact BK273.out) hg (Kd.R_ne HO300.out BK273.out (by decide))); have n1_ := Aside0.mk (hb); have n2_ := Aside0.mk (ho); clear BK273; clear HB; clear HO300; have BK273 := n0_; have HB := n1_; have HO303 := n2_; clear n0_ n1_ n2_; clear ho hb hg hat))
                              go_ret
                              exact ⟨_, by first | rfl | (simp [errW_none, errW_some] <;> rfl) | (simp [*, errW_none, errW_some] <;> rfl), by (with_reducible repeat (first | apply Kd.R_alloc | apply Kd.R_drewN | apply Kd.R_drew)); exact HO303.out, by repeat (first | (with_reducible first | exact HB.out | apply below_alloc | apply pw_below_drewN | apply below_drew1 | refine below_set ?_ GE273.out) | exact HB.out)⟩
                          · rw [if_neg c38] at H
                            exact absurd H (by simp)
                        · rw [if_neg c37] at H
                          exact absurd H (by simp)
                    · rw [if_neg c23] at H
                      have c23b0 : (a0_0 == 5) = false := beq_eq_false_iff_ne.mpr c23
                      have c23b1 : (a0_0 != 5) = true := bne_iff_ne.mpr c23
                      by_cases c45 : a0_0 = 7
                      · rw [if_pos c45] at H
                        have c45b0 : (a0_0 == 7) = true := beq_iff_eq.mpr c45
                        have c45b1 : (a0_0 != 7) = false := bne_eq_false_iff_eq.mpr c45
                        clear c45
                        by_cases c46 : ([] : List Int).length + l0_6.length < 140737488355328
                        · rw [if_pos c46] at H
                          have LMc46 := Aside0.mk c46
                          clear c46
                          obtain ⟨y304, hy304⟩ : ∃ y_ : List Int, y_ = (([] : List Int) ++ l0_6) := ⟨_, rfl⟩
                          replace H : (some y304) = some r := by first | (rw [hy304]; with_reducible exact H) | (have H2_ := (Option.bind_some _ _).symm.trans H; rw [hy304]; with_reducible exact H2_) | (have H2_ := (Option.bind_some _ _).symm.trans H; with_reducible exact H2_) | with_reducible exact H | (rw [hy304]; exact H) | exact H
                          have Ny304 := Aside0.mk hy304
                          clear hy304
                          as_aux_lemma =>
                            obtain rfl := Option.some.inj H
                            have hcz47_0 : wc.cell? ⟨gb273, 0, none⟩ = some (.int .i64 a0_0) := (blk_cell BK273.out 0).trans rfl
                            have hcz47_1 : wc.cell? ⟨gb273, 1, none⟩ = some (.string a0_1) := (blk_cell BK273.out 1).trans rfl
                            have hcz47_2 : wc.cell? ⟨gb273, 2, none⟩ = some (.string a0_2) := (blk_cell BK273.out 2).trans rfl
                            have hcz47_3 : wc.cell? ⟨gb273, 3, none⟩ = some (.int .i64 a0_3) := (blk_cell BK273.out 3).trans rfl
                            have hcz47_4 : wc.cell? ⟨gb273, 4, none⟩ = some (.int .u64 a0_4) := (blk_cell BK273.out 4).trans rfl
                            have hcz47_5 : wc.cell? ⟨gb273, 5, none⟩ = some (.int .u64 a0_5) := (blk_cell BK273.out 5).trans rfl
                            have hcz47_6 : wc.cell? ⟨gb273, 6, none⟩ = some (.slice A0_6 l0_6.length c0_6) := (blk_cell BK273.out 6).trans rfl
                            have hcz47_7 : wc.cell? ⟨gb273, 7, none⟩ = some (.slice A0_7 l0_7.length c0_7) := (blk_cell BK273.out 7).trans rfl
                            have hfz47_0 := blk_frozen BK273.out 0
                            have hfz47_1 := blk_frozen BK273.out 1
                            have hfz47_2 := blk_frozen BK273.out 2
                            have hfz47_3 := blk_frozen BK273.out 3
                            have hfz47_4 := blk_frozen BK273.out 4
                            have hfz47_5 := blk_frozen BK273.out 5
                            have hfz47_6 := blk_frozen BK273.out 6
                            have hfz47_7 := blk_frozen BK273.out 7
                            go_wp2_with (first | ((with_reducible refine gate_builtin (b := .append) (xs := #[.tmp 63, .tmp 65]) rfl ?_); at_builtin; refine Kd.R_append_rows (Kd.int .u8) (w0 := w) w.heap.size rfl (.tmp 63) (.tmp 65) 23 5 (.int .u8 0) 1 rfl Tryd.underlying23 info5 rfl (by decide) (by omega) (.slice none 0 0) ([] : List Int) l0_6 _ _ _ (fun _ => True) (fun _ => False) rfl rfl ?aO ?aR (fun _ _ h => h) (fun _ h => h.elim) ?aF ?aB ?aS ?aL ?_; (case aR => repeat (first | exact (Kd.C_below HR0_6.out HB.out) | (with_reducible refine Kd.C_alloc ?_ _) | (with_reducible refine Kd.C_drewN ?_ _) | (with_reducible refine Kd.C_drew ?_))); (case aB => exact (by repeat (first | (with_reducible first | exact HB.out | apply below_alloc | apply pw_below_drewN | apply below_drew1 | refine below_set ?_ GE273.out) | exact HB.out))); (case aF => exact (fun _ _ => trivial)); (case aO => exact (by (with_reducible repeat (first | apply Kd.R_alloc | apply Kd.R_drewN | apply Kd.R_drew)); exact HO_3.out)); (case aS => exact (below_size (by repeat (first | (with_reducible first | exact HB.out | apply below_alloc | apply pw_below_drewN | apply below_drew1 | refine below_set ?_ GE273.out) | exact HB.out)))); (case aL => have := LMc46.out; omega); intro v305 w48 ho hb hg hat; rw [← Ny304.out] at ho; have n0_ := Aside0.mk (blk_grown (g := gb273) (o := .cells #[.int .i64 a0_0, .string a0_1, .string a0_2, .int .i64 a0_3, .int .u64 a0_4, .int .u64 a0_5, .slice A0_6 l0_6.length c0_6, .slice A0_7 l0_7.length c0_7] 26 (0, 0)) (by (with_reducible repeat (first | refine blk_drewN ?_ _ | refine blk_drew ?_ | refine blk_alloc ?_ _)); exact BK273.out) hg (Kd.R_ne HO_3.out BK273.out (by decide))); have n1_ := Aside0.mk (hb); have n2_ := Aside0.mk (ho); clear BK273; clear HB; clear HO_3; have BK273 := n0_; have HB := n1_; have HO306 := n2_; clear n0_ n1_ n2_; clear ho hb hg hat))
                            go_ret
                            exact ⟨_, by first | rfl | (simp [errW_none, errW_some] <;> rfl) | (simp [*, errW_none, errW_some] <;> rfl), by (with_reducible repeat (first | apply Kd.R_alloc | apply Kd.R_drewN | apply Kd.R_drew)); exact HO306.out, by repeat (first | (with_reducible first | exact HB.out | apply below_alloc | apply pw_below_drewN | apply below_drew1 | refine below_set ?_ GE273.out) | exact HB.out)⟩
                        · rw [if_neg c46] at H
                          exact absurd H (by simp)
                      · rw [if_neg c45] at H
                        have c45b0 : (a0_0 == 7) = false := beq_eq_false_iff_ne.mpr c45
                        have c45b1 : (a0_0 != 7) = true := bne_iff_ne.mpr c45
                        by_cases c49 : a0_0 = 8
                        · rw [if_pos c49] at H
                          have c49b0 : (a0_0 == 8) = true := beq_iff_eq.mpr c49
                          have c49b1 : (a0_0 != 8) = false := bne_eq_false_iff_eq.mpr c49
                          clear c49
                          by_cases c50 : ([] : List Int).length < 140737488355328
                          · rw [if_pos c50] at H
                            have LMc50 := Aside0.mk c50
                            clear c50
                            obtain ⟨y307, hy307⟩ : ∃ y_ : List Int, y_ = (([] : List Int) ++ [(a0_3) % 256]) := ⟨_, rfl⟩
                            replace H : (some y307) = some r := by first | (rw [hy307]; with_reducible exact H) | (have H2_ := (Option.bind_some _ _).symm.trans H; rw [hy307]; with_reducible exact H2_) | (have H2_ := (Option.bind_some _ _).symm.trans H; with_reducible exact H2_) | with_reducible exact H | (rw [hy307]; exact H) | exact H
                            have Ny307 := Aside0.mk hy307
                            clear hy307
                            as_aux_lemma =>
                              obtain rfl := Option.some.inj H
                              have hcz51_0 : wc.cell? ⟨gb273, 0, none⟩ = some (.int .i64 a0_0) := (blk_cell BK273.out 0).trans rfl
                              have hcz51_1 : wc.cell? ⟨gb273, 1, none⟩ = some (.string a0_1) := (blk_cell BK273.out 1).trans rfl
                              have hcz51_2 : wc.cell? ⟨gb273, 2, none⟩ = some (.string a0_2) := (blk_cell BK273.out 2).trans rfl
                              have hcz51_3 : wc.cell? ⟨gb273, 3, none⟩ = some (.int .i64 a0_3) := (blk_cell BK273.out 3).trans rfl
                              have hcz51_4 : wc.cell? ⟨gb273, 4, none⟩ = some (.int .u64 a0_4) := (blk_cell BK273.out 4).trans rfl
                              have hcz51_5 : wc.cell? ⟨gb273, 5, none⟩ = some (.int .u64 a0_5) := (blk_cell BK273.out 5).trans rfl
                              have hcz51_6 : wc.cell? ⟨gb273, 6, none⟩ = some (.slice A0_6 l0_6.length c0_6) := (blk_cell BK273.out 6).trans rfl
                              have hcz51_7 : wc.cell? ⟨gb273, 7, none⟩ = some (.slice A0_7 l0_7.length c0_7) := (blk_cell BK273.out 7).trans rfl
                              have hfz51_0 := blk_frozen BK273.out 0
                              have hfz51_1 := blk_frozen BK273.out 1
                              have hfz51_2 := blk_frozen BK273.out 2
                              have hfz51_3 := blk_frozen BK273.out 3
                              have hfz51_4 := blk_frozen BK273.out 4
                              have hfz51_5 := blk_frozen BK273.out 5
                              have hfz51_6 := blk_frozen BK273.out 6
                              have hfz51_7 := blk_frozen BK273.out 7
                              go_wp2_with (first | ((with_reducible refine gate_builtin (b := .append) (xs := #[.tmp 69, .tmp 73]) rfl ?_); at_builtin; refine Kd.R_append (Kd.int .u8) (w0 := w) w.heap.size rfl (.tmp 69) (.tmp 73) 23 5 (.int .u8 0) 1 rfl Tryd.underlying23 info5 rfl (by decide) (by omega) (.slice none 0 0) ([] : List Int) ((a0_3) % 256) [.int .u8 ((a0_3) % 256)] (fun _ => True) (fun _ => False) rfl rfl ?aP (fun _ hk => hk.elim) ?aF ?aO ?aB ?aS ?aL ?_; (case aP => exact rfl); (case aB => exact (by repeat (first | (with_reducible first | exact HB.out | apply below_alloc | apply pw_below_drewN | apply below_drew1 | refine below_set ?_ GE273.out) | exact HB.out))); (case aF => exact (fun _ _ => trivial)); (case aO => exact (by (with_reducible repeat (first | apply Kd.R_alloc | apply Kd.R_drewN | apply Kd.R_drew)); exact HO_3.out)); (case aS => exact (below_size (by repeat (first | (with_reducible first | exact HB.out | apply below_alloc | apply pw_below_drewN | apply below_drew1 | refine below_set ?_ GE273.out) | exact HB.out)))); (case aL => have := LMc50.out; omega); intro v308 w52 ho hb hg hat; rw [← Ny307.out] at ho; have n0_ := Aside0.mk (blk_grown (g := gb273) (o := .cells #[.int .i64 a0_0, .string a0_1, .string a0_2, .int .i64 a0_3, .int .u64 a0_4, .int .u64 a0_5, .slice A0_6 l0_6.length c0_6, .slice A0_7 l0_7.length c0_7] 26 (0, 0)) (by (with_reducible repeat (first | refine blk_drewN ?_ _ | refine blk_drew ?_ | refine blk_alloc ?_ _)); exact BK273.out) hg (Kd.R_ne HO_3.out BK273.out (by decide))); have n1_ := Aside0.mk (hb); have n2_ := Aside0.mk (ho); clear BK273; clear HB; clear HO_3; have BK273 := n0_; have HB := n1_; have HO309 := n2_; clear n0_ n1_ n2_; clear ho hb hg hat))
                              go_ret
                              exact ⟨_, by first | rfl | (simp [errW_none, errW_some] <;> rfl) | (simp [*, errW_none, errW_some] <;> rfl), by (with_reducible repeat (first | apply Kd.R_alloc | apply Kd.R_drewN | apply Kd.R_drew)); exact HO309.out, by repeat (first | (with_reducible first | exact HB.out | apply below_alloc | apply pw_below_drewN | apply below_drew1 | refine below_set ?_ GE273.out) | exact HB.out)⟩
                          · rw [if_neg c50] at H
                            exact absurd H (by simp)
                        · rw [if_neg c49] at H
                          have c49b0 : (a0_0 == 8) = false := beq_eq_false_iff_ne.mpr c49
                          have c49b1 : (a0_0 != 8) = true := bne_iff_ne.mpr c49
                          have HC53 := Aside0.mk H
                          clear H
                          go_upto_if 75 with (fail)
                          go_cut [75] (fun v75 wc => ∃ (kq : Nat) (x75_52 : Bool), v75 = .bool x75_52 ∧ Aside0 (spec_DocValue.j3 kq ([] : List Int) a0_0 x75_52 a0_0 a0_1 a0_2 a0_3 a0_4 a0_5 l0_6 l0_7 = some r) ∧ Aside0 (kq ≤ kj16) ∧ Aside0 (Kd.R (Kd.int .u8) 5 wc w.heap.size (fun _ => True) (.slice none 0 0) ([] : List Int)) ∧ Aside0 (wc.heap[gb273]? = some (.cells #[.int .i64 a0_0, .string a0_1, .string a0_2, .int .i64 a0_3, .int .u64 a0_4, .int .u64 a0_5, (.slice A0_6 l0_6.length c0_6), (.slice A0_7 l0_7.length c0_7)] 26 (0, 0))) ∧ Aside0 (Below w.heap.size w wc))
                          case first =>
                            have H := HC53.out
                            clear HC53
                            by_cases c54 : a0_0 = 9
                            · rw [if_pos c54] at H
                              have c54b0 : (a0_0 == 9) = true := beq_iff_eq.mpr c54
                              have c54b1 : (a0_0 != 9) = false := bne_eq_false_iff_eq.mpr c54
                              clear c54
                              (first | rw [c54b0] | (simp only [i64_w, i32_w]; rw [c54b0]) | skip)
                              as_aux_lemma =>
                                have H' := Aside0.mk H
                                clear H
                                go_wp2
                                go_meet
                                case rel => exact ⟨_, ((a0_0 == 9)), (by first | rfl | (simp; done) | (simp [*]; done)), H', ⟨by have := HJ1.out; have := HJ9.out; have := HJ16.out; first | omega | exact Nat.le_refl _⟩, ⟨by (with_reducible repeat (first | apply Kd.R_alloc | apply Kd.R_drewN | apply Kd.R_drew)); exact HO_3.out⟩, ⟨by (with_reducible repeat (first | refine blk_drewN ?_ _ | refine blk_drew ?_ | refine blk_alloc ?_ _)); exact BK273.out⟩, ⟨by repeat (first | (with_reducible first | exact HB.out | apply below_alloc | apply pw_below_drewN | apply below_drew1 | refine below_set ?_ GE273.out) | exact HB.out)⟩⟩
                            · rw [if_neg c54] at H
                              have c54b0 : (a0_0 == 9) = false := beq_eq_false_iff_ne.mpr c54
                              have c54b1 : (a0_0 != 9) = true := bne_iff_ne.mpr c54
                              (first | rw [c54b0] | (simp only [i64_w, i32_w]; rw [c54b0]) | skip)
                              as_aux_lemma =>
                                have H' := Aside0.mk H
                                clear H
                                go_wp2
                                go_meet
                                case rel => exact ⟨_, ((a0_0 == 18)), (by first | rfl | (simp; done) | (simp [*]; done)), H', ⟨by have := HJ1.out; have := HJ9.out; have := HJ16.out; first | omega | exact Nat.le_refl _⟩, ⟨by (with_reducible repeat (first | apply Kd.R_alloc | apply Kd.R_drewN | apply Kd.R_drew)); exact HO_3.out⟩, ⟨by (with_reducible repeat (first | refine blk_drewN ?_ _ | refine blk_drew ?_ | refine blk_alloc ?_ _)); exact BK273.out⟩, ⟨by repeat (first | (with_reducible first | exact HB.out | apply below_alloc | apply pw_below_drewN | apply below_drew1 | refine below_set ?_ GE273.out) | exact HB.out)⟩⟩
                          case rest =>
                            clear HC53
                            try clear c1
                            try clear c2
                            try clear p2
                            try clear c3
                            try clear c4
                            try clear c5
                            try clear c5b0
                            try clear c5b1
                            try clear c6
                            try clear p6
                            try clear c11
                            try clear c11b0
                            try clear c11b1
                            try clear c12
                            try clear c12b0
                            try clear c12b1
                            try clear c13
                            try clear c18
                            try clear c18b0
                            try clear c18b1
                            try clear c19
                            try clear c23
                            try clear c23b0
                            try clear c23b1
                            try clear c24
                            try clear c24b0
                            try clear c24b1
                            try clear c26
                            try clear c28
                            try clear c29
                            try clear c30
                            try clear c31
                            try clear c32
                            try clear c37
                            try clear c38
                            try clear c45
                            try clear c45b0
                            try clear c45b1
                            try clear c46
                            try clear c49
                            try clear c49b0
                            try clear c49b1
                            try clear c50
                            try clear c54
                            try clear c54b0
                            try clear c54b1
                            try clear hcz15_0
                            try clear hcz15_1
                            try clear hcz15_2
                            try clear hcz15_3
                            try clear hcz15_4
                            try clear hcz15_5
                            try clear hcz15_6
                            try clear hcz15_7
                            try clear hcz21_0
                            try clear hcz21_1
                            try clear hcz21_2
                            try clear hcz21_3
                            try clear hcz21_4
                            try clear hcz21_5
                            try clear hcz21_6
                            try clear hcz21_7
                            try clear hcz29_0
                            try clear hcz29_1
                            try clear hcz29_2
                            try clear hcz29_3
                            try clear hcz29_4
                            try clear hcz29_5
                            try clear hcz29_6
                            try clear hcz29_7
                            try clear hcz34_0
                            try clear hcz34_1
                            try clear hcz34_2
                            try clear hcz34_3
                            try clear hcz34_4
                            try clear hcz34_5
                            try clear hcz34_6
                            try clear hcz34_7
                            try clear hcz39_0
                            try clear hcz39_1
                            try clear hcz39_2
                            try clear hcz39_3
                            try clear hcz39_4
                            try clear hcz39_5
                            try clear hcz39_6
                            try clear hcz39_7
                            try clear hcz41_0
                            try clear hcz41_1
                            try clear hcz41_2
                            try clear hcz41_3
                            try clear hcz41_4
                            try clear hcz41_5
                            try clear hcz41_6
                            try clear hcz41_7
                            try clear hcz43_0
                            try clear hcz43_1
                            try clear hcz43_2
                            try clear hcz43_3
                            try clear hcz43_4
                            try clear hcz43_5
                            try clear hcz43_6
                            try clear hcz43_7
                            try clear hcz47_0
                            try clear hcz47_1
                            try clear hcz47_2
                            try clear hcz47_3
                            try clear hcz47_4
                            try clear hcz47_5
                            try clear hcz47_6
                            try clear hcz47_7
                            try clear hcz4_0
                            try clear hcz4_1
                            try clear hcz4_2
                            try clear hcz4_3
                            try clear hcz4_4
                            try clear hcz4_5
                            try clear hcz4_6
                            try clear hcz4_7
                            try clear hcz51_0
                            try clear hcz51_1
                            try clear hcz51_2
                            try clear hcz51_3
                            try clear hcz51_4
                            try clear hcz51_5
                            try clear hcz51_6
                            try clear hcz51_7
                            try clear hcz8_0
                            try clear hcz8_1
                            try clear hcz8_2
                            try clear hcz8_3
                            try clear hcz8_4
                            try clear hcz8_5
                            try clear hcz8_6
                            try clear hcz8_7
                            try clear hfz15_0
                            try clear hfz15_1
                            try clear hfz15_2
                            try clear hfz15_3
                            try clear hfz15_4
                            try clear hfz15_5
                            try clear hfz15_6
                            try clear hfz15_7
                            try clear hfz21_0
                            try clear hfz21_1
                            try clear hfz21_2
                            try clear hfz21_3
                            try clear hfz21_4
                            try clear hfz21_5
                            try clear hfz21_6
                            try clear hfz21_7
                            try clear hfz29_0
                            try clear hfz29_1
                            try clear hfz29_2
                            try clear hfz29_3
                            try clear hfz29_4
                            try clear hfz29_5
                            try clear hfz29_6
                            try clear hfz29_7
                            try clear hfz34_0
                            try clear hfz34_1
                            try clear hfz34_2
                            try clear hfz34_3
                            try clear hfz34_4
                            try clear hfz34_5
                            try clear hfz34_6
                            try clear hfz34_7
                            try clear hfz39_0
                            try clear hfz39_1
                            try clear hfz39_2
                            try clear hfz39_3
                            try clear hfz39_4
                            try clear hfz39_5
                            try clear hfz39_6
                            try clear hfz39_7
                            try clear hfz41_0
                            try clear hfz41_1
                            try clear hfz41_2
                            try clear hfz41_3
                            try clear hfz41_4
                            try clear hfz41_5
                            try clear hfz41_6
                            try clear hfz41_7
                            try clear hfz43_0
                            try clear hfz43_1
                            try clear hfz43_2
                            try clear hfz43_3
                            try clear hfz43_4
                            try clear hfz43_5
                            try clear hfz43_6
                            try clear hfz43_7
                            try clear hfz47_0
                            try clear hfz47_1
                            try clear hfz47_2
                            try clear hfz47_3
                            try clear hfz47_4
                            try clear hfz47_5
                            try clear hfz47_6
                            try clear hfz47_7
                            try clear hfz4_0
                            try clear hfz4_1
                            try clear hfz4_2
                            try clear hfz4_3
                            try clear hfz4_4
                            try clear hfz4_5
                            try clear hfz4_6
                            try clear hfz4_7
                            try clear hfz51_0
                            try clear hfz51_1
                            try clear hfz51_2
                            try clear hfz51_3
                            try clear hfz51_4
                            try clear hfz51_5
                            try clear hfz51_6
                            try clear hfz51_7
                            try clear hfz8_0
                            try clear hfz8_1
                            try clear hfz8_2
                            try clear hfz8_3
                            try clear hfz8_4
                            try clear hfz8_5
                            try clear hfz8_6
                            try clear hfz8_7
                            try clear p2
                            obtain ⟨kq, x75_52, rfl, HA, HJ52, HO_3, BK273, HB⟩ := hcut
                            cases kq with
                            | zero => exact absurd HA.out (by simp [spec_DocValue.j3])
                            | succ kj52 =>
                              have H := HA.out
                              clear HA
                              simp only [spec_DocValue.j3] at H
                              by_cases c55 : x75_52 = true
                              · subst c55
                                have H1 : ((spec_DocInt64.f kj52 ([] : List Int) (IntKind.u64.wrap (a0_3))).bind fun t310 => (some t310)) = some r := by rw [if_pos rfl] at H; exact H
                                clear H
                                have H := H1
                                clear H1
                                replace H := Option.bind_eq_some_iff.mp H
                                obtain ⟨t310, A560, H⟩ := H
                                replace H : (some t310) = some r := H
                                have A56 := Aside0.mk A560
                                clear A560
                                as_aux_lemma =>
                                  obtain rfl := Option.some.inj H
                                  have hcz57_0 : wc.cell? ⟨gb273, 0, none⟩ = some (.int .i64 a0_0) := (blk_cell BK273.out 0).trans rfl
                                  have hcz57_1 : wc.cell? ⟨gb273, 1, none⟩ = some (.string a0_1) := (blk_cell BK273.out 1).trans rfl
                                  have hcz57_2 : wc.cell? ⟨gb273, 2, none⟩ = some (.string a0_2) := (blk_cell BK273.out 2).trans rfl
                                  have hcz57_3 : wc.cell? ⟨gb273, 3, none⟩ = some (.int .i64 a0_3) := (blk_cell BK273.out 3).trans rfl
                                  have hcz57_4 : wc.cell? ⟨gb273, 4, none⟩ = some (.int .u64 a0_4) := (blk_cell BK273.out 4).trans rfl
                                  have hcz57_5 : wc.cell? ⟨gb273, 5, none⟩ = some (.int .u64 a0_5) := (blk_cell BK273.out 5).trans rfl
                                  have hcz57_6 : wc.cell? ⟨gb273, 6, none⟩ = some (.slice A0_6 l0_6.length c0_6) := (blk_cell BK273.out 6).trans rfl
                                  have hcz57_7 : wc.cell? ⟨gb273, 7, none⟩ = some (.slice A0_7 l0_7.length c0_7) := (blk_cell BK273.out 7).trans rfl
                                  have hfz57_0 := blk_frozen BK273.out 0
                                  have hfz57_1 := blk_frozen BK273.out 1
                                  have hfz57_2 := blk_frozen BK273.out 2
                                  have hfz57_3 := blk_frozen BK273.out 3
                                  have hfz57_4 := blk_frozen BK273.out 4
                                  have hfz57_5 := blk_frozen BK273.out 5
                                  have hfz57_6 := blk_frozen BK273.out 6
                                  have hfz57_7 := blk_frozen BK273.out 7
                                  go_wp2_with (first | ((with_reducible refine gate_callee (f := 29) rfl ?_); refine goesL_ (some 82) rfl rfl Tryd.func29 (by kernel_rfl) rfl #[.slice none 0 0, .int .u64 (IntKind.u64.wrap (a0_3))] rfl (by (try simp only [List.map_toArray, List.map_cons, List.map_nil]); first | done | rfl | (simp only [List.length_drop, List.length_take]; rfl)) ?_; (with_reducible refine (spec_DocInt64.calls kj52 (fun k_ => some k_ = (.slice none 0 0 : Value).ownBlock) (.slice none 0 0) ([] : List Int) (IntKind.u64.wrap (a0_3)) t310 w _ ?side1 ?side2 A56.out).mono ?_); (case side1 => repeat (first | (with_reducible first | exact HB.out | apply below_alloc | apply pw_below_drewN | apply below_drew1 | refine below_set ?_ GE273.out) | exact HB.out)); (case side2 => exact Kd.R_tight rfl HO_3.out); rintro e w58 ⟨v311, rfl, ho0, hb, hkp⟩; refine ⟨_, rfl, ?_⟩; have n0_ := Aside0.mk (blk_kept (by (with_reducible repeat (first | refine blk_drewN ?_ _ | refine blk_drew ?_ | refine blk_alloc ?_ _)); exact BK273.out) hkp (fun hs_ => (fun e_ => (Kd.R_ne HO_3.out BK273.out (by decide)) e_) hs_)); have n1_ := Aside0.mk (Kd.R_mono (ok' := fun k_ => True) ho0 (fun k_ hk_ => trivial)); have n2_ := Aside0.mk (hb); clear BK273; clear HB; clear HO_3; have BK273 := n0_; have HO312 := n1_; have HB := n2_; clear n0_ n1_ n2_; (try clear hb); (try clear hkp); (try clear ho0)))
                                  go_ret
                                  exact ⟨_, by first | rfl | (simp [errW_none, errW_some] <;> rfl) | (simp [*, errW_none, errW_some] <;> rfl), by (with_reducible repeat (first | apply Kd.R_alloc | apply Kd.R_drewN | apply Kd.R_drew)); exact HO312.out, by repeat (first | (with_reducible first | exact HB.out | apply below_alloc | apply pw_below_drewN | apply below_drew1 | refine below_set ?_ GE273.out) | exact HB.out)⟩
                              · replace c55 := Bool.eq_false_iff.mpr c55
                                subst c55
                                have H1 : (if a0_0 = 16 then ((spec_DocInt32.f ([] : List Int) a0_3).bind fun t313 => (some t313)) else (if a0_0 = 11 then (if ([] : List Int).length + a0_1.size < 140737488355328 then ((some (([] : List Int) ++ bytesOf a0_1 : List Int)).bind fun y316 => (if y316.length < 140737488355328 then ((some (y316 ++ [0] : List Int)).bind fun y319 => (if y319.length + a0_2.size < 140737488355328 then ((some (y319 ++ bytesOf a0_2 : List Int)).bind fun y322 => (if y322.length < 140737488355328 then (some (y322 ++ [0])) else (none))) else (none))) else (none))) else (none)) else (if a0_0 = 12 then ((spec_docText.f ([] : List Int) a0_1).bind fun t328 => (if t328.length + l0_6.length < 140737488355328 then (some (t328 ++ l0_6)) else (none))) else (if a0_0 = 15 then ((spec_docText.f ([] : List Int) a0_1).bind fun t334 => ((spec_DocBytes.f kj52 l0_7).bind fun t337 => ((spec_DocInt32.f ([] : List Int) (wrap64 ((wrap64 (4 + (t334.length : Int))) + (t337.length : Int)))).bind fun t340 => (if t340.length + t334.length < 140737488355328 then ((some (t340 ++ t334 : List Int)).bind fun y343 => (if y343.length + t337.length < 140737488355328 then (some (y343 ++ t337)) else (none))) else (none))))) else (if a0_0 = 19 then ((spec_DocInt64.f kj52 ([] : List Int) a0_4).bind fun t349 => ((spec_DocInt64.f kj52 t349 a0_5).bind fun t352 => (some t352))) else (some ([] : List Int))))))) = some r := by rw [if_neg (show ¬ (false = true) by decide)] at H; exact H
                                clear H
                                have H := H1
                                clear H1
                                by_cases c59 : a0_0 = 16
                                · rw [if_pos c59] at H
                                  have c59b0 : (a0_0 == 16) = true := beq_iff_eq.mpr c59
                                  have c59b1 : (a0_0 != 16) = false := bne_eq_false_iff_eq.mpr c59
                                  clear c59
                                  replace H := Option.bind_eq_some_iff.mp H
                                  obtain ⟨t313, A600, H⟩ := H
                                  replace H : (some t313) = some r := H
                                  have A60 := Aside0.mk A600
                                  clear A600
                                  as_aux_lemma =>
                                    obtain rfl := Option.some.inj H
                                    have hcz61_0 : wc.cell? ⟨gb273, 0, none⟩ = some (.int .i64 a0_0) := (blk_cell BK273.out 0).trans rfl
                                    have hcz61_1 : wc.cell? ⟨gb273, 1, none⟩ = some (.string a0_1) := (blk_cell BK273.out 1).trans rfl
                                    have hcz61_2 : wc.cell? ⟨gb273, 2, none⟩ = some (.string a0_2) := (blk_cell BK273.out 2).trans rfl
                                    have hcz61_3 : wc.cell? ⟨gb273, 3, none⟩ = some (.int .i64 a0_3) := (blk_cell BK273.out 3).trans rfl
                                    have hcz61_4 : wc.cell? ⟨gb273, 4, none⟩ = some (.int .u64 a0_4) := (blk_cell BK273.out 4).trans rfl
                                    have hcz61_5 : wc.cell? ⟨gb273, 5, none⟩ = some (.int .u64 a0_5) := (blk_cell BK273.out 5).trans rfl
                                    have hcz61_6 : wc.cell? ⟨gb273, 6, none⟩ = some (.slice A0_6 l0_6.length c0_6) := (blk_cell BK273.out 6).trans rfl
                                    have hcz61_7 : wc.cell? ⟨gb273, 7, none⟩ = some (.slice A0_7 l0_7.length c0_7) := (blk_cell BK273.out 7).trans rfl
                                    have hfz61_0 := blk_frozen BK273.out 0
                                    have hfz61_1 := blk_frozen BK273.out 1
                                    have hfz61_2 := blk_frozen BK273.out 2
                                    have hfz61_3 := blk_frozen BK273.out 3
                                    have hfz61_4 := blk_frozen BK273.out 4
                                    have hfz61_5 := blk_frozen BK273.out 5
                                    have hfz61_6 := blk_frozen BK273.out 6
                                    have hfz61_7 := blk_frozen BK273.out 7
                                    go_wp2_with (first | ((with_reducible refine gate_callee (f := 32) rfl ?_); refine goesL_ (some 88) rfl rfl Tryd.func32 (by kernel_rfl) rfl #[.slice none 0 0, .int .i64 a0_3] rfl (by (try simp only [List.map_toArray, List.map_cons, List.map_nil]); first | done | rfl | (simp only [List.length_drop, List.length_take]; rfl)) ?_; (with_reducible refine (spec_DocInt32.calls (fun k_ => some k_ = (.slice none 0 0 : Value).ownBlock) (.slice none 0 0) ([] : List Int) a0_3 t313 w _ ?side1 ?side2 A60.out).mono ?_); (case side1 => repeat (first | (with_reducible first | exact HB.out | apply below_alloc | apply pw_below_drewN | apply below_drew1 | refine below_set ?_ GE273.out) | exact HB.out)); (case side2 => exact Kd.R_tight rfl HO_3.out); rintro e w62 ⟨v314, rfl, ho0, hb, hkp⟩; refine ⟨_, rfl, ?_⟩; have n0_ := Aside0.mk (blk_kept (by (with_reducible repeat (first | refine blk_drewN ?_ _ | refine blk_drew ?_ | refine blk_alloc ?_ _)); exact BK273.out) hkp (fun hs_ => (fun e_ => (Kd.R_ne HO_3.out BK273.out (by decide)) e_) hs_)); have n1_ := Aside0.mk (Kd.R_mono (ok' := fun k_ => True) ho0 (fun k_ hk_ => trivial)); have n2_ := Aside0.mk (hb); clear BK273; clear HB; clear HO_3; have BK273 := n0_; have HO315 := n1_; have HB := n2_; clear n0_ n1_ n2_; (try clear hb); (try clear hkp); (try clear ho0)))
                                    go_ret
                                    exact ⟨_, by first | rfl | (simp [errW_none, errW_some] <;> rfl) | (simp [*, errW_none, errW_some] <;> rfl), by (with_reducible repeat (first | apply Kd.R_alloc | apply Kd.R_drewN | apply Kd.R_drew)); exact HO315.out, by repeat (first | (with_reducible first | exact HB.out | apply below_alloc | apply pw_below_drewN | apply below_drew1 | refine below_set ?_ GE273.out) | exact HB.out)⟩
                                · rw [if_neg c59] at H
                                  have c59b0 : (a0_0 == 16) = false := beq_eq_false_iff_ne.mpr c59
                                  have c59b1 : (a0_0 != 16) = true := bne_iff_ne.mpr c59
                                  by_cases c63 : a0_0 = 11
                                  · rw [if_pos c63] at H
                                    have c63b0 : (a0_0 == 11) = true := beq_iff_eq.mpr c63
                                    have c63b1 : (a0_0 != 11) = false := bne_eq_false_iff_eq.mpr c63
                                    clear c63
                                    by_cases c64 : ([] : List Int).length + a0_1.size < 140737488355328
                                    · rw [if_pos c64] at H
                                      have LMc64 := Aside0.mk c64
                                      clear c64
                                      obtain ⟨y316, hy316⟩ : ∃ y_ : List Int, y_ = (([] : List Int) ++ bytesOf a0_1) := ⟨_, rfl⟩
                                      replace H : (if y316.length < 140737488355328 then ((some (y316 ++ [0] : List Int)).bind fun y319 => (if y319.length + a0_2.size < 140737488355328 then ((some (y319 ++ bytesOf a0_2 : List Int)).bind fun y322 => (if y322.length < 140737488355328 then (some (y322 ++ [0])) else (none))) else (none))) else (none)) = some r := by first | (rw [hy316]; with_reducible exact H) | (have H2_ := (Option.bind_some _ _).symm.trans H; rw [hy316]; with_reducible exact H2_) | (have H2_ := (Option.bind_some _ _).symm.trans H; with_reducible exact H2_) | with_reducible exact H | (rw [hy316]; exact H) | exact H
                                      have Ny316 := Aside0.mk hy316
                                      clear hy316
                                      by_cases c65 : y316.length < 140737488355328
                                      · rw [if_pos c65] at H
                                        have LMc65 := Aside0.mk c65
                                        clear c65
                                        obtain ⟨y319, hy319⟩ : ∃ y_ : List Int, y_ = (y316 ++ [0]) := ⟨_, rfl⟩
                                        replace H : (if y319.length + a0_2.size < 140737488355328 then ((some (y319 ++ bytesOf a0_2 : List Int)).bind fun y322 => (if y322.length < 140737488355328 then (some (y322 ++ [0])) else (none))) else (none)) = some r := by first | (rw [hy319]; with_reducible exact H) | (have H2_ := (Option.bind_some _ _).symm.trans H; rw [hy319]; with_reducible exact H2_) | (have H2_ := (Option.bind_some _ _).symm.trans H; with_reducible exact H2_) | with_reducible exact H | (rw [hy319]; exact H) | exact H
                                        have Ny319 := Aside0.mk hy319
                                        clear hy319
                                        by_cases c66 : y319.length + a0_2.size < 140737488355328
                                        · rw [if_pos c66] at H
                                          have LMc66 := Aside0.mk c66
                                          clear c66
                                          obtain ⟨y322, hy322⟩ : ∃ y_ : List Int, y_ = (y319 ++ bytesOf a0_2) := ⟨_, rfl⟩
                                          replace H : (if y322.length < 140737488355328 then (some (y322 ++ [0])) else (none)) = some r := by first | (rw [hy322]; with_reducible exact H) | (have H2_ := (Option.bind_some _ _).symm.trans H; rw [hy322]; with_reducible exact H2_) | (have H2_ := (Option.bind_some _ _).symm.trans H; with_reducible exact H2_) | with_reducible exact H | (rw [hy322]; exact H) | exact H
                                          have Ny322 := Aside0.mk hy322
                                          clear hy322
                                          by_cases c67 : y322.length < 140737488355328
                                          · rw [if_pos c67] at H
                                            have LMc67 := Aside0.mk c67
                                            clear c67
                                            obtain ⟨y325, hy325⟩ : ∃ y_ : List Int, y_ = (y322 ++ [0]) := ⟨_, rfl⟩
                                            replace H : (some y325) = some r := by first | (rw [hy325]; with_reducible exact H) | (have H2_ := (Option.bind_some _ _).symm.trans H; rw [hy325]; with_reducible exact H2_) | (have H2_ := (Option.bind_some _ _).symm.trans H; with_reducible exact H2_) | with_reducible exact H | (rw [hy325]; exact H) | exact H
                                            have Ny325 := Aside0.mk hy325
                                            clear hy325
                                            as_aux_lemma =>
                                              obtain rfl := Option.some.inj H
                                              have hcz68_0 : wc.cell? ⟨gb273, 0, none⟩ = some (.int .i64 a0_0) := (blk_cell BK273.out 0).trans rfl
                                              have hcz68_1 : wc.cell? ⟨gb273, 1, none⟩ = some (.string a0_1) := (blk_cell BK273.out 1).trans rfl
                                              have hcz68_2 : wc.cell? ⟨gb273, 2, none⟩ = some (.string a0_2) := (blk_cell BK273.out 2).trans rfl
                                              have hcz68_3 : wc.cell? ⟨gb273, 3, none⟩ = some (.int .i64 a0_3) := (blk_cell BK273.out 3).trans rfl
                                              have hcz68_4 : wc.cell? ⟨gb273, 4, none⟩ = some (.int .u64 a0_4) := (blk_cell BK273.out 4).trans rfl
                                              have hcz68_5 : wc.cell? ⟨gb273, 5, none⟩ = some (.int .u64 a0_5) := (blk_cell BK273.out 5).trans rfl
                                              have hcz68_6 : wc.cell? ⟨gb273, 6, none⟩ = some (.slice A0_6 l0_6.length c0_6) := (blk_cell BK273.out 6).trans rfl
                                              have hcz68_7 : wc.cell? ⟨gb273, 7, none⟩ = some (.slice A0_7 l0_7.length c0_7) := (blk_cell BK273.out 7).trans rfl
                                              have hfz68_0 := blk_frozen BK273.out 0
                                              have hfz68_1 := blk_frozen BK273.out 1
                                              have hfz68_2 := blk_frozen BK273.out 2
                                              have hfz68_3 := blk_frozen BK273.out 3
                                              have hfz68_4 := blk_frozen BK273.out 4
                                              have hfz68_5 := blk_frozen BK273.out 5
                                              have hfz68_6 := blk_frozen BK273.out 6
                                              have hfz68_7 := blk_frozen BK273.out 7
                                              go_wp2_with (first | (at_builtin; refine HW.R_append_str (w0 := w) w.heap.size rfl (.tmp 91) _ 23 9 5 rfl Tryd.underlying23 Tryd.underlying9 info5 (.slice none 0 0) ([] : List Int) a0_1 (fun _ => True) rfl rfl ?aO ?aF ?aB ?aS ?aL ?_; (case aB => exact (by repeat (first | (with_reducible first | exact HB.out | apply below_alloc | apply pw_below_drewN | apply below_drew1 | refine below_set ?_ GE273.out) | exact HB.out))); (case aF => exact (fun _ _ => trivial)); (case aO => exact (by (with_reducible repeat (first | apply Kd.R_alloc | apply Kd.R_drewN | apply Kd.R_drew)); exact HO_3.out)); (case aS => exact (below_size (by repeat (first | (with_reducible first | exact HB.out | apply below_alloc | apply pw_below_drewN | apply below_drew1 | refine below_set ?_ GE273.out) | exact HB.out)))); (case aL => have := LMc64.out; omega); intro v317 w69 ho hb hg hat; rw [← Ny316.out] at ho; have n0_ := Aside0.mk (blk_grown (g := gb273) (o := .cells #[.int .i64 a0_0, .string a0_1, .string a0_2, .int .i64 a0_3, .int .u64 a0_4, .int .u64 a0_5, .slice A0_6 l0_6.length c0_6, .slice A0_7 l0_7.length c0_7] 26 (0, 0)) (by (with_reducible repeat (first | refine blk_drewN ?_ _ | refine blk_drew ?_ | refine blk_alloc ?_ _)); exact BK273.out) hg (Kd.R_ne HO_3.out BK273.out (by decide))); have n1_ := Aside0.mk (hb); have n2_ := Aside0.mk (ho); clear BK273; clear HB; clear HO_3; have BK273 := n0_; have HB := n1_; have HO318 := n2_; clear n0_ n1_ n2_; clear ho hb hg hat) | ((with_reducible refine gate_builtin (b := .append) (xs := #[.tmp 95, .tmp 96]) rfl ?_); at_builtin; refine Kd.R_append (Kd.int .u8) (w0 := w) w.heap.size rfl (.tmp 95) (.tmp 96) 23 5 (.int .u8 0) 1 rfl Tryd.underlying23 info5 rfl (by decide) (by omega) v317 y316 0 [.int .u8 0] (fun _ => True) (fun _ => False) rfl rfl ?aP (fun _ hk => hk.elim) ?aF ?aO ?aB ?aS ?aL ?_; (case aP => exact rfl); (case aB => exact (by repeat (first | (with_reducible first | exact HB.out | apply below_alloc | apply pw_below_drewN | apply below_drew1 | refine below_set ?_ GE273.out) | exact HB.out))); (case aF => exact (fun _ _ => trivial)); (case aO => exact (by (with_reducible repeat (first | apply Kd.R_alloc | apply Kd.R_drewN | apply Kd.R_drew)); exact HO318.out)); (case aS => exact (below_size (by repeat (first | (with_reducible first | exact HB.out | apply below_alloc | apply pw_below_drewN | apply below_drew1 | refine below_set ?_ GE273.out) | exact HB.out)))); (case aL => have := LMc65.out; omega); intro v320 w70 ho hb hg hat; rw [← Ny319.out] at ho; have n0_ := Aside0.mk (blk_grown (g := gb273) (o := .cells #[.int .i64 a0_0, .string a0_1, .string a0_2, .int .i64 a0_3, .int .u64 a0_4, .int .u64 a0_5, .slice A0_6 l0_6.length c0_6, .slice A0_7 l0_7.length c0_7] 26 (0, 0)) (by (with_reducible repeat (first | refine blk_drewN ?_ _ | refine blk_drew ?_ | refine blk_alloc ?_ _)); exact BK273.out) hg (Kd.R_ne HO318.out BK273.out (by decide))); have n1_ := Aside0.mk (hb); have n2_ := Aside0.mk (ho); clear BK273; clear HB; clear HO318; have BK273 := n0_; have HB := n1_; have HO321 := n2_; clear n0_ n1_ n2_; clear ho hb hg hat; have hcz71_0 : w70.cell? ⟨gb273, 0, none⟩ = some (.int .i64 a0_0) := (blk_cell BK273.out 0).trans rfl; have hcz71_1 : w70.cell? ⟨gb273, 1, none⟩ = some (.string a0_1) := (blk_cell BK273.out 1).trans rfl; have hcz71_2 : w70.cell? ⟨gb273, 2, none⟩ = some (.string a0_2) := (blk_cell BK273.out 2).trans rfl; have hcz71_3 : w70.cell? ⟨gb273, 3, none⟩ = some (.int .i64 a0_3) := (blk_cell BK273.out 3).trans rfl; have hcz71_4 : w70.cell? ⟨gb273, 4, none⟩ = some (.int .u64 a0_4) := (blk_cell BK273.out 4).trans rfl; have hcz71_5 : w70.cell? ⟨gb273, 5, none⟩ = some (.int .u64 a0_5) := (blk_cell BK273.out 5).trans rfl; have hcz71_6 : w70.cell? ⟨gb273, 6, none⟩ = some (.slice A0_6 l0_6.length c0_6) := (blk_cell BK273.out 6).trans rfl; have hcz71_7 : w70.cell? ⟨gb273, 7, none⟩ = some (.slice A0_7 l0_7.length c0_7) := (blk_cell BK273.out 7).trans rfl; have hfz71_0 := blk_frozen BK273.out 0; have hfz71_1 := blk_frozen BK273.out 1; have hfz71_2 := blk_frozen BK273.out 2; have hfz71_3 := blk_frozen BK273.out 3; have hfz71_4 := blk_frozen BK273.out 4; have hfz71_5 := blk_frozen BK273.out 5; have hfz71_6 := blk_frozen BK273.out 6; have hfz71_7 := blk_frozen BK273.out 7) | (at_builtin; refine HW.R_append_str (w0 := w) w.heap.size rfl (.tmp 98) _ 23 9 5 rfl Tryd.underlying23 Tryd.underlying9 info5 v320 y319 a0_2 (fun _ => True) rfl rfl ?aO ?aF ?aB ?aS ?aL ?_; (case aB => exact (by repeat (first | (with_reducible first | exact HB.out | apply below_alloc | apply pw_below_drewN | apply below_drew1 | refine below_set ?_ GE273.out) | exact HB.out))); (case aF => exact (fun _ _ => trivial)); (case aO => exact (by (with_reducible repeat (first | apply Kd.R_alloc | apply Kd.R_drewN | apply Kd.R_drew)); exact HO321.out)); (case aS => exact (below_size (by repeat (first | (with_reducible first | exact HB.out | apply below_alloc | apply pw_below_drewN | apply below_drew1 | refine below_set ?_ GE273.out) | exact HB.out)))); (case aL => have := LMc66.out; omega); intro v323 w72 ho hb hg hat; rw [← Ny322.out] at ho; have n0_ := Aside0.mk (blk_grown (g := gb273) (o := .cells #[.int .i64 a0_0, .string a0_1, .string a0_2, .int .i64 a0_3, .int .u64 a0_4, .int .u64 a0_5, .slice A0_6 l0_6.length c0_6, .slice A0_7 l0_7.length c0_7] 26 (0, 0)) (by (with_reducible repeat (first | refine blk_drewN ?_ _ | refine blk_drew ?_ | refine blk_alloc ?_ _)); exact BK273.out) hg (Kd.R_ne HO321.out BK273.out (by decide))); have n1_ := Aside0.mk (hb); have n2_ := Aside0.mk (ho); clear BK273; clear HB; clear HO321; have BK273 := n0_; have HB := n1_; have HO324 := n2_; clear n0_ n1_ n2_; clear ho hb hg hat) | ((with_reducible refine gate_builtin (b := .append) (xs := #[.tmp 102, .tmp 103]) rfl ?_); at_builtin; refine Kd.R_append (Kd.int .u8) (w0 := w) w.heap.size rfl (.tmp 102) (.tmp 103) 23 5 (.int .u8 0) 1 rfl Tryd.underlying23 info5 rfl (by decide) (by omega) v323 y322 0 [.int .u8 0] (fun _ => True) (fun _ => False) rfl rfl ?aP (fun _ hk => hk.elim) ?aF ?aO ?aB ?aS ?aL ?_; (case aP => exact rfl); (case aB => exact (by repeat (first | (with_reducible first | exact HB.out | apply below_alloc | apply pw_below_drewN | apply below_drew1 | refine below_set ?_ GE273.out) | exact HB.out))); (case aF => exact (fun _ _ => trivial)); (case aO => exact (by (with_reducible repeat (first | apply Kd.R_alloc | apply Kd.R_drewN | apply Kd.R_drew)); exact HO324.out)); (case aS => exact (below_size (by repeat (first | (with_reducible first | exact HB.out | apply below_alloc | apply pw_below_drewN | apply below_drew1 | refine below_set ?_ GE273.out) | exact HB.out)))); (case aL => have := LMc67.out; omega); intro v326 w73 ho hb hg hat; rw [← Ny325.out] at ho; have n0_ := Aside0.mk (blk_grown (g := gb273) (o := .cells #[.int .i64 a0_0, .string a0_1, .string a0_2, .int .i64 a0_3, .int .u64 a0_4, .int .u64 a0_5, .slice A0_6 l0_6.length c0_6, .slice A0_7 l0_7.length c0_7] 26 (0, 0)) (by (with_reducible repeat (first | refine blk_drewN ?_ _ | refine blk_drew ?_ | refine blk_alloc ?_ _)); exact BK273.out) hg (Kd.R_ne HO324.out BK273.out (by decide))); have n1_ := Aside0.mk (hb); have n2_ := Aside0.mk (ho); clear BK273; clear HB; clear HO324; have BK273 := n0_; have HB := n1_; have HO327 := n2_; clear n0_ n1_ n2_; clear ho hb hg hat))
                                              go_ret
                                              exact ⟨_, by first | rfl | (simp [errW_none, errW_some] <;> rfl) | (simp [*, errW_none, errW_some] <;> rfl), by (with_reducible repeat (first | apply Kd.R_alloc | apply Kd.R_drewN | apply Kd.R_drew)); exact HO327.out, by repeat (first | (with_reducible first | exact HB.out | apply below_alloc | apply pw_below_drewN | apply below_drew1 | refine below_set ?_ GE273.out) | exact HB.out)⟩
                                          · rw [if_neg c67] at H
                                            exact absurd H (by simp)
                                        · rw [if_neg c66] at H
                                          exact absurd H (by simp)
                                      · rw [if_neg c65] at H
                                        exact absurd H (by simp)
                                    · rw [if_neg c64] at H
                                      exact absurd H (by simp)
                                  · rw [if_neg c63] at H
                                    have c63b0 : (a0_0 == 11) = false := beq_eq_false_iff_ne.mpr c63
                                    have c63b1 : (a0_0 != 11) = true := bne_iff_ne.mpr c63
                                    by_cases c74 : a0_0 = 12
                                    · rw [if_pos c74] at H
                                      have c74b0 : (a0_0 == 12) = true := beq_iff_eq.mpr c74
                                      have c74b1 : (a0_0 != 12) = false := bne_eq_false_iff_eq.mpr c74
                                      clear c74
                                      replace H := Option.bind_eq_some_iff.mp H
                                      obtain ⟨t328, A750, H⟩ := H
                                      replace H : (if t328.length + l0_6.length < 140737488355328 then (some (t328 ++ l0_6)) else (none)) = some r := H
                                      have A75 := Aside0.mk A750
                                      clear A750
                                      by_cases c76 : t328.length + l0_6.length < 140737488355328
                                      · rw [if_pos c76] at H
                                        have LMc76 := Aside0.mk c76
                                        clear c76
                                        obtain ⟨y331, hy331⟩ : ∃ y_ : List Int, y_ = (t328 ++ l0_6) := ⟨_, rfl⟩
                                        replace H : (some y331) = some r := by first | (rw [hy331]; with_reducible exact H) | (have H2_ := (Option.bind_some _ _).symm.trans H; rw [hy331]; with_reducible exact H2_) | (have H2_ := (Option.bind_some _ _).symm.trans H; with_reducible exact H2_) | with_reducible exact H | (rw [hy331]; exact H) | exact H
                                        have Ny331 := Aside0.mk hy331
                                        clear hy331
                                        as_aux_lemma =>
                                          obtain rfl := Option.some.inj H
                                          have hcz77_0 : wc.cell? ⟨gb273, 0, none⟩ = some (.int .i64 a0_0) := (blk_cell BK273.out 0).trans rfl
                                          have hcz77_1 : wc.cell? ⟨gb273, 1, none⟩ = some (.string a0_1) := (blk_cell BK273.out 1).trans rfl
                                          have hcz77_2 : wc.cell? ⟨gb273, 2, none⟩ = some (.string a0_2) := (blk_cell BK273.out 2).trans rfl
                                          have hcz77_3 : wc.cell? ⟨gb273, 3, none⟩ = some (.int .i64 a0_3) := (blk_cell BK273.out 3).trans rfl
                                          have hcz77_4 : wc.cell? ⟨gb273, 4, none⟩ = some (.int .u64 a0_4) := (blk_cell BK273.out 4).trans rfl
                                          have hcz77_5 : wc.cell? ⟨gb273, 5, none⟩ = some (.int .u64 a0_5) := (blk_cell BK273.out 5).trans rfl
                                          have hcz77_6 : wc.cell? ⟨gb273, 6, none⟩ = some (.slice A0_6 l0_6.length c0_6) := (blk_cell BK273.out 6).trans rfl
                                          have hcz77_7 : wc.cell? ⟨gb273, 7, none⟩ = some (.slice A0_7 l0_7.length c0_7) := (blk_cell BK273.out 7).trans rfl
                                          have hfz77_0 := blk_frozen BK273.out 0
                                          have hfz77_1 := blk_frozen BK273.out 1
                                          have hfz77_2 := blk_frozen BK273.out 2
                                          have hfz77_3 := blk_frozen BK273.out 3
                                          have hfz77_4 := blk_frozen BK273.out 4
                                          have hfz77_5 := blk_frozen BK273.out 5
                                          have hfz77_6 := blk_frozen BK273.out 6
                                          have hfz77_7 := blk_frozen BK273.out 7
                                          go_wp2_with (first | ((with_reducible refine gate_callee (f := 30) rfl ?_); refine goesL_ (some 110) rfl rfl Tryd.func30 (by kernel_rfl) rfl #[.slice none 0 0, .string a0_1] rfl (by (try simp only [List.map_toArray, List.map_cons, List.map_nil]); first | done | rfl | (simp only [List.length_drop, List.length_take]; rfl)) ?_; (with_reducible refine (spec_docText.calls (fun k_ => some k_ = (.slice none 0 0 : Value).ownBlock) (.slice none 0 0) ([] : List Int) a0_1 t328 w _ ?side1 ?side2 A75.out).mono ?_); (case side1 => repeat (first | (with_reducible first | exact HB.out | apply below_alloc | apply pw_below_drewN | apply below_drew1 | refine below_set ?_ GE273.out) | exact HB.out)); (case side2 => exact Kd.R_tight rfl HO_3.out); rintro e w78 ⟨v329, rfl, ho0, hb, hkp⟩; refine ⟨_, rfl, ?_⟩; have n0_ := Aside0.mk (blk_kept (by (with_reducible repeat (first | refine blk_drewN ?_ _ | refine blk_drew ?_ | refine blk_alloc ?_ _)); exact BK273.out) hkp (fun hs_ => (fun e_ => (Kd.R_ne HO_3.out BK273.out (by decide)) e_) hs_)); have n1_ := Aside0.mk (Kd.R_mono (ok' := fun k_ => True) ho0 (fun k_ hk_ => trivial)); have n2_ := Aside0.mk (hb); clear BK273; clear HB; clear HO_3; have BK273 := n0_; have HO330 := n1_; have HB := n2_; clear n0_ n1_ n2_; (try clear hb); (try clear hkp); (try clear ho0); have hcz79_0 : w78.cell? ⟨gb273, 0, none⟩ = some (.int .i64 a0_0) := (blk_cell BK273.out 0).trans rfl; have hcz79_1 : w78.cell? ⟨gb273, 1, none⟩ = some (.string a0_1) := (blk_cell BK273.out 1).trans rfl; have hcz79_2 : w78.cell? ⟨gb273, 2, none⟩ = some (.string a0_2) := (blk_cell BK273.out 2).trans rfl; have hcz79_3 : w78.cell? ⟨gb273, 3, none⟩ = some (.int .i64 a0_3) := (blk_cell BK273.out 3).trans rfl; have hcz79_4 : w78.cell? ⟨gb273, 4, none⟩ = some (.int .u64 a0_4) := (blk_cell BK273.out 4).trans rfl; have hcz79_5 : w78.cell? ⟨gb273, 5, none⟩ = some (.int .u64 a0_5) := (blk_cell BK273.out 5).trans rfl; have hcz79_6 : w78.cell? ⟨gb273, 6, none⟩ = some (.slice A0_6 l0_6.length c0_6) := (blk_cell BK273.out 6).trans rfl; have hcz79_7 : w78.cell? ⟨gb273, 7, none⟩ = some (.slice A0_7 l0_7.length c0_7) := (blk_cell BK273.out 7).trans rfl; have hfz79_0 := blk_frozen BK273.out 0; have hfz79_1 := blk_frozen BK273.out 1; have hfz79_2 := blk_frozen BK273.out 2; have hfz79_3 := blk_frozen BK273.out 3; have hfz79_4 := blk_frozen BK273.out 4; have hfz79_5 := blk_frozen BK273.out 5; have hfz79_6 := blk_frozen BK273.out 6; have hfz79_7 := blk_frozen BK273.out 7) | ((with_reducible refine gate_builtin (b := .append) (xs := #[.tmp 111, .tmp 113]) rfl ?_); at_builtin; refine Kd.R_append_rows (Kd.int .u8) (w0 := w) w.heap.size rfl (.tmp 111) (.tmp 113) 23 5 (.int .u8 0) 1 rfl Tryd.underlying23 info5 rfl (by decide) (by omega) v329 t328 l0_6 _ _ _ (fun _ => True) (fun _ => False) rfl rfl ?aO ?aR (fun _ _ h => h) (fun _ h => h.elim) ?aF ?aB ?aS ?aL ?_; (case aR => repeat (first | exact (Kd.C_below HR0_6.out HB.out) | (with_reducible refine Kd.C_alloc ?_ _) | (with_reducible refine Kd.C_drewN ?_ _) | (with_reducible refine Kd.C_drew ?_))); (case aB => exact (by repeat (first | (with_reducible first | exact HB.out | apply below_alloc | apply pw_below_drewN | apply below_drew1 | refine below_set ?_ GE273.out) | exact HB.out))); (case aF => exact (fun _ _ => trivial)); (case aO => exact (by (with_reducible repeat (first | apply Kd.R_alloc | apply Kd.R_drewN | apply Kd.R_drew)); exact HO330.out)); (case aS => exact (below_size (by repeat (first | (with_reducible first | exact HB.out | apply below_alloc | apply pw_below_drewN | apply below_drew1 | refine below_set ?_ GE273.out) | exact HB.out)))); (case aL => have := LMc76.out; omega); intro v332 w80 ho hb hg hat; rw [← Ny331.out] at ho; have n0_ := Aside0.mk (blk_grown (g := gb273) (o := .cells #[.int .i64 a0_0, .string a0_1, .string a0_2, .int .i64 a0_3, .int .u64 a0_4, .int .u64 a0_5, .slice A0_6 l0_6.length c0_6, .slice A0_7 l0_7.length c0_7] 26 (0, 0)) (by (with_reducible repeat (first | refine blk_drewN ?_ _ | refine blk_drew ?_ | refine blk_alloc ?_ _)); exact BK273.out) hg (Kd.R_ne HO330.out BK273.out (by decide))); have n1_ := Aside0.mk (hb); have n2_ := Aside0.mk (ho); clear BK273; clear HB; clear HO330; have BK273 := n0_; have HB := n1_; have HO333 := n2_; clear n0_ n1_ n2_; clear ho hb hg hat))
                                          go_ret
                                          exact ⟨_, by first | rfl | (simp [errW_none, errW_some] <;> rfl) | (simp [*, errW_none, errW_some] <;> rfl), by (with_reducible repeat (first | apply Kd.R_alloc | apply Kd.R_drewN | apply Kd.R_drew)); exact HO333.out, by repeat (first | (with_reducible first | exact HB.out | apply below_alloc | apply pw_below_drewN | apply below_drew1 | refine below_set ?_ GE273.out) | exact HB.out)⟩
                                      · rw [if_neg c76] at H
                                        exact absurd H (by simp)
                                    · rw [if_neg c74] at H
                                      have c74b0 : (a0_0 == 12) = false := beq_eq_false_iff_ne.mpr c74
                                      have c74b1 : (a0_0 != 12) = true := bne_iff_ne.mpr c74
                                      by_cases c81 : a0_0 = 15
                                      · rw [if_pos c81] at H
                                        have c81b0 : (a0_0 == 15) = true := beq_iff_eq.mpr c81
                                        have c81b1 : (a0_0 != 15) = false := bne_eq_false_iff_eq.mpr c81
                                        clear c81
                                        replace H := Option.bind_eq_some_iff.mp H
                                        obtain ⟨t334, A820, H⟩ := H
                                        replace H : ((spec_DocBytes.f kj52 l0_7).bind fun t337 => ((spec_DocInt32.f ([] : List Int) (wrap64 ((wrap64 (4 + (t334.length : Int))) + (t337.length : Int)))).bind fun t340 => (if t340.length + t334.length < 140737488355328 then ((some (t340 ++ t334 : List Int)).bind fun y343 => (if y343.length + t337.length < 140737488355328 then (some (y343 ++ t337)) else (none))) else (none)))) = some r := H
                                        have A82 := Aside0.mk A820
                                        clear A820
                                        replace H := Option.bind_eq_some_iff.mp H
                                        obtain ⟨t337, A830, H⟩ := H
                                        replace H : ((spec_DocInt32.f ([] : List Int) (wrap64 ((wrap64 (4 + (t334.length : Int))) + (t337.length : Int)))).bind fun t340 => (if t340.length + t334.length < 140737488355328 then ((some (t340 ++ t334 : List Int)).bind fun y343 => (if y343.length + t337.length < 140737488355328 then (some (y343 ++ t337)) else (none))) else (none))) = some r := H
                                        have A83 := Aside0.mk A830
                                        clear A830
                                        replace H := Option.bind_eq_some_iff.mp H
                                        obtain ⟨t340, A840, H⟩ := H
                                        replace H : (if t340.length + t334.length < 140737488355328 then ((some (t340 ++ t334 : List Int)).bind fun y343 => (if y343.length + t337.length < 140737488355328 then (some (y343 ++ t337)) else (none))) else (none)) = some r := H
                                        have A84 := Aside0.mk A840
                                        clear A840
                                        by_cases c85 : t340.length + t334.length < 140737488355328
                                        · rw [if_pos c85] at H
                                          have LMc85 := Aside0.mk c85
                                          clear c85
                                          obtain ⟨y343, hy343⟩ : ∃ y_ : List Int, y_ = (t340 ++ t334) := ⟨_, rfl⟩
                                          replace H : (if y343.length + t337.length < 140737488355328 then (some (y343 ++ t337)) else (none)) = some r := by first | (rw [hy343]; with_reducible exact H) | (have H2_ := (Option.bind_some _ _).symm.trans H; rw [hy343]; with_reducible exact H2_) | (have H2_ := (Option.bind_some _ _).symm.trans H; with_reducible exact H2_) | with_reducible exact H | (rw [hy343]; exact H) | exact H
                                          have Ny343 := Aside0.mk hy343
                                          clear hy343
                                          by_cases c86 : y343.length + t337.length < 140737488355328
                                          · rw [if_pos c86] at H
                                            have LMc86 := Aside0.mk c86
                                            clear c86
                                            obtain ⟨y346, hy346⟩ : ∃ y_ : List Int, y_ = (y343 ++ t337) := ⟨_, rfl⟩
                                            replace H : (some y346) = some r := by first | (rw [hy346]; with_reducible exact H) | (have H2_ := (Option.bind_some _ _).symm.trans H; rw [hy346]; with_reducible exact H2_) | (have H2_ := (Option.bind_some _ _).symm.trans H; with_reducible exact H2_) | with_reducible exact H | (rw [hy346]; exact H) | exact H
                                            have Ny346 := Aside0.mk hy346
                                            clear hy346
                                            as_aux_lemma =>
                                              obtain rfl := Option.some.inj H
                                              have hcz87_0 : wc.cell? ⟨gb273, 0, none⟩ = some (.int .i64 a0_0) := (blk_cell BK273.out 0).trans rfl
                                              have hcz87_1 : wc.cell? ⟨gb273, 1, none⟩ = some (.string a0_1) := (blk_cell BK273.out 1).trans rfl
                                              have hcz87_2 : wc.cell? ⟨gb273, 2, none⟩ = some (.string a0_2) := (blk_cell BK273.out 2).trans rfl
                                              have hcz87_3 : wc.cell? ⟨gb273, 3, none⟩ = some (.int .i64 a0_3) := (blk_cell BK273.out 3).trans rfl
                                              have hcz87_4 : wc.cell? ⟨gb273, 4, none⟩ = some (.int .u64 a0_4) := (blk_cell BK273.out 4).trans rfl
                                              have hcz87_5 : wc.cell? ⟨gb273, 5, none⟩ = some (.int .u64 a0_5) := (blk_cell BK273.out 5).trans rfl
                                              have hcz87_6 : wc.cell? ⟨gb273, 6, none⟩ = some (.slice A0_6 l0_6.length c0_6) := (blk_cell BK273.out 6).trans rfl
                                              have hcz87_7 : wc.cell? ⟨gb273, 7, none⟩ = some (.slice A0_7 l0_7.length c0_7) := (blk_cell BK273.out 7).trans rfl
                                              have hfz87_0 := blk_frozen BK273.out 0
                                              have hfz87_1 := blk_frozen BK273.out 1
                                              have hfz87_2 := blk_frozen BK273.out 2
                                              have hfz87_3 := blk_frozen BK273.out 3
                                              have hfz87_4 := blk_frozen BK273.out 4
                                              have hfz87_5 := blk_frozen BK273.out 5
                                              have hfz87_6 := blk_frozen BK273.out 6
                                              have hfz87_7 := blk_frozen BK273.out 7
                                              go_wp2_with (first | ((with_reducible refine gate_callee (f := 30) rfl ?_); refine goesL_ (some 119) rfl rfl Tryd.func30 (by kernel_rfl) rfl #[.slice none 0 0, .string a0_1] rfl (by (try simp only [List.map_toArray, List.map_cons, List.map_nil]); first | done | rfl | (simp only [List.length_drop, List.length_take]; rfl)) ?_; (refine (spec_docText.calls (fun k_ => some k_ = (.slice none 0 0 : Value).ownBlock) (.slice none 0 0) ([] : List Int) a0_1 t334 w _ ?side1 ?side2 A82.out).mono ?_); (case side1 => repeat (first | (with_reducible first | exact HB.out | apply below_alloc | apply pw_below_drewN | apply below_drew1 | refine below_set ?_ GE273.out) | exact HB.out)); (case side2 => exact Kd.R_nil _ _ _ _ _); rintro e w88 ⟨v335, rfl, ho0, hb, hkp⟩; refine ⟨_, rfl, ?_⟩; have n0_ := Aside0.mk (Kd.R_mono (ok' := fun k_ => some k_ ≠ (v335 : Value).ownBlock) (Kd.R_keptB (HO_3.out) hkp (fun k_ hk_ hs_ => (fun e_ => by simp [Value.ownBlock] at e_) hs_)) (fun k_ hk_ => fun e_ => Or.elim (ho0.1 k_ e_.symm) (fun hs_ => hk_.2.1 hs_) (fun hn_ => Nat.not_le.2 hk_.2.2 hn_))); have n1_ := Aside0.mk (blk_kept (by (with_reducible repeat (first | refine blk_drewN ?_ _ | refine blk_drew ?_ | refine blk_alloc ?_ _)); exact BK273.out) hkp (fun hs_ => (fun e_ => by simp [Value.ownBlock] at e_) hs_)); have n2_ := Aside0.mk (Kd.R_mono (ok' := fun k_ => some k_ ≠ (.slice none 0 0 : Value).ownBlock) ho0 (fun k_ hk_ => Or.elim hk_ (fun hs_ => absurd hs_ (by simp [Value.ownBlock])) (fun hn_ => (Kd.fresh' (Kd.R_lt (by (with_reducible repeat (first | apply Kd.R_alloc | apply Kd.R_drewN | apply Kd.R_drew)); exact HO_3.out)) k_ hn_)))); have n3_ := Aside0.mk (hb); clear HO_3; clear BK273; clear HB; have HO_3 := n0_; have BK273 := n1_; have HO336 := n2_; have HB := n3_; clear n0_ n1_ n2_ n3_; (try clear hb); (try clear hkp); (try clear ho0); have hcz89_0 : w88.cell? ⟨gb273, 0, none⟩ = some (.int .i64 a0_0) := (blk_cell BK273.out 0).trans rfl; have hcz89_1 : w88.cell? ⟨gb273, 1, none⟩ = some (.string a0_1) := (blk_cell BK273.out 1).trans rfl; have hcz89_2 : w88.cell? ⟨gb273, 2, none⟩ = some (.string a0_2) := (blk_cell BK273.out 2).trans rfl; have hcz89_3 : w88.cell? ⟨gb273, 3, none⟩ = some (.int .i64 a0_3) := (blk_cell BK273.out 3).trans rfl; have hcz89_4 : w88.cell? ⟨gb273, 4, none⟩ = some (.int .u64 a0_4) := (blk_cell BK273.out 4).trans rfl; have hcz89_5 : w88.cell? ⟨gb273, 5, none⟩ = some (.int .u64 a0_5) := (blk_cell BK273.out 5).trans rfl; have hcz89_6 : w88.cell? ⟨gb273, 6, none⟩ = some (.slice A0_6 l0_6.length c0_6) := (blk_cell BK273.out 6).trans rfl; have hcz89_7 : w88.cell? ⟨gb273, 7, none⟩ = some (.slice A0_7 l0_7.length c0_7) := (blk_cell BK273.out 7).trans rfl; have hfz89_0 := blk_frozen BK273.out 0; have hfz89_1 := blk_frozen BK273.out 1; have hfz89_2 := blk_frozen BK273.out 2; have hfz89_3 := blk_frozen BK273.out 3; have hfz89_4 := blk_frozen BK273.out 4; have hfz89_5 := blk_frozen BK273.out 5; have hfz89_6 := blk_frozen BK273.out 6; have hfz89_7 := blk_frozen BK273.out 7) | ((with_reducible refine gate_callee (f := 31) rfl ?_); refine goesL_ (some 122) rfl rfl Tryd.func31 (by kernel_rfl) rfl #[.slice A0_7 l0_7.length c0_7] rfl (by (try simp only [List.map_toArray, List.map_cons, List.map_nil]); first | done | rfl | (simp only [List.length_drop, List.length_take]; rfl)) ?_; (with_reducible refine (Grp_spec_DocBytes.get0 (ih kj52 (by have := HJ1.out; have := HJ9.out; have := HJ16.out; have := HJ52.out; omega)) _ _ l0_7 t337 _ ?side1 ?side2 A83.out).mono ?_); (case side1 => repeat (first | exact (Kd.C_below HR0_7.out HB.out) | (with_reducible refine Kd.C_alloc ?_ _) | (with_reducible refine Kd.C_drewN ?_ _) | (with_reducible refine Kd.C_drew ?_))); (case side2 => exact HC0_7.out); rintro e w90 ⟨v338, rfl, ho0, hb⟩; refine ⟨_, rfl, ?_⟩; have n0_ := Aside0.mk (Kd.R_elder' (by (with_reducible repeat (first | apply Kd.R_alloc | apply Kd.R_drewN | apply Kd.R_drew)); exact HO_3.out) (Kd.R_base ho0) hb); have n1_ := Aside0.mk (Kd.R_elder' (by (with_reducible repeat (first | apply Kd.R_alloc | apply Kd.R_drewN | apply Kd.R_drew)); exact HO336.out) (Kd.R_base ho0) hb); have n2_ := Aside0.mk (Kd.R_lower (Kd.R_new' (Kd.R_new' ho0 (Kd.R_lt (by (with_reducible repeat (first | apply Kd.R_alloc | apply Kd.R_drewN | apply Kd.R_drew)); exact HO_3.out))) (Kd.R_lt (by (with_reducible repeat (first | apply Kd.R_alloc | apply Kd.R_drewN | apply Kd.R_drew)); exact HO336.out))) (below_size (by repeat (first | (with_reducible first | exact HB.out | apply below_alloc | apply pw_below_drewN | apply below_drew1 | refine below_set ?_ GE273.out) | exact HB.out)))); have n3_ := Aside0.mk (blk_below (g := gb273) (o := .cells #[.int .i64 a0_0, .string a0_1, .string a0_2, .int .i64 a0_3, .int .u64 a0_4, .int .u64 a0_5, .slice A0_6 l0_6.length c0_6, .slice A0_7 l0_7.length c0_7] 26 (0, 0)) (by (with_reducible repeat (first | refine blk_drewN ?_ _ | refine blk_drew ?_ | refine blk_alloc ?_ _)); exact BK273.out) hb); have n4_ := Aside0.mk (below_step (by repeat (first | (with_reducible first | exact HB.out | apply below_alloc | apply pw_below_drewN | apply below_drew1 | refine below_set ?_ GE273.out) | exact HB.out)) hb); clear HO_3; clear HO336; clear BK273; clear HB; have HO_3 := n0_; have HO336 := n1_; have HO339 := n2_; have BK273 := n3_; have HB := n4_; clear n0_ n1_ n2_ n3_ n4_; (try clear hb); (try clear hb2); (try clear hk); (try clear hi); (try clear ho0); obtain ⟨Ao91, co91, eo91⟩ := Kd.R_slice HO336.out; subst eo91; obtain ⟨Ao92, co92, eo92⟩ := Kd.R_slice HO339.out; subst eo92) | ((with_reducible refine gate_callee (f := 32) rfl ?_); refine goesL_ (some 130) rfl rfl Tryd.func32 (by kernel_rfl) rfl #[.slice none 0 0, .int .i64 (wrap64 ((wrap64 (4 + (t334.length : Int))) + (t337.length : Int)))] rfl (by (try simp only [List.map_toArray, List.map_cons, List.map_nil]); first | done | rfl | (simp only [List.length_drop, List.length_take]; rfl)) ?_; (with_reducible refine (spec_DocInt32.calls (fun k_ => some k_ = (.slice none 0 0 : Value).ownBlock) (.slice none 0 0) ([] : List Int) (wrap64 ((wrap64 (4 + (t334.length : Int))) + (t337.length : Int))) t340 w _ ?side1 ?side2 A84.out).mono ?_); (case side1 => repeat (first | (with_reducible first | exact HB.out | apply below_alloc | apply pw_below_drewN | apply below_drew1 | refine below_set ?_ GE273.out) | exact HB.out)); (case side2 => exact Kd.R_tight rfl HO_3.out); rintro e w93 ⟨v341, rfl, ho0, hb, hkp⟩; refine ⟨_, rfl, ?_⟩; have n0_ := Aside0.mk (blk_kept (by (with_reducible repeat (first | refine blk_drewN ?_ _ | refine blk_drew ?_ | refine blk_alloc ?_ _)); exact BK273.out) hkp (fun hs_ => (fun e_ => (Kd.R_ne HO_3.out BK273.out (by decide)) e_) hs_)); have n1_ := Aside0.mk (Kd.R_mono (ok' := fun k_ => some k_ ≠ (.slice Ao92 t337.length co92 : Value).ownBlock ∧ some k_ ≠ (v341 : Value).ownBlock) (Kd.R_keptB (HO336.out) hkp (fun k_ hk_ hs_ => (hk_.1) hs_)) (fun k_ hk_ => ⟨hk_.1.2, fun e_ => Or.elim (ho0.1 k_ e_.symm) (fun hs_ => hk_.2.1 hs_) (fun hn_ => Nat.not_le.2 hk_.2.2 hn_)⟩)); have n2_ := Aside0.mk (Kd.R_mono (ok' := fun k_ => some k_ ≠ (.slice Ao91 t334.length co91 : Value).ownBlock ∧ some k_ ≠ (v341 : Value).ownBlock) (Kd.R_keptB (HO339.out) hkp (fun k_ hk_ hs_ => (hk_.1.2) hs_)) (fun k_ hk_ => ⟨hk_.1.2, fun e_ => Or.elim (ho0.1 k_ e_.symm) (fun hs_ => hk_.2.1 hs_) (fun hn_ => Nat.not_le.2 hk_.2.2 hn_)⟩)); have n3_ := Aside0.mk (Kd.R_mono (ok' := fun k_ => some k_ ≠ (.slice Ao91 t334.length co91 : Value).ownBlock ∧ some k_ ≠ (.slice Ao92 t337.length co92 : Value).ownBlock) ho0 (fun k_ hk_ => ⟨Or.elim hk_ (fun hs_ => fun e_ => (((HO336.out).1 k_ e_.symm).1) hs_) (fun hn_ => (Kd.fresh' (Kd.R_lt (by (with_reducible repeat (first | apply Kd.R_alloc | apply Kd.R_drewN | apply Kd.R_drew)); exact HO336.out)) k_ hn_)), Or.elim hk_ (fun hs_ => fun e_ => (((HO339.out).1 k_ e_.symm).1.2) hs_) (fun hn_ => (Kd.fresh' (Kd.R_lt (by (with_reducible repeat (first | apply Kd.R_alloc | apply Kd.R_drewN | apply Kd.R_drew)); exact HO339.out)) k_ hn_))⟩)); have n4_ := Aside0.mk (hb); clear BK273; clear HO336; clear HO339; clear HB; clear HO_3; have BK273 := n0_; have HO336 := n1_; have HO339 := n2_; have HO342 := n3_; have HB := n4_; clear n0_ n1_ n2_ n3_ n4_; (try clear hb); (try clear hkp); (try clear ho0)) | ((with_reducible refine gate_builtin (b := .append) (xs := #[.tmp 131, .tmp 132]) rfl ?_); at_builtin; refine Kd.R_append_rows (Kd.int .u8) (w0 := w) w.heap.size rfl (.tmp 131) (.tmp 132) 23 5 (.int .u8 0) 1 rfl Tryd.underlying23 info5 rfl (by decide) (by omega) v341 t340 t334 _ _ _ (fun k_ => some k_ ≠ (.slice Ao91 t334.length co91 : Value).ownBlock ∧ some k_ ≠ (.slice Ao92 t337.length co92 : Value).ownBlock) (fun _ => False) rfl rfl ?aO ?aR (fun _ _ h => h) (fun _ h => h.elim) ?aF ?aB ?aS ?aL ?_; (case aR => repeat (first | exact (Kd.R_reads' HO336.out).2.2 | (with_reducible refine Kd.C_alloc ?_ _) | (with_reducible refine Kd.C_drewN ?_ _) | (with_reducible refine Kd.C_drew ?_))); (case aB => exact (by repeat (first | (with_reducible first | exact HB.out | apply below_alloc | apply pw_below_drewN | apply below_drew1 | refine below_set ?_ GE273.out) | exact HB.out))); (case aF => exact (fun k_ hk => ⟨Kd.fresh' (Kd.R_lt (by (with_reducible repeat (first | apply Kd.R_alloc | apply Kd.R_drewN | apply Kd.R_drew)); exact HO336.out)) k_ hk, Kd.fresh' (Kd.R_lt (by (with_reducible repeat (first | apply Kd.R_alloc | apply Kd.R_drewN | apply Kd.R_drew)); exact HO339.out)) k_ hk⟩)); (case aO => exact (by (with_reducible repeat (first | apply Kd.R_alloc | apply Kd.R_drewN | apply Kd.R_drew)); exact HO342.out)); (case aS => exact (below_size (by repeat (first | (with_reducible first | exact HB.out | apply below_alloc | apply pw_below_drewN | apply below_drew1 | refine below_set ?_ GE273.out) | exact HB.out)))); (case aL => have := LMc85.out; omega); intro v344 w94 ho hb hg hat; rw [← Ny343.out] at ho; have n0_ := Aside0.mk (blk_grown (g := gb273) (o := .cells #[.int .i64 a0_0, .string a0_1, .string a0_2, .int .i64 a0_3, .int .u64 a0_4, .int .u64 a0_5, .slice A0_6 l0_6.length c0_6, .slice A0_7 l0_7.length c0_7] 26 (0, 0)) (by (with_reducible repeat (first | refine blk_drewN ?_ _ | refine blk_drew ?_ | refine blk_alloc ?_ _)); exact BK273.out) hg (Kd.R_ne HO342.out BK273.out (by decide))); have n1_ := Aside0.mk (Kd.R_after (ok := (fun k_ => some k_ ≠ (.slice Ao92 t337.length co92 : Value).ownBlock)) (by (with_reducible repeat (first | apply Kd.R_alloc | apply Kd.R_drewN | apply Kd.R_drew)); exact HO336.out) hg hat); have n2_ := Aside0.mk (Kd.R_after (ok := (fun k_ => some k_ ≠ (.slice Ao91 t334.length co91 : Value).ownBlock)) (by (with_reducible repeat (first | apply Kd.R_alloc | apply Kd.R_drewN | apply Kd.R_drew)); exact HO339.out) hg hat); have n3_ := Aside0.mk (hb); have n4_ := Aside0.mk (ho); clear BK273; clear HO336; clear HO339; clear HB; clear HO342; have BK273 := n0_; have HO336 := n1_; have HO339 := n2_; have HB := n3_; have HO345 := n4_; clear n0_ n1_ n2_ n3_ n4_; clear ho hb hg hat) | ((with_reducible refine gate_builtin (b := .append) (xs := #[.tmp 134, .tmp 135]) rfl ?_); at_builtin; refine Kd.R_append_rows (Kd.int .u8) (w0 := w) w.heap.size rfl (.tmp 134) (.tmp 135) 23 5 (.int .u8 0) 1 rfl Tryd.underlying23 info5 rfl (by decide) (by omega) v344 y343 t337 _ _ _ (fun k_ => some k_ ≠ (.slice Ao91 t334.length co91 : Value).ownBlock ∧ some k_ ≠ (.slice Ao92 t337.length co92 : Value).ownBlock) (fun _ => False) rfl rfl ?aO ?aR (fun _ _ h => h) (fun _ h => h.elim) ?aF ?aB ?aS ?aL ?_; (case aR => repeat (first | exact (Kd.R_reads' HO339.out).2.2 | (with_reducible refine Kd.C_alloc ?_ _) | (with_reducible refine Kd.C_drewN ?_ _) | (with_reducible refine Kd.C_drew ?_))); (case aB => exact (by repeat (first | (with_reducible first | exact HB.out | apply below_alloc | apply pw_below_drewN | apply below_drew1 | refine below_set ?_ GE273.out) | exact HB.out))); (case aF => exact (fun k_ hk => ⟨Kd.fresh' (Kd.R_lt (by (with_reducible repeat (first | apply Kd.R_alloc | apply Kd.R_drewN | apply Kd.R_drew)); exact HO336.out)) k_ hk, Kd.fresh' (Kd.R_lt (by (with_reducible repeat (first | apply Kd.R_alloc | apply Kd.R_drewN | apply Kd.R_drew)); exact HO339.out)) k_ hk⟩)); (case aO => exact (by (with_reducible repeat (first | apply Kd.R_alloc | apply Kd.R_drewN | apply Kd.R_drew)); exact HO345.out)); (case aS => exact (below_size (by repeat (first | (with_reducible first | exact HB.out | apply below_alloc | apply pw_below_drewN | apply below_drew1 | refine below_set ?_ GE273.out) | exact HB.out)))); (case aL => have := LMc86.out; omega); intro v347 w95 ho hb hg hat; rw [← Ny346.out] at ho; have n0_ := Aside0.mk (blk_grown (g := gb273) (o := .cells #[.int .i64 a0_0, .string a0_1, .string a0_2, .int .i64 a0_3, .int .u64 a0_4, .int .u64 a0_5, .slice A0_6 l0_6.length c0_6, .slice A0_7 l0_7.length c0_7] 26 (0, 0)) (by (with_reducible repeat (first | refine blk_drewN ?_ _ | refine blk_drew ?_ | refine blk_alloc ?_ _)); exact BK273.out) hg (Kd.R_ne HO345.out BK273.out (by decide))); have n1_ := Aside0.mk (Kd.R_after (ok := (fun k_ => some k_ ≠ (.slice Ao92 t337.length co92 : Value).ownBlock)) (by (with_reducible repeat (first | apply Kd.R_alloc | apply Kd.R_drewN | apply Kd.R_drew)); exact HO336.out) hg hat); have n2_ := Aside0.mk (Kd.R_after (ok := (fun k_ => some k_ ≠ (.slice Ao91 t334.length co91 : Value).ownBlock)) (by (with_reducible repeat (first | apply Kd.R_alloc | apply Kd.R_drewN | apply Kd.R_drew)); exact HO339.out) hg hat); have n3_ := Aside0.mk (hb); have n4_ := Aside0.mk (ho); clear BK273; clear HO336; clear HO339; clear HB; clear HO345; have BK273 := n0_; have HO336 := n1_; have HO339 := n2_; have HB := n3_; have HO348 := n4_; clear n0_ n1_ n2_ n3_ n4_; clear ho hb hg hat))
                                              go_ret
                                              exact ⟨_, by first | rfl | (simp [errW_none, errW_some] <;> rfl) | (simp [*, errW_none, errW_some] <;> rfl), by (with_reducible repeat (first | apply Kd.R_alloc | apply Kd.R_drewN | apply Kd.R_drew)); exact Kd.R_mono HO348.out (fun _ hk => trivial), by repeat (first | (with_reducible first | exact HB.out | apply below_alloc | apply pw_below_drewN | apply below_drew1 | refine below_set ?_ GE273.out) | exact HB.out)⟩
                                          · rw [if_neg c86] at H
                                            exact absurd H (by simp)
                                        · rw [if_neg c85] at H
                                          exact absurd H (by simp)
                                      · rw [if_neg c81] at H
                                        have c81b0 : (a0_0 == 15) = false := beq_eq_false_iff_ne.mpr c81
                                        have c81b1 : (a0_0 != 15) = true := bne_iff_ne.mpr c81
                                        by_cases c96 : a0_0 = 19
                                        · rw [if_pos c96] at H
                                          have c96b0 : (a0_0 == 19) = true := beq_iff_eq.mpr c96
                                          have c96b1 : (a0_0 != 19) = false := bne_eq_false_iff_eq.mpr c96
                                          clear c96
                                          replace H := Option.bind_eq_some_iff.mp H
                                          obtain ⟨t349, A970, H⟩ := H
                                          replace H : ((spec_DocInt64.f kj52 t349 a0_5).bind fun t352 => (some t352)) = some r := H
                                          have A97 := Aside0.mk A970
                                          clear A970
                                          replace H := Option.bind_eq_some_iff.mp H
                                          obtain ⟨t352, A980, H⟩ := H
                                          replace H : (some t352) = some r := H
                                          have A98 := Aside0.mk A980
                                          clear A980
                                          as_aux_lemma =>
                                            obtain rfl := Option.some.inj H
                                            have hcz99_0 : wc.cell? ⟨gb273, 0, none⟩ = some (.int .i64 a0_0) := (blk_cell BK273.out 0).trans rfl
                                            have hcz99_1 : wc.cell? ⟨gb273, 1, none⟩ = some (.string a0_1) := (blk_cell BK273.out 1).trans rfl
                                            have hcz99_2 : wc.cell? ⟨gb273, 2, none⟩ = some (.string a0_2) := (blk_cell BK273.out 2).trans rfl
                                            have hcz99_3 : wc.cell? ⟨gb273, 3, none⟩ = some (.int .i64 a0_3) := (blk_cell BK273.out 3).trans rfl
                                            have hcz99_4 : wc.cell? ⟨gb273, 4, none⟩ = some (.int .u64 a0_4) := (blk_cell BK273.out 4).trans rfl
                                            have hcz99_5 : wc.cell? ⟨gb273, 5, none⟩ = some (.int .u64 a0_5) := (blk_cell BK273.out 5).trans rfl
                                            have hcz99_6 : wc.cell? ⟨gb273, 6, none⟩ = some (.slice A0_6 l0_6.length c0_6) := (blk_cell BK273.out 6).trans rfl
                                            have hcz99_7 : wc.cell? ⟨gb273, 7, none⟩ = some (.slice A0_7 l0_7.length c0_7) := (blk_cell BK273.out 7).trans rfl
                                            have hfz99_0 := blk_frozen BK273.out 0
                                            have hfz99_1 := blk_frozen BK273.out 1
                                            have hfz99_2 := blk_frozen BK273.out 2
                                            have hfz99_3 := blk_frozen BK273.out 3
                                            have hfz99_4 := blk_frozen BK273.out 4
                                            have hfz99_5 := blk_frozen BK273.out 5
                                            have hfz99_6 := blk_frozen BK273.out 6
                                            have hfz99_7 := blk_frozen BK273.out 7
                                            go_wp2_with (first | ((with_reducible refine gate_callee (f := 29) rfl ?_); refine goesL_ (some 142) rfl rfl Tryd.func29 (by kernel_rfl) rfl #[.slice none 0 0, .int .u64 a0_4] rfl (by (try simp only [List.map_toArray, List.map_cons, List.map_nil]); first | done | rfl | (simp only [List.length_drop, List.length_take]; rfl)) ?_; (with_reducible refine (spec_DocInt64.calls kj52 (fun k_ => some k_ = (.slice none 0 0 : Value).ownBlock) (.slice none 0 0) ([] : List Int) a0_4 t349 w _ ?side1 ?side2 A97.out).mono ?_); (case side1 => repeat (first | (with_reducible first | exact HB.out | apply below_alloc | apply pw_below_drewN | apply below_drew1 | refine below_set ?_ GE273.out) | exact HB.out)); (case side2 => exact Kd.R_tight rfl HO_3.out); rintro e w100 ⟨v350, rfl, ho0, hb, hkp⟩; refine ⟨_, rfl, ?_⟩; have n0_ := Aside0.mk (blk_kept (by (with_reducible repeat (first | refine blk_drewN ?_ _ | refine blk_drew ?_ | refine blk_alloc ?_ _)); exact BK273.out) hkp (fun hs_ => (fun e_ => (Kd.R_ne HO_3.out BK273.out (by decide)) e_) hs_)); have n1_ := Aside0.mk (Kd.R_mono (ok' := fun k_ => True) ho0 (fun k_ hk_ => trivial)); have n2_ := Aside0.mk (hb); clear BK273; clear HB; clear HO_3; have BK273 := n0_; have HO351 := n1_; have HB := n2_; clear n0_ n1_ n2_; (try clear hb); (try clear hkp); (try clear ho0); have hcz101_0 : w100.cell? ⟨gb273, 0, none⟩ = some (.int .i64 a0_0) := (blk_cell BK273.out 0).trans rfl; have hcz101_1 : w100.cell? ⟨gb273, 1, none⟩ = some (.string a0_1) := (blk_cell BK273.out 1).trans rfl; have hcz101_2 : w100.cell? ⟨gb273, 2, none⟩ = some (.string a0_2) := (blk_cell BK273.out 2).trans rfl; have hcz101_3 : w100.cell? ⟨gb273, 3, none⟩ = some (.int .i64 a0_3) := (blk_cell BK273.out 3).trans rfl; have hcz101_4 : w100.cell? ⟨gb273, 4, none⟩ = some (.int .u64 a0_4) := (blk_cell BK273.out 4).trans rfl; have hcz101_5 : w100.cell? ⟨gb273, 5, none⟩ = some (.int .u64 a0_5) := (blk_cell BK273.out 5).trans rfl; have hcz101_6 : w100.cell? ⟨gb273, 6, none⟩ = some (.slice A0_6 l0_6.length c0_6) := (blk_cell BK273.out 6).trans rfl; have hcz101_7 : w100.cell? ⟨gb273, 7, none⟩ = some (.slice A0_7 l0_7.length c0_7) := (blk_cell BK273.out 7).trans rfl; have hfz101_0 := blk_frozen BK273.out 0; have hfz101_1 := blk_frozen BK273.out 1; have hfz101_2 := blk_frozen BK273.out 2; have hfz101_3 := blk_frozen BK273.out 3; have hfz101_4 := blk_frozen BK273.out 4; have hfz101_5 := blk_frozen BK273.out 5; have hfz101_6 := blk_frozen BK273.out 6; have hfz101_7 := blk_frozen BK273.out 7; obtain ⟨Ao102, co102, eo102⟩ := Kd.R_slice HO351.out; subst eo102) | ((with_reducible refine gate_callee (f := 29) rfl ?_); refine goesL_ (some 146) rfl rfl Tryd.func29 (by kernel_rfl) rfl #[.slice Ao102 t349.length co102, .int .u64 a0_5] rfl (by (try simp only [List.map_toArray, List.map_cons, List.map_nil]); first | done | rfl | (simp only [List.length_drop, List.length_take]; rfl)) ?_; (with_reducible refine (spec_DocInt64.calls kj52 (fun k_ => some k_ = (.slice Ao102 t349.length co102 : Value).ownBlock) (.slice Ao102 t349.length co102) t349 a0_5 t352 w _ ?side1 ?side2 A98.out).mono ?_); (case side1 => repeat (first | (with_reducible first | exact HB.out | apply below_alloc | apply pw_below_drewN | apply below_drew1 | refine below_set ?_ GE273.out) | exact HB.out)); (case side2 => exact Kd.R_tight rfl HO351.out); rintro e w103 ⟨v353, rfl, ho0, hb, hkp⟩; refine ⟨_, rfl, ?_⟩; have n0_ := Aside0.mk (blk_kept (by (with_reducible repeat (first | refine blk_drewN ?_ _ | refine blk_drew ?_ | refine blk_alloc ?_ _)); exact BK273.out) hkp (fun hs_ => (fun e_ => (Kd.R_ne HO351.out BK273.out (by decide)) e_) hs_)); have n1_ := Aside0.mk (Kd.R_mono (ok' := fun k_ => True) ho0 (fun k_ hk_ => trivial)); have n2_ := Aside0.mk (hb); clear BK273; clear HB; clear HO351; have BK273 := n0_; have HO354 := n1_; have HB := n2_; clear n0_ n1_ n2_; (try clear hb); (try clear hkp); (try clear ho0)))
                                            go_ret
                                            exact ⟨_, by first | rfl | (simp [errW_none, errW_some] <;> rfl) | (simp [*, errW_none, errW_some] <;> rfl), by (with_reducible repeat (first | apply Kd.R_alloc | apply Kd.R_drewN | apply Kd.R_drew)); exact HO354.out, by repeat (first | (with_reducible first | exact HB.out | apply below_alloc | apply pw_below_drewN | apply below_drew1 | refine below_set ?_ GE273.out) | exact HB.out)⟩
                                        · rw [if_neg c96] at H
                                          have c96b0 : (a0_0 == 19) = false := beq_eq_false_iff_ne.mpr c96
                                          have c96b1 : (a0_0 != 19) = true := bne_iff_ne.mpr c96
                                          as_aux_lemma =>
                                            obtain rfl := Option.some.inj H
                                            go_wp2
                                            go_ret
                                            exact ⟨_, by first | rfl | (simp [errW_none, errW_some] <;> rfl) | (simp [*, errW_none, errW_some] <;> rfl), by (with_reducible repeat (first | apply Kd.R_alloc | apply Kd.R_drewN | apply Kd.R_drew)); exact HO_3.out, by repeat (first | (with_reducible first | exact HB.out | apply below_alloc | apply pw_below_drewN | apply below_drew1 | refine below_set ?_ GE273.out) | exact HB.out)⟩

end Go.Proofs.YtndpbbgniflckaaDoor.PEl
