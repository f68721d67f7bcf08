import Derived.Test.YtbfhpjkahobgnaaGreatDoorPLox0
import Derived.Test.YtbfhpjkahobgnaaGreatDoorPLox11
import Derived.Test.YtbfhpjkahobgnaaGreatDoorPLox12
namespace Go.Proofs.YtbfhpjkahobgnaaGreatDoor.PLo
open Go.RowKit Go.Proofs.YtbfhpjkahobgnaaGreatDoorW.PrintWords Go.Proofs.YtbfhpjkahobgnaaGreatDoorW.PrintLast Go.Proofs.YtbfhpjkahobgnaaGreatDoorW.PrintMore
attribute [local go_sem] max2_int min2_int max_two min_two max_three min_three max_four min_four
set_option linter.unusedVariables false
set_option maxHeartbeats 8000000
set_option maxRecDepth 100000
set_option linter.unusedSimpArgs false
theorem spec_DocValue.step (k : Nat) (ih : ∀ j, j < k → Grp_spec_DocValue.Spec j) : ∀ (a0_0 : Int) (a0_1 : ByteArray) (a0_2 : ByteArray) (a0_3 : Int) (a0_4 : Int) (a0_5 : Int) (A0_6 : Option Addr) (c0_6 : Nat) (l0_6 : List Int) (A0_7 : Option Addr) (c0_7 : Nat) (l0_7 : List (S73)) (r : List Int) (w : World) (hr0_6 : Kd.C (Kd.int .u8) w A0_6 l0_6.length l0_6) (hc0_6 : l0_6.length ≤ c0_6) (hr0_7 : Kd.C k73 w A0_7 l0_7.length l0_7) (hc0_7 : l0_7.length ≤ c0_7) (h : spec_DocValue.f k a0_0 a0_1 a0_2 a0_3 a0_4 a0_5 l0_6 l0_7 = some r),
    Calls Tryz.prog 20 #[.agg #[.int .i64 a0_0, .string a0_1, .string a0_2, .int .i64 a0_3, .int .u64 a0_4, .int .u64 a0_5, .slice A0_6 l0_6.length c0_6, .slice A0_7 l0_7.length c0_7]] w fun e w' => ∃ v0_ : Value, e = .returned (v0_) ∧ Kd.R (Kd.int .u8) 5 w' w.heap.size (fun _ => True) v0_ r ∧ Below w.heap.size w w' := by
  intro a0_0 a0_1 a0_2 a0_3 a0_4 a0_5 A0_6 c0_6 l0_6 A0_7 c0_7 l0_7 r w hr0_6 hc0_6 hr0_7 hc0_7 h
  cases k with
  | zero => exact absurd h (by simp [spec_DocValue.f])
  | succ k =>
  simp only [spec_DocValue.f] at h
  have hu46 := Tryz.underlying46; have HR0_6 := Aside0.mk hr0_6; have HC0_6 := Aside0.mk hc0_6; clear hr0_6 hc0_6; have HR0_7 := Aside0.mk hr0_7; have HC0_7 := Aside0.mk hc0_7; clear hr0_7 hc0_7; have HB := Aside0.mk (Below.refl w.heap.size w); have H : (if a0_0 = 1 then (spec_DocValue.j0 k ([] : List Int) a0_0 (a0_0 == 1) a0_0 a0_1 a0_2 a0_3 a0_4 a0_5 l0_6 l0_7) else (spec_DocValue.j0 k ([] : List Int) a0_0 (a0_0 == 17) a0_0 a0_1 a0_2 a0_3 a0_4 a0_5 l0_6 l0_7)) = some r := h; clear h; have HC2 := Aside0.mk H; clear H
  go_enter Tryz.func20, Tryz.ntmps20
  go_upto_if 9 with (first | ((with_reducible refine gate_dst (N := 1) rfl ?_); refine box_event ?hg (N := 1) ?hd (cs := #[.int .i64 a0_0, .string a0_1, .string a0_2, .int .i64 a0_3, .int .u64 a0_4, .int .u64 a0_5, .slice A0_6 l0_6.length c0_6, .slice A0_7 l0_7.length c0_7]) (t := 46) ?hr ?_; (case hd => rfl); (case hg => rfl); (case hr => first | (go_simp; done) | (go_simp; rfl)); intro gb619 hg w3 hbox hb; have BK619 := Aside0.mk (hbox); have GE619 := Aside0.mk ((by rw [hg]; exact (below_size HW.zb) : w.heap.size ≤ gb619)); replace HB := Aside0.mk (below_step HW.zb hb); clear hb hbox hg; obtain ⟨hcz4_0, hcz4_1, hcz4_2, hcz4_3, hcz4_4, hcz4_5, hcz4_6, hcz4_7⟩ := HW.k8 BK619.out))
  (try simp only [Act.put, List.setIfInBounds_toArray, List.set_cons_zero, List.set_cons_succ])
  go_cut [9] (fun v9 wc => ∃ (kq : Nat) (x9_1 : Bool), v9 = .bool x9_1 ∧ Aside0 (spec_DocValue.j0 kq ([] : List Int) a0_0 x9_1 a0_0 a0_1 a0_2 a0_3 a0_4 a0_5 l0_6 l0_7 = some r) ∧ Aside0 (kq ≤ k) ∧ Aside0 (Kd.R (Kd.int .u8) 5 wc w.heap.size (fun _ => True) (.slice none 0 0) ([] : List Int)) ∧ Aside0 (wc.heap[gb619]? = some (.cells #[.int .i64 a0_0, .string a0_1, .string a0_2, .int .i64 a0_3, .int .u64 a0_4, .int .u64 a0_5, (.slice A0_6 l0_6.length c0_6), (.slice A0_7 l0_7.length c0_7)] 46 (0, 0))) ∧ Aside0 (Below w.heap.size w wc))
  case first =>
    have H := HC2.out; clear HC2
    by_cases c5 : a0_0 = 1
    · rw [if_pos c5] at H
      have c5b0 : (a0_0 == 1) = true := beq_iff_eq.mpr c5; have c5b1 : (a0_0 != 1) = false := bne_eq_false_iff_eq.mpr c5; clear c5
      (first | rw [c5b0] | (simp only [i64_w, i32_w]; rw [c5b0]) | skip)
      as_aux_lemma =>
        have H' := Aside0.mk H; clear H
        go_wp2
        go_meet
        case rel => exact ⟨_, ((a0_0 == 1)), HW.rs, H', ⟨by first | omega | exact Nat.le_refl _⟩, ⟨by first | exact Kd.R_nil _ _ _ _ _ | exact Kd.N_nil _ _ _ _ _ | exact Kd.V_nil _ _ _ _ _ | exact Kd.Q_nil _ _ _ _ _ | exact Kd.S_nil _ _ _ _ _⟩, ⟨by (with_reducible repeat (first | refine blk_drewN ?_ _ | refine blk_drew ?_ | refine blk_alloc ?_ _)); exact BK619.out⟩, ⟨HW.zb⟩⟩
    rw [if_neg c5] at H; have c5b0 : (a0_0 == 1) = false := beq_eq_false_iff_ne.mpr c5; have c5b1 : (a0_0 != 1) = true := bne_iff_ne.mpr c5
    (first | rw [c5b0] | (simp only [i64_w, i32_w]; rw [c5b0]) | skip)
    as_aux_lemma =>
      have H' := Aside0.mk H; clear H
      go_wp2
      go_meet
      case rel => exact ⟨_, ((a0_0 == 17)), HW.rs, H', ⟨by first | omega | exact Nat.le_refl _⟩, ⟨by first | exact Kd.R_nil _ _ _ _ _ | exact Kd.N_nil _ _ _ _ _ | exact Kd.V_nil _ _ _ _ _ | exact Kd.Q_nil _ _ _ _ _ | exact Kd.S_nil _ _ _ _ _⟩, ⟨by (with_reducible repeat (first | refine blk_drewN ?_ _ | refine blk_drew ?_ | refine blk_alloc ?_ _)); exact BK619.out⟩, ⟨HW.zb⟩⟩
  case rest =>
    clear HC2
    (try clear c2); (try clear p2); (try clear c5); (try clear c5b0); (try clear c5b1); (try clear hcz4_0 hcz4_1 hcz4_2 hcz4_3 hcz4_4 hcz4_5 hcz4_6 hcz4_7)
    obtain ⟨kq, x9_1, rfl, HA, HJ1, HO_3, BK619, HB⟩ := hcut
    cases kq with
    | zero => exact absurd HA.out (by simp [spec_DocValue.j0])
    | succ kj1 =>
      have H := HA.out; clear HA
      simp only [spec_DocValue.j0] at H
      by_cases c6 : x9_1 = true
      · subst c6
        have H1 : ((spec_DocInt64.f kj1 ([] : List Int) a0_4).bind fun t620 => (some t620)) = some r := by rw [if_pos rfl] at H; exact H
        clear H; have H := H1; clear H1; replace H := Option.bind_eq_some_iff.mp H; obtain ⟨t620, A70, H⟩ := H; replace H : (some t620) = some r := H; have A7 := Aside0.mk A70; clear A70
        as_aux_lemma =>
          obtain rfl := Option.some.inj H; obtain ⟨hcz8_0, hcz8_1, hcz8_2, hcz8_3, hcz8_4, hcz8_5, hcz8_6, hcz8_7⟩ := HW.k8 BK619.out
          go_wp2_with (first | ((with_reducible refine gate_callee (f := 37) rfl ?_); refine HW.gz (some 15) rfl rfl Tryz.func37 (by kernel_rfl) rfl #[.slice none 0 0, .int .u64 a0_4] rfl ?_; (with_reducible refine (spec_DocInt64.calls kj1 (fun k_ => some k_ = (.slice none 0 0 : Value).ownBlock) (.slice none 0 0) ([] : List Int) a0_4 t620 w _ ?side1 ?side2 A7.out).mono ?_); (case side1 => exact HW.zb); (case side2 => exact Kd.R_tight rfl HO_3.out); rintro e w9 ⟨v621, rfl, ho0, hb, hkp⟩; refine ⟨_, rfl, ?_⟩; have n0_ := Aside0.mk (blk_kept (HW.zB BK619.out) hkp (fun hs_ => (fun e_ => (Kd.R_ne HO_3.out BK619.out (by decide)) e_) hs_)); have n1_ := Aside0.mk (Kd.R_mono (ok' := fun k_ => True) ho0 (fun k_ hk_ => trivial)); have n2_ := Aside0.mk (hb); clear BK619; clear HB; clear HO_3; have BK619 := n0_; have HO622 := n1_; have HB := n2_; clear n0_ n1_ n2_; (try clear hb); (try clear hkp); (try clear ho0)))
          go_ret
          exact ⟨_, rfl, HW.zR HO622.out, HW.zb⟩
      replace c6 := Bool.eq_false_iff.mpr c6; subst c6
      have H1 : (if a0_0 = 2 then (spec_DocValue.j1 kj1 ([] : List Int) a0_0 (a0_0 == 2) a0_0 a0_1 a0_2 a0_3 a0_4 a0_5 l0_6 l0_7) else (if a0_0 = 13 then (spec_DocValue.j1 kj1 ([] : List Int) a0_0 (a0_0 == 13) a0_0 a0_1 a0_2 a0_3 a0_4 a0_5 l0_6 l0_7) else (spec_DocValue.j1 kj1 ([] : List Int) a0_0 (a0_0 == 14) a0_0 a0_1 a0_2 a0_3 a0_4 a0_5 l0_6 l0_7))) = some r := by rw [if_neg (show ¬ (false = true) by decide)] at H; exact H
      clear H; have H := H1; clear H1; have HC10 := Aside0.mk H; clear H
      go_upto_if 16 with (fail)
      go_cut [16] (fun v16 wc => ∃ (kq : Nat) (x16_9 : Bool), v16 = .bool x16_9 ∧ Aside0 (spec_DocValue.j1 kq ([] : List Int) a0_0 x16_9 a0_0 a0_1 a0_2 a0_3 a0_4 a0_5 l0_6 l0_7 = some r) ∧ Aside0 (kq ≤ kj1) ∧ Aside0 (Kd.R (Kd.int .u8) 5 wc w.heap.size (fun _ => True) (.slice none 0 0) ([] : List Int)) ∧ Aside0 (wc.heap[gb619]? = some (.cells #[.int .i64 a0_0, .string a0_1, .string a0_2, .int .i64 a0_3, .int .u64 a0_4, .int .u64 a0_5, (.slice A0_6 l0_6.length c0_6), (.slice A0_7 l0_7.length c0_7)] 46 (0, 0))) ∧ Aside0 (Below w.heap.size w wc))
      case first =>
        have H := HC10.out; clear HC10
        by_cases c11 : a0_0 = 2
        · rw [if_pos c11] at H
          have c11b0 : (a0_0 == 2) = true := beq_iff_eq.mpr c11; have c11b1 : (a0_0 != 2) = false := bne_eq_false_iff_eq.mpr c11; clear c11
          (first | rw [c11b0] | (simp only [i64_w, i32_w]; rw [c11b0]) | skip)
          as_aux_lemma =>
            have H' := Aside0.mk H; clear H
            go_wp2
            go_meet
            case rel => exact ⟨_, ((a0_0 == 2)), HW.rs, H', ⟨by have := HJ1.out; first | omega | exact Nat.le_refl _⟩, ⟨HW.zR HO_3.out⟩, ⟨by (with_reducible repeat (first | refine blk_drewN ?_ _ | refine blk_drew ?_ | refine blk_alloc ?_ _)); exact BK619.out⟩, ⟨HW.zb⟩⟩
        rw [if_neg c11] at H; have c11b0 : (a0_0 == 2) = false := beq_eq_false_iff_ne.mpr c11; have c11b1 : (a0_0 != 2) = true := bne_iff_ne.mpr c11
        (first | rw [c11b0] | (simp only [i64_w, i32_w]; rw [c11b0]) | skip)
        by_cases c12 : a0_0 = 13
        · rw [if_pos c12] at H
          have c12b0 : (a0_0 == 13) = true := beq_iff_eq.mpr c12; have c12b1 : (a0_0 != 13) = false := bne_eq_false_iff_eq.mpr c12; clear c12
          as_aux_lemma =>
            have H' := Aside0.mk H; clear H
            go_wp2
            go_meet
            case rel => exact ⟨_, ((a0_0 == 13)), HW.rs, H', ⟨by have := HJ1.out; first | omega | exact Nat.le_refl _⟩, ⟨HW.zR HO_3.out⟩, ⟨by (with_reducible repeat (first | refine blk_drewN ?_ _ | refine blk_drew ?_ | refine blk_alloc ?_ _)); exact BK619.out⟩, ⟨HW.zb⟩⟩
        rw [if_neg c12] at H; have c12b0 : (a0_0 == 13) = false := beq_eq_false_iff_ne.mpr c12; have c12b1 : (a0_0 != 13) = true := bne_iff_ne.mpr c12
        as_aux_lemma =>
          have H' := Aside0.mk H; clear H
          go_wp2
          go_meet
          case rel => exact ⟨_, ((a0_0 == 14)), HW.rs, H', ⟨by have := HJ1.out; first | omega | exact Nat.le_refl _⟩, ⟨HW.zR HO_3.out⟩, ⟨by (with_reducible repeat (first | refine blk_drewN ?_ _ | refine blk_drew ?_ | refine blk_alloc ?_ _)); exact BK619.out⟩, ⟨HW.zb⟩⟩
      case rest =>
        clear HC10
        (try clear c1); (try clear c2); (try clear p2); (try clear c3); (try clear c5); (try clear c5b0); (try clear c5b1); (try clear c6); (try clear c11); (try clear c11b0); (try clear c11b1); (try clear c12); (try clear c12b0); (try clear c12b1); (try clear hcz4_0 hcz4_1 hcz4_2 hcz4_3 hcz4_4 hcz4_5 hcz4_6 hcz4_7); (try clear hcz8_0 hcz8_1 hcz8_2 hcz8_3 hcz8_4 hcz8_5 hcz8_6 hcz8_7); (try clear p2)
        obtain ⟨kq, x16_9, rfl, HA, HJ9, HO_3, BK619, HB⟩ := hcut
        cases kq with
        | zero => exact absurd HA.out (by simp [spec_DocValue.j1])
        | succ kj9 =>
          have H := HA.out; clear HA
          simp only [spec_DocValue.j1] at H
          by_cases c13 : x16_9 = true
          · subst c13
            have H1 : ((spec_docText.f ([] : List Int) a0_1).bind fun t623 => (some t623)) = some r := by rw [if_pos rfl] at H; exact H
            clear H; have H := H1; clear H1; replace H := Option.bind_eq_some_iff.mp H; obtain ⟨t623, A140, H⟩ := H; replace H : (some t623) = some r := H; have A14 := Aside0.mk A140; clear A140
            as_aux_lemma =>
              obtain rfl := Option.some.inj H; obtain ⟨hcz15_0, hcz15_1, hcz15_2, hcz15_3, hcz15_4, hcz15_5, hcz15_6, hcz15_7⟩ := HW.k8 BK619.out
              go_wp2_with (first | ((with_reducible refine gate_callee (f := 38) rfl ?_); refine HW.gz (some 23) rfl rfl Tryz.func38 (by kernel_rfl) rfl #[.slice none 0 0, .string a0_1] rfl ?_; (with_reducible refine (spec_docText.calls (fun k_ => some k_ = (.slice none 0 0 : Value).ownBlock) (.slice none 0 0) ([] : List Int) a0_1 t623 w _ ?side1 ?side2 A14.out).mono ?_); (case side1 => exact HW.zb); (case side2 => exact Kd.R_tight rfl HO_3.out); rintro e w16 ⟨v624, rfl, ho0, hb, hkp⟩; refine ⟨_, rfl, ?_⟩; have n0_ := Aside0.mk (blk_kept (HW.zB BK619.out) hkp (fun hs_ => (fun e_ => (Kd.R_ne HO_3.out BK619.out (by decide)) e_) hs_)); have n1_ := Aside0.mk (Kd.R_mono (ok' := fun k_ => True) ho0 (fun k_ hk_ => trivial)); have n2_ := Aside0.mk (hb); clear BK619; clear HB; clear HO_3; have BK619 := n0_; have HO625 := n1_; have HB := n2_; clear n0_ n1_ n2_; (try clear hb); (try clear hkp); (try clear ho0)))
              go_ret
              exact ⟨_, rfl, HW.zR HO625.out, HW.zb⟩
          replace c13 := Bool.eq_false_iff.mpr c13; subst c13
          have H1 : (if a0_0 = 3 then (spec_DocValue.j2 kj9 ([] : List Int) a0_0 (a0_0 == 3) a0_0 a0_1 a0_2 a0_3 a0_4 a0_5 l0_6 l0_7) else (spec_DocValue.j2 kj9 ([] : List Int) a0_0 (a0_0 == 4) a0_0 a0_1 a0_2 a0_3 a0_4 a0_5 l0_6 l0_7)) = some r := by rw [if_neg (show ¬ (false = true) by decide)] at H; exact H
          clear H; have H := H1; clear H1; have HC17 := Aside0.mk H; clear H
          go_upto_if 24 with (fail)
          go_cut [24] (fun v24 wc => ∃ (kq : Nat) (x24_16 : Bool), v24 = .bool x24_16 ∧ Aside0 (spec_DocValue.j2 kq ([] : List Int) a0_0 x24_16 a0_0 a0_1 a0_2 a0_3 a0_4 a0_5 l0_6 l0_7 = some r) ∧ Aside0 (kq ≤ kj9) ∧ Aside0 (Kd.R (Kd.int .u8) 5 wc w.heap.size (fun _ => True) (.slice none 0 0) ([] : List Int)) ∧ Aside0 (wc.heap[gb619]? = some (.cells #[.int .i64 a0_0, .string a0_1, .string a0_2, .int .i64 a0_3, .int .u64 a0_4, .int .u64 a0_5, (.slice A0_6 l0_6.length c0_6), (.slice A0_7 l0_7.length c0_7)] 46 (0, 0))) ∧ Aside0 (Below w.heap.size w wc))
          case first =>
            have H := HC17.out; clear HC17
            by_cases c18 : a0_0 = 3
            · rw [if_pos c18] at H
              have c18b0 : (a0_0 == 3) = true := beq_iff_eq.mpr c18; have c18b1 : (a0_0 != 3) = false := bne_eq_false_iff_eq.mpr c18; clear c18
              (first | rw [c18b0] | (simp only [i64_w, i32_w]; rw [c18b0]) | skip)
              as_aux_lemma =>
                have H' := Aside0.mk H; clear H
                go_wp2
                go_meet
                case rel => exact ⟨_, ((a0_0 == 3)), HW.rs, H', ⟨by have := HJ1.out; have := HJ9.out; first | omega | exact Nat.le_refl _⟩, ⟨HW.zR HO_3.out⟩, ⟨by (with_reducible repeat (first | refine blk_drewN ?_ _ | refine blk_drew ?_ | refine blk_alloc ?_ _)); exact BK619.out⟩, ⟨HW.zb⟩⟩
            rw [if_neg c18] at H; have c18b0 : (a0_0 == 3) = false := beq_eq_false_iff_ne.mpr c18; have c18b1 : (a0_0 != 3) = true := bne_iff_ne.mpr c18
            (first | rw [c18b0] | (simp only [i64_w, i32_w]; rw [c18b0]) | skip)
            as_aux_lemma =>
              have H' := Aside0.mk H; clear H
              go_wp2
              go_meet
              case rel => exact ⟨_, ((a0_0 == 4)), HW.rs, H', ⟨by have := HJ1.out; have := HJ9.out; first | omega | exact Nat.le_refl _⟩, ⟨HW.zR HO_3.out⟩, ⟨by (with_reducible repeat (first | refine blk_drewN ?_ _ | refine blk_drew ?_ | refine blk_alloc ?_ _)); exact BK619.out⟩, ⟨HW.zb⟩⟩
          case rest =>
            clear HC17
            (try clear c1); (try clear c2); (try clear p2); (try clear c3); (try clear c5); (try clear c5b0); (try clear c5b1); (try clear c6); (try clear c11); (try clear c11b0); (try clear c11b1); (try clear c12); (try clear c12b0); (try clear c12b1); (try clear c13); (try clear c18); (try clear c18b0); (try clear c18b1); (try clear hcz15_0 hcz15_1 hcz15_2 hcz15_3 hcz15_4 hcz15_5 hcz15_6 hcz15_7); (try clear hcz4_0 hcz4_1 hcz4_2 hcz4_3 hcz4_4 hcz4_5 hcz4_6 hcz4_7); (try clear hcz8_0 hcz8_1 hcz8_2 hcz8_3 hcz8_4 hcz8_5 hcz8_6 hcz8_7); (try clear p2)
            obtain ⟨kq, x24_16, rfl, HA, HJ16, HO_3, BK619, HB⟩ := hcut
            cases kq with
            | zero => exact absurd HA.out (by simp [spec_DocValue.j2])
            | succ kj16 =>
              have H := HA.out; clear HA
              simp only [spec_DocValue.j2] at H
              by_cases c19 : x24_16 = true
              · subst c19
                have H1 : ((spec_DocBytes.f kj16 l0_7).bind fun t626 => (some t626)) = some r := by rw [if_pos rfl] at H; exact H
                clear H; have H := H1; clear H1; replace H := Option.bind_eq_some_iff.mp H; obtain ⟨t626, A200, H⟩ := H; replace H : (some t626) = some r := H; have A20 := Aside0.mk A200; clear A200
                as_aux_lemma =>
                  obtain rfl := Option.some.inj H; obtain ⟨hcz21_0, hcz21_1, hcz21_2, hcz21_3, hcz21_4, hcz21_5, hcz21_6, hcz21_7⟩ := HW.k8 BK619.out
                  go_wp2_with (first | ((with_reducible refine gate_callee (f := 17) rfl ?_); refine HW.gz (some 29) rfl rfl Tryz.func17 (by kernel_rfl) rfl #[.slice A0_7 l0_7.length c0_7] rfl ?_; (with_reducible refine (Grp_spec_DocValue.get2 (ih kj16 (by have := HJ1.out; have := HJ9.out; have := HJ16.out; omega)) _ _ l0_7 t626 _ ?side1 ?side2 A20.out).mono ?_); (case side1 => repeat (first | exact (Kd.C_below HR0_7.out HB.out) | (with_reducible refine Kd.C_alloc ?_ _) | (with_reducible refine Kd.C_drewN ?_ _) | (with_reducible refine Kd.C_drew ?_))); (case side2 => exact HC0_7.out); rintro e w22 ⟨v627, rfl, ho0, hb⟩; refine ⟨_, rfl, ?_⟩; have HO628 := Aside0.mk (Kd.R_lower (Kd.R_new' ho0 (Kd.R_lt (HW.zR HO_3.out))) (below_size HW.zb)); replace HO_3 := Aside0.mk (Kd.R_elder' (HW.zR HO_3.out) (Kd.R_base ho0) hb); replace BK619 := Aside0.mk (blk_below (HW.zB BK619.out) hb); replace HB := Aside0.mk (below_step HW.zb hb); (try clear hb); (try clear ho0)))
                  go_ret
                  exact ⟨_, rfl, by (with_reducible repeat (first | apply Kd.R_alloc | apply Kd.R_drewN | apply Kd.R_drew)); exact Kd.R_mono HO628.out (fun _ hk => trivial), HW.zb⟩
              replace c19 := Bool.eq_false_iff.mpr c19; subst c19
              have H1 : (if a0_0 = 5 then (if a0_3 = 2 then ((spec_DocInt32.f ([] : List Int) (wrap64 ((l0_6.length : Int) + 4))).bind fun t629 => (if t629.length < 140737488355328 then ((spec_DocInt32.f (t629 ++ [2]) (l0_6.length : Int)).bind fun t635 => (if t635.length + l0_6.length < 140737488355328 then (some (t635 ++ l0_6)) else (none))) else (none))) else ((spec_DocInt32.f ([] : List Int) (l0_6.length : Int)).bind fun t641 => (if t641.length < 140737488355328 then ((some (t641 ++ [(a0_3) % 256] : List Int)).bind fun y644 => (if y644.length + l0_6.length < 140737488355328 then (some (y644 ++ l0_6)) else (none))) else (none)))) else (if a0_0 = 7 then (if ([] : List Int).length + l0_6.length < 140737488355328 then (some (([] : List Int) ++ l0_6)) else (none)) else (if a0_0 = 8 then (if ([] : List Int).length < 140737488355328 then (some (([] : List Int) ++ [(a0_3) % 256])) else (none)) else (if a0_0 = 9 then (spec_DocValue.j3 kj16 ([] : List Int) a0_0 (a0_0 == 9) a0_0 a0_1 a0_2 a0_3 a0_4 a0_5 l0_6 l0_7) else (spec_DocValue.j3 kj16 ([] : List Int) a0_0 (a0_0 == 18) a0_0 a0_1 a0_2 a0_3 a0_4 a0_5 l0_6 l0_7))))) = some r := by rw [if_neg (show ¬ (false = true) by decide)] at H; exact H
              clear H; have H := H1; clear H1
              by_cases c23 : a0_0 = 5
              · rw [if_pos c23] at H
                have c23b0 : (a0_0 == 5) = true := beq_iff_eq.mpr c23; have c23b1 : (a0_0 != 5) = false := bne_eq_false_iff_eq.mpr c23; clear c23
                by_cases c24 : a0_3 = 2
                rotate_left
                · rw [if_neg c24] at H
                  have c24b0 : (a0_3 == 2) = false := beq_eq_false_iff_ne.mpr c24; have c24b1 : (a0_3 != 2) = true := bne_iff_ne.mpr c24; replace H := Option.bind_eq_some_iff.mp H; obtain ⟨t641, A360, H⟩ := H; replace H : (if t641.length < 140737488355328 then ((some (t641 ++ [(a0_3) % 256] : List Int)).bind fun y644 => (if y644.length + l0_6.length < 140737488355328 then (some (y644 ++ l0_6)) else (none))) else (none)) = some r := H; have A36 := Aside0.mk A360; clear A360
                  by_cases c37 : t641.length < 140737488355328
                  rotate_left
                  · rw [if_neg c37] at H
                    exact absurd H (by simp)
                  rw [if_pos c37] at H; have LMc37 := Aside0.mk c37; clear c37; obtain ⟨y644, hy644⟩ : ∃ y_ : List Int, y_ = (t641 ++ [(a0_3) % 256]) := ⟨_, rfl⟩
                  replace H : (if y644.length + l0_6.length < 140737488355328 then (some (y644 ++ l0_6)) else (none)) = some r := by (try rw [hy644]); exact HW.rp
                  have Ny644 := Aside0.mk hy644; clear hy644
                  by_cases c38 : y644.length + l0_6.length < 140737488355328
                  rotate_left
                  · rw [if_neg c38] at H
                    exact absurd H (by simp)
                  rw [if_pos c38] at H; have LMc38 := Aside0.mk c38; clear c38; obtain ⟨y647, hy647⟩ : ∃ y_ : List Int, y_ = (y644 ++ l0_6) := ⟨_, rfl⟩
                  replace H : (some y647) = some r := by (try rw [hy647]); exact HW.rp
                  have Ny647 := Aside0.mk hy647; clear hy647
                  as_aux_lemma =>
                    obtain rfl := Option.some.inj H; obtain ⟨hcz39_0, hcz39_1, hcz39_2, hcz39_3, hcz39_4, hcz39_5, hcz39_6, hcz39_7⟩ := HW.k8 BK619.out
                    go_wp2_with (first | ((with_reducible refine gate_callee (f := 34) rfl ?_); refine HW.gz (some 50) rfl rfl Tryz.func34 (by kernel_rfl) rfl #[.slice none 0 0, .int .i64 (l0_6.length : Int)] rfl ?_; (with_reducible refine (spec_DocInt32.calls (fun k_ => some k_ = (.slice none 0 0 : Value).ownBlock) (.slice none 0 0) ([] : List Int) (l0_6.length : Int) t641 w _ ?side1 ?side2 A36.out).mono ?_); (case side1 => exact HW.zb); (case side2 => exact Kd.R_tight rfl HO_3.out); rintro e w40 ⟨v642, rfl, ho0, hb, hkp⟩; refine ⟨_, rfl, ?_⟩; have n0_ := Aside0.mk (blk_kept (HW.zB BK619.out) hkp (fun hs_ => (fun e_ => (Kd.R_ne HO_3.out BK619.out (by decide)) e_) hs_)); have n1_ := Aside0.mk (Kd.R_mono (ok' := fun k_ => True) ho0 (fun k_ hk_ => trivial)); have n2_ := Aside0.mk (hb); clear BK619; clear HB; clear HO_3; have BK619 := n0_; have HO643 := n1_; have HB := n2_; clear n0_ n1_ n2_; (try clear hb); (try clear hkp); (try clear ho0); obtain ⟨hcz41_0, hcz41_1, hcz41_2, hcz41_3, hcz41_4, hcz41_5, hcz41_6, hcz41_7⟩ := HW.k8 BK619.out) | ((with_reducible refine gate_builtin (b := .append) (xs := #[.tmp 51, .tmp 55]) rfl ?_); at_builtin; refine Kd.R_append (Kd.int .u8) (w0 := w) w.heap.size rfl (.tmp 51) (.tmp 55) 22 5 (.int .u8 0) 1 rfl Tryz.underlying22 info5 rfl (by decide) (by omega) v642 t641 ((a0_3) % 256) [.int .u8 ((a0_3) % 256)] (fun _ => True) (fun _ => False) rfl rfl ?aP (fun _ hk => hk.elim) ?aF ?aO ?aB ?aS ?aL ?_; (case aP => exact rfl); (case aB => exact HW.zb); (case aF => exact (fun _ _ => trivial)); (case aO => exact (HW.zR HO643.out)); (case aS => exact (below_size HW.zb)); (case aL => have := LMc37.out; omega); intro v645 w42 ho hb hg hat; rw [← Ny644.out] at ho; have n0_ := Aside0.mk (blk_grown (g := gb619) (o := .cells #[.int .i64 a0_0, .string a0_1, .string a0_2, .int .i64 a0_3, .int .u64 a0_4, .int .u64 a0_5, .slice A0_6 l0_6.length c0_6, .slice A0_7 l0_7.length c0_7] 46 (0, 0)) (HW.zB BK619.out) hg (Kd.R_ne HO643.out BK619.out (by decide))); have n1_ := Aside0.mk (hb); have n2_ := Aside0.mk (ho); clear BK619; clear HB; clear HO643; have BK619 := n0_; have HB := n1_; have HO646 := n2_; clear n0_ n1_ n2_; clear ho hb hg hat; obtain ⟨hcz43_0, hcz43_1, hcz43_2, hcz43_3, hcz43_4, hcz43_5, hcz43_6, hcz43_7⟩ := HW.k8 BK619.out) | ((with_reducible refine gate_builtin (b := .append) (xs := #[.tmp 57, .tmp 59]) rfl ?_); at_builtin; refine Kd.R_append_rows (Kd.int .u8) (w0 := w) w.heap.size rfl (.tmp 57) (.tmp 59) 22 5 (.int .u8 0) 1 rfl Tryz.underlying22 info5 rfl (by decide) (by omega) v645 y644 l0_6 _ _ _ (fun _ => True) (fun _ => False) rfl rfl ?aO ?aR (fun _ _ h => h) (fun _ h => h.elim) ?aF ?aB ?aS ?aL ?_; (case aR => repeat (first | exact (Kd.C_below HR0_6.out HB.out) | (with_reducible refine Kd.C_alloc ?_ _) | (with_reducible refine Kd.C_drewN ?_ _) | (with_reducible refine Kd.C_drew ?_))); (case aB => exact HW.zb); (case aF => exact (fun _ _ => trivial)); (case aO => exact (HW.zR HO646.out)); (case aS => exact (below_size HW.zb)); (case aL => have := LMc38.out; omega); intro v648 w44 ho hb hg hat; rw [← Ny647.out] at ho; have n0_ := Aside0.mk (blk_grown (g := gb619) (o := .cells #[.int .i64 a0_0, .string a0_1, .string a0_2, .int .i64 a0_3, .int .u64 a0_4, .int .u64 a0_5, .slice A0_6 l0_6.length c0_6, .slice A0_7 l0_7.length c0_7] 46 (0, 0)) (HW.zB BK619.out) hg (Kd.R_ne HO646.out BK619.out (by decide))); have n1_ := Aside0.mk (hb); have n2_ := Aside0.mk (ho); clear BK619; clear HB; clear HO646; have BK619 := n0_; have HB := n1_; have HO649 := n2_; clear n0_ n1_ n2_; clear ho hb hg hat))
                    go_ret
                    exact ⟨_, rfl, HW.zR HO649.out, HW.zb⟩
                rw [if_pos c24] at H; have c24b0 : (a0_3 == 2) = true := beq_iff_eq.mpr c24; have c24b1 : (a0_3 != 2) = false := bne_eq_false_iff_eq.mpr c24; clear c24; replace H := Option.bind_eq_some_iff.mp H; obtain ⟨t629, A250, H⟩ := H; replace H : (if t629.length < 140737488355328 then ((spec_DocInt32.f (t629 ++ [2]) (l0_6.length : Int)).bind fun t635 => (if t635.length + l0_6.length < 140737488355328 then (some (t635 ++ l0_6)) else (none))) else (none)) = some r := H; have A25 := Aside0.mk A250; clear A250
                by_cases c26 : t629.length < 140737488355328
                rotate_left
                · rw [if_neg c26] at H
                  exact absurd H (by simp)
                rw [if_pos c26] at H; have LMc26 := Aside0.mk c26; clear c26; obtain ⟨y632, hy632⟩ : ∃ y_ : List Int, y_ = (t629 ++ [2]) := ⟨_, rfl⟩
                replace H : ((spec_DocInt32.f y632 (l0_6.length : Int)).bind fun t635 => (if t635.length + l0_6.length < 140737488355328 then (some (t635 ++ l0_6)) else (none))) = some r := by (try rw [hy632]); exact HW.rp
                have Ny632 := Aside0.mk hy632; clear hy632; replace H := Option.bind_eq_some_iff.mp H; obtain ⟨t635, A270, H⟩ := H; replace H : (if t635.length + l0_6.length < 140737488355328 then (some (t635 ++ l0_6)) else (none)) = some r := H; have A27 := Aside0.mk A270; clear A270
                by_cases c28 : t635.length + l0_6.length < 140737488355328
                rotate_left
                · rw [if_neg c28] at H
                  exact absurd H (by simp)
                rw [if_pos c28] at H; have LMc28 := Aside0.mk c28; clear c28; obtain ⟨y638, hy638⟩ : ∃ y_ : List Int, y_ = (t635 ++ l0_6) := ⟨_, rfl⟩
                replace H : (some y638) = some r := by (try rw [hy638]); exact HW.rp
                have Ny638 := Aside0.mk hy638; clear hy638
                as_aux_lemma =>
                  obtain rfl := Option.some.inj H; obtain ⟨hcz29_0, hcz29_1, hcz29_2, hcz29_3, hcz29_4, hcz29_5, hcz29_6, hcz29_7⟩ := HW.k8 BK619.out
                  go_wp2_with (first | ((with_reducible refine gate_callee (f := 34) rfl ?_); refine HW.gz (some 41) rfl rfl Tryz.func34 (by kernel_rfl) rfl #[.slice none 0 0, .int .i64 (wrap64 ((l0_6.length : Int) + 4))] rfl ?_; (with_reducible refine (spec_DocInt32.calls (fun k_ => some k_ = (.slice none 0 0 : Value).ownBlock) (.slice none 0 0) ([] : List Int) (wrap64 ((l0_6.length : Int) + 4)) t629 w _ ?side1 ?side2 A25.out).mono ?_); (case side1 => exact HW.zb); (case side2 => exact Kd.R_tight rfl HO_3.out); rintro e w30 ⟨v630, rfl, ho0, hb, hkp⟩; refine ⟨_, rfl, ?_⟩; have n0_ := Aside0.mk (blk_kept (HW.zB BK619.out) hkp (fun hs_ => (fun e_ => (Kd.R_ne HO_3.out BK619.out (by decide)) e_) hs_)); have n1_ := Aside0.mk (Kd.R_mono (ok' := fun k_ => True) ho0 (fun k_ hk_ => trivial)); have n2_ := Aside0.mk (hb); clear BK619; clear HB; clear HO_3; have BK619 := n0_; have HO631 := n1_; have HB := n2_; clear n0_ n1_ n2_; (try clear hb); (try clear hkp); (try clear ho0)) | ((with_reducible refine gate_builtin (b := .append) (xs := #[.tmp 42, .tmp 43]) rfl ?_); at_builtin; refine Kd.R_append (Kd.int .u8) (w0 := w) w.heap.size rfl (.tmp 42) (.tmp 43) 22 5 (.int .u8 0) 1 rfl Tryz.underlying22 info5 rfl (by decide) (by omega) v630 t629 2 [.int .u8 2] (fun _ => True) (fun _ => False) rfl rfl ?aP (fun _ hk => hk.elim) ?aF ?aO ?aB ?aS ?aL ?_; (case aP => exact rfl); (case aB => exact HW.zb); (case aF => exact (fun _ _ => trivial)); (case aO => exact (HW.zR HO631.out)); (case aS => exact (below_size HW.zb)); (case aL => have := LMc26.out; omega); intro v633 w31 ho hb hg hat; rw [← Ny632.out] at ho; have n0_ := Aside0.mk (blk_grown (g := gb619) (o := .cells #[.int .i64 a0_0, .string a0_1, .string a0_2, .int .i64 a0_3, .int .u64 a0_4, .int .u64 a0_5, .slice A0_6 l0_6.length c0_6, .slice A0_7 l0_7.length c0_7] 46 (0, 0)) (HW.zB BK619.out) hg (Kd.R_ne HO631.out BK619.out (by decide))); have n1_ := Aside0.mk (hb); have n2_ := Aside0.mk (ho); clear BK619; clear HB; clear HO631; have BK619 := n0_; have HB := n1_; have HO634 := n2_; clear n0_ n1_ n2_; clear ho hb hg hat; obtain ⟨Ao32, co32, eo32⟩ := Kd.R_slice HO634.out; subst eo32) | ((with_reducible refine gate_callee (f := 34) rfl ?_); refine HW.gz (some 47) rfl rfl Tryz.func34 (by kernel_rfl) rfl #[.slice Ao32 y632.length co32, .int .i64 (l0_6.length : Int)] rfl ?_; (with_reducible refine (spec_DocInt32.calls (fun k_ => some k_ = (.slice Ao32 y632.length co32 : Value).ownBlock) (.slice Ao32 y632.length co32) y632 (l0_6.length : Int) t635 w _ ?side1 ?side2 A27.out).mono ?_); (case side1 => exact HW.zb); (case side2 => exact Kd.R_tight rfl HO634.out); rintro e w33 ⟨v636, rfl, ho0, hb, hkp⟩; refine ⟨_, rfl, ?_⟩; have n0_ := Aside0.mk (blk_kept (HW.zB BK619.out) hkp (fun hs_ => (fun e_ => (Kd.R_ne HO634.out BK619.out (by decide)) e_) hs_)); have n1_ := Aside0.mk (Kd.R_mono (ok' := fun k_ => True) ho0 (fun k_ hk_ => trivial)); have n2_ := Aside0.mk (hb); clear BK619; clear HB; clear HO634; have BK619 := n0_; have HO637 := n1_; have HB := n2_; clear n0_ n1_ n2_; (try clear hb); (try clear hkp); (try clear ho0); obtain ⟨hcz34_0, hcz34_1, hcz34_2, hcz34_3, hcz34_4, hcz34_5, hcz34_6, hcz34_7⟩ := HW.k8 BK619.out) | ((with_reducible refine gate_builtin (b := .append) (xs := #[.tmp 57, .tmp 59]) rfl ?_); at_builtin; refine Kd.R_append_rows (Kd.int .u8) (w0 := w) w.heap.size rfl (.tmp 57) (.tmp 59) 22 5 (.int .u8 0) 1 rfl Tryz.underlying22 info5 rfl (by decide) (by omega) v636 t635 l0_6 _ _ _ (fun _ => True) (fun _ => False) rfl rfl ?aO ?aR (fun _ _ h => h) (fun _ h => h.elim) ?aF ?aB ?aS ?aL ?_; (case aR => repeat (first | exact (Kd.C_below HR0_6.out HB.out) | (with_reducible refine Kd.C_alloc ?_ _) | (with_reducible refine Kd.C_drewN ?_ _) | (with_reducible refine Kd.C_drew ?_))); (case aB => exact HW.zb); (case aF => exact (fun _ _ => trivial)); (case aO => exact (HW.zR HO637.out)); (case aS => exact (below_size HW.zb)); (case aL => have := LMc28.out; omega); intro v639 w35 ho hb hg hat; rw [← Ny638.out] at ho; have n0_ := Aside0.mk (blk_grown (g := gb619) (o := .cells #[.int .i64 a0_0, .string a0_1, .string a0_2, .int .i64 a0_3, .int .u64 a0_4, .int .u64 a0_5, .slice A0_6 l0_6.length c0_6, .slice A0_7 l0_7.length c0_7] 46 (0, 0)) (HW.zB BK619.out) hg (Kd.R_ne HO637.out BK619.out (by decide))); have n1_ := Aside0.mk (hb); have n2_ := Aside0.mk (ho); clear BK619; clear HB; clear HO637; have BK619 := n0_; have HB := n1_; have HO640 := n2_; clear n0_ n1_ n2_; clear ho hb hg hat))
                  go_ret
                  exact ⟨_, rfl, HW.zR HO640.out, HW.zb⟩
              rw [if_neg c23] at H; have c23b0 : (a0_0 == 5) = false := beq_eq_false_iff_ne.mpr c23; have c23b1 : (a0_0 != 5) = true := bne_iff_ne.mpr c23
              by_cases c45 : a0_0 = 7
              · rw [if_pos c45] at H
                have c45b0 : (a0_0 == 7) = true := beq_iff_eq.mpr c45; have c45b1 : (a0_0 != 7) = false := bne_eq_false_iff_eq.mpr c45; clear c45
                by_cases c46 : ([] : List Int).length + l0_6.length < 140737488355328
                rotate_left
                · rw [if_neg c46] at H
                  exact absurd H (by simp)
                rw [if_pos c46] at H; have LMc46 := Aside0.mk c46; clear c46; obtain ⟨y650, hy650⟩ : ∃ y_ : List Int, y_ = (([] : List Int) ++ l0_6) := ⟨_, rfl⟩
                replace H : (some y650) = some r := by (try rw [hy650]); exact HW.rp
                have Ny650 := Aside0.mk hy650; clear hy650
                as_aux_lemma =>
                  obtain rfl := Option.some.inj H; obtain ⟨hcz47_0, hcz47_1, hcz47_2, hcz47_3, hcz47_4, hcz47_5, hcz47_6, hcz47_7⟩ := HW.k8 BK619.out
                  go_wp2_with (first | ((with_reducible refine gate_builtin (b := .append) (xs := #[.tmp 63, .tmp 65]) rfl ?_); at_builtin; refine Kd.R_append_rows (Kd.int .u8) (w0 := w) w.heap.size rfl (.tmp 63) (.tmp 65) 22 5 (.int .u8 0) 1 rfl Tryz.underlying22 info5 rfl (by decide) (by omega) (.slice none 0 0) ([] : List Int) l0_6 _ _ _ (fun _ => True) (fun _ => False) rfl rfl ?aO ?aR (fun _ _ h => h) (fun _ h => h.elim) ?aF ?aB ?aS ?aL ?_; (case aR => repeat (first | exact (Kd.C_below HR0_6.out HB.out) | (with_reducible refine Kd.C_alloc ?_ _) | (with_reducible refine Kd.C_drewN ?_ _) | (with_reducible refine Kd.C_drew ?_))); (case aB => exact HW.zb); (case aF => exact (fun _ _ => trivial)); (case aO => exact (HW.zR HO_3.out)); (case aS => exact (below_size HW.zb)); (case aL => have := LMc46.out; omega); intro v651 w48 ho hb hg hat; rw [← Ny650.out] at ho; have n0_ := Aside0.mk (blk_grown (g := gb619) (o := .cells #[.int .i64 a0_0, .string a0_1, .string a0_2, .int .i64 a0_3, .int .u64 a0_4, .int .u64 a0_5, .slice A0_6 l0_6.length c0_6, .slice A0_7 l0_7.length c0_7] 46 (0, 0)) (HW.zB BK619.out) hg (Kd.R_ne HO_3.out BK619.out (by decide))); have n1_ := Aside0.mk (hb); have n2_ := Aside0.mk (ho); clear BK619; clear HB; clear HO_3; have BK619 := n0_; have HB := n1_; have HO652 := n2_; clear n0_ n1_ n2_; clear ho hb hg hat))
                  go_ret
                  exact ⟨_, rfl, HW.zR HO652.out, HW.zb⟩
              rw [if_neg c45] at H; have c45b0 : (a0_0 == 7) = false := beq_eq_false_iff_ne.mpr c45; have c45b1 : (a0_0 != 7) = true := bne_iff_ne.mpr c45
              by_cases c49 : a0_0 = 8
              · rw [if_pos c49] at H
                have c49b0 : (a0_0 == 8) = true := beq_iff_eq.mpr c49; have c49b1 : (a0_0 != 8) = false := bne_eq_false_iff_eq.mpr c49; clear c49
                by_cases c50 : ([] : List Int).length < 140737488355328
                rotate_left
                · rw [if_neg c50] at H
                  exact absurd H (by simp)
                rw [if_pos c50] at H; have LMc50 := Aside0.mk c50; clear c50; obtain ⟨y653, hy653⟩ : ∃ y_ : List Int, y_ = (([] : List Int) ++ [(a0_3) % 256]) := ⟨_, rfl⟩
                replace H : (some y653) = some r := by (try rw [hy653]); exact HW.rp
                have Ny653 := Aside0.mk hy653; clear hy653
                as_aux_lemma =>
                  obtain rfl := Option.some.inj H; obtain ⟨hcz51_0, hcz51_1, hcz51_2, hcz51_3, hcz51_4, hcz51_5, hcz51_6, hcz51_7⟩ := HW.k8 BK619.out
                  go_wp2_with (first | ((with_reducible refine gate_builtin (b := .append) (xs := #[.tmp 69, .tmp 73]) rfl ?_); at_builtin; refine Kd.R_append (Kd.int .u8) (w0 := w) w.heap.size rfl (.tmp 69) (.tmp 73) 22 5 (.int .u8 0) 1 rfl Tryz.underlying22 info5 rfl (by decide) (by omega) (.slice none 0 0) ([] : List Int) ((a0_3) % 256) [.int .u8 ((a0_3) % 256)] (fun _ => True) (fun _ => False) rfl rfl ?aP (fun _ hk => hk.elim) ?aF ?aO ?aB ?aS ?aL ?_; (case aP => exact rfl); (case aB => exact HW.zb); (case aF => exact (fun _ _ => trivial)); (case aO => exact (HW.zR HO_3.out)); (case aS => exact (below_size HW.zb)); (case aL => have := LMc50.out; omega); intro v654 w52 ho hb hg hat; rw [← Ny653.out] at ho; have n0_ := Aside0.mk (blk_grown (g := gb619) (o := .cells #[.int .i64 a0_0, .string a0_1, .string a0_2, .int .i64 a0_3, .int .u64 a0_4, .int .u64 a0_5, .slice A0_6 l0_6.length c0_6, .slice A0_7 l0_7.length c0_7] 46 (0, 0)) (HW.zB BK619.out) hg (Kd.R_ne HO_3.out BK619.out (by decide))); have n1_ := Aside0.mk (hb); have n2_ := Aside0.mk (ho); clear BK619; clear HB; clear HO_3; have BK619 := n0_; have HB := n1_; have HO655 := n2_; clear n0_ n1_ n2_; clear ho hb hg hat))
                  go_ret
                  exact ⟨_, rfl, HW.zR HO655.out, HW.zb⟩
              rw [if_neg c49] at H; have c49b0 : (a0_0 == 8) = false := beq_eq_false_iff_ne.mpr c49; have c49b1 : (a0_0 != 8) = true := bne_iff_ne.mpr c49; have HC53 := Aside0.mk H; clear H
              go_upto_if 75 with (fail)
              go_cut [75] (fun v75 wc => ∃ (kq : Nat) (x75_52 : Bool), v75 = .bool x75_52 ∧ Aside0 (spec_DocValue.j3 kq ([] : List Int) a0_0 x75_52 a0_0 a0_1 a0_2 a0_3 a0_4 a0_5 l0_6 l0_7 = some r) ∧ Aside0 (kq ≤ kj16) ∧ Aside0 (Kd.R (Kd.int .u8) 5 wc w.heap.size (fun _ => True) (.slice none 0 0) ([] : List Int)) ∧ Aside0 (wc.heap[gb619]? = some (.cells #[.int .i64 a0_0, .string a0_1, .string a0_2, .int .i64 a0_3, .int .u64 a0_4, .int .u64 a0_5, (.slice A0_6 l0_6.length c0_6), (.slice A0_7 l0_7.length c0_7)] 46 (0, 0))) ∧ Aside0 (Below w.heap.size w wc))
              case first =>
                have H := HC53.out; clear HC53
                by_cases c54 : a0_0 = 9
                · rw [if_pos c54] at H
                  have c54b0 : (a0_0 == 9) = true := beq_iff_eq.mpr c54; have c54b1 : (a0_0 != 9) = false := bne_eq_false_iff_eq.mpr c54; clear c54
                  (first | rw [c54b0] | (simp only [i64_w, i32_w]; rw [c54b0]) | skip)
                  as_aux_lemma =>
                    have H' := Aside0.mk H; clear H
                    go_wp2
                    go_meet
                    case rel => exact ⟨_, ((a0_0 == 9)), HW.rs, H', ⟨by have := HJ1.out; have := HJ9.out; have := HJ16.out; first | omega | exact Nat.le_refl _⟩, ⟨HW.zR HO_3.out⟩, ⟨by (with_reducible repeat (first | refine blk_drewN ?_ _ | refine blk_drew ?_ | refine blk_alloc ?_ _)); exact BK619.out⟩, ⟨HW.zb⟩⟩
                rw [if_neg c54] at H; have c54b0 : (a0_0 == 9) = false := beq_eq_false_iff_ne.mpr c54; have c54b1 : (a0_0 != 9) = true := bne_iff_ne.mpr c54
                (first | rw [c54b0] | (simp only [i64_w, i32_w]; rw [c54b0]) | skip)
                as_aux_lemma =>
                  have H' := Aside0.mk H; clear H
                  go_wp2
                  go_meet
                  case rel => exact ⟨_, ((a0_0 == 18)), HW.rs, H', ⟨by have := HJ1.out; have := HJ9.out; have := HJ16.out; first | omega | exact Nat.le_refl _⟩, ⟨HW.zR HO_3.out⟩, ⟨by (with_reducible repeat (first | refine blk_drewN ?_ _ | refine blk_drew ?_ | refine blk_alloc ?_ _)); exact BK619.out⟩, ⟨HW.zb⟩⟩
              case rest =>
                clear HC53
                (try clear c1); (try clear c2); (try clear p2); (try clear c3); (try clear c4); (try clear c5); (try clear c5b0); (try clear c5b1); (try clear c6); (try clear p6); (try clear c11); (try clear c11b0); (try clear c11b1); (try clear c12); (try clear c12b0); (try clear c12b1); (try clear c13); (try clear c17); (try clear c18); (try clear c18b0); (try clear c18b1); (try clear c19); (try clear c20); (try clear c23); (try clear c23b0); (try clear c23b1); (try clear c24); (try clear c24b0); (try clear c24b1); (try clear c26); (try clear c28); (try clear c34); (try clear c37); (try clear c38); (try clear c45); (try clear c45b0); (try clear c45b1); (try clear c46); (try clear c49); (try clear c49b0); (try clear c49b1); (try clear c50); (try clear c54); (try clear c54b0); (try clear c54b1); (try clear hcz15_0 hcz15_1 hcz15_2 hcz15_3 hcz15_4 hcz15_5 hcz15_6 hcz15_7); (try clear hcz21_0 hcz21_1 hcz21_2 hcz21_3 hcz21_4 hcz21_5 hcz21_6 hcz21_7); (try clear hcz29_0 hcz29_1 hcz29_2 hcz29_3 hcz29_4 hcz29_5 hcz29_6 hcz29_7); (try clear hcz34_0 hcz34_1 hcz34_2 hcz34_3 hcz34_4 hcz34_5 hcz34_6 hcz34_7); (try clear hcz39_0 hcz39_1 hcz39_2 hcz39_3 hcz39_4 hcz39_5 hcz39_6 hcz39_7); (try clear hcz41_0 hcz41_1 hcz41_2 hcz41_3 hcz41_4 hcz41_5 hcz41_6 hcz41_7); (try clear hcz43_0 hcz43_1 hcz43_2 hcz43_3 hcz43_4 hcz43_5 hcz43_6 hcz43_7); (try clear hcz47_0 hcz47_1 hcz47_2 hcz47_3 hcz47_4 hcz47_5 hcz47_6 hcz47_7); (try clear hcz4_0 hcz4_1 hcz4_2 hcz4_3 hcz4_4 hcz4_5 hcz4_6 hcz4_7); (try clear hcz51_0 hcz51_1 hcz51_2 hcz51_3 hcz51_4 hcz51_5 hcz51_6 hcz51_7); (try clear hcz8_0 hcz8_1 hcz8_2 hcz8_3 hcz8_4 hcz8_5 hcz8_6 hcz8_7); (try clear p2)
                obtain ⟨kq, x75_52, rfl, HA, HJ52, HO_3, BK619, HB⟩ := hcut
                cases kq with
                | zero => exact absurd HA.out (by simp [spec_DocValue.j3])
                | succ kj52 =>
                  have H := HA.out; clear HA
                  simp only [spec_DocValue.j3] at H
                  by_cases c55 : x75_52 = true
                  · subst c55
                    have H1 : ((spec_DocInt64.f kj52 ([] : List Int) (IntKind.u64.wrap (a0_3))).bind fun t656 => (some t656)) = some r := by rw [if_pos rfl] at H; exact H
                    clear H; have H := H1; clear H1; replace H := Option.bind_eq_some_iff.mp H; obtain ⟨t656, A560, H⟩ := H; replace H : (some t656) = some r := H; have A56 := Aside0.mk A560; clear A560
                    as_aux_lemma =>
                      obtain rfl := Option.some.inj H; obtain ⟨hcz57_0, hcz57_1, hcz57_2, hcz57_3, hcz57_4, hcz57_5, hcz57_6, hcz57_7⟩ := HW.k8 BK619.out
                      go_wp2_with (first | ((with_reducible refine gate_callee (f := 37) rfl ?_); refine HW.gz (some 82) rfl rfl Tryz.func37 (by kernel_rfl) rfl #[.slice none 0 0, .int .u64 (IntKind.u64.wrap (a0_3))] rfl ?_; (with_reducible refine (spec_DocInt64.calls kj52 (fun k_ => some k_ = (.slice none 0 0 : Value).ownBlock) (.slice none 0 0) ([] : List Int) (IntKind.u64.wrap (a0_3)) t656 w _ ?side1 ?side2 A56.out).mono ?_); (case side1 => exact HW.zb); (case side2 => exact Kd.R_tight rfl HO_3.out); rintro e w58 ⟨v657, rfl, ho0, hb, hkp⟩; refine ⟨_, rfl, ?_⟩; have n0_ := Aside0.mk (blk_kept (HW.zB BK619.out) hkp (fun hs_ => (fun e_ => (Kd.R_ne HO_3.out BK619.out (by decide)) e_) hs_)); have n1_ := Aside0.mk (Kd.R_mono (ok' := fun k_ => True) ho0 (fun k_ hk_ => trivial)); have n2_ := Aside0.mk (hb); clear BK619; clear HB; clear HO_3; have BK619 := n0_; have HO658 := n1_; have HB := n2_; clear n0_ n1_ n2_; (try clear hb); (try clear hkp); (try clear ho0)))
                      go_ret
                      exact ⟨_, rfl, HW.zR HO658.out, HW.zb⟩
                  replace c55 := Bool.eq_false_iff.mpr c55; subst c55
                  have H1 : (if a0_0 = 16 then ((spec_DocInt32.f ([] : List Int) a0_3).bind fun t659 => (some t659)) else (if a0_0 = 11 then (if ([] : List Int).length + a0_1.size < 140737488355328 then ((some (([] : List Int) ++ bytesOf a0_1 : List Int)).bind fun y662 => (if y662.length < 140737488355328 then ((some (y662 ++ [0] : List Int)).bind fun y665 => (if y665.length + a0_2.size < 140737488355328 then ((some (y665 ++ bytesOf a0_2 : List Int)).bind fun y668 => (if y668.length < 140737488355328 then (some (y668 ++ [0])) else (none))) else (none))) else (none))) else (none)) else (if a0_0 = 12 then ((spec_docText.f ([] : List Int) a0_1).bind fun t674 => (if t674.length + l0_6.length < 140737488355328 then (some (t674 ++ l0_6)) else (none))) else (if a0_0 = 15 then ((spec_docText.f ([] : List Int) a0_1).bind fun t680 => ((spec_DocBytes.f kj52 l0_7).bind fun t683 => ((spec_DocInt32.f ([] : List Int) (wrap64 ((wrap64 (4 + (t680.length : Int))) + (t683.length : Int)))).bind fun t686 => (if t686.length + t680.length < 140737488355328 then ((some (t686 ++ t680 : List Int)).bind fun y689 => (if y689.length + t683.length < 140737488355328 then (some (y689 ++ t683)) else (none))) else (none))))) else (if a0_0 = 19 then ((spec_DocInt64.f kj52 ([] : List Int) a0_4).bind fun t695 => ((spec_DocInt64.f kj52 t695 a0_5).bind fun t698 => (some t698))) else (some ([] : List Int))))))) = some r := by rw [if_neg (show ¬ (false = true) by decide)] at H; exact H
                  clear H; have H := H1; clear H1
                  by_cases c59 : a0_0 = 16
                  · rw [if_pos c59] at H
                    have c59b0 : (a0_0 == 16) = true := beq_iff_eq.mpr c59; have c59b1 : (a0_0 != 16) = false := bne_eq_false_iff_eq.mpr c59; clear c59; replace H := Option.bind_eq_some_iff.mp H; obtain ⟨t659, A600, H⟩ := H; replace H : (some t659) = some r := H; have A60 := Aside0.mk A600; clear A600
                    as_aux_lemma =>
                      obtain rfl := Option.some.inj H; obtain ⟨hcz61_0, hcz61_1, hcz61_2, hcz61_3, hcz61_4, hcz61_5, hcz61_6, hcz61_7⟩ := HW.k8 BK619.out
                      go_wp2_with (first | ((with_reducible refine gate_callee (f := 34) rfl ?_); refine HW.gz (some 88) rfl rfl Tryz.func34 (by kernel_rfl) rfl #[.slice none 0 0, .int .i64 a0_3] rfl ?_; (with_reducible refine (spec_DocInt32.calls (fun k_ => some k_ = (.slice none 0 0 : Value).ownBlock) (.slice none 0 0) ([] : List Int) a0_3 t659 w _ ?side1 ?side2 A60.out).mono ?_); (case side1 => exact HW.zb); (case side2 => exact Kd.R_tight rfl HO_3.out); rintro e w62 ⟨v660, rfl, ho0, hb, hkp⟩; refine ⟨_, rfl, ?_⟩; have n0_ := Aside0.mk (blk_kept (HW.zB BK619.out) hkp (fun hs_ => (fun e_ => (Kd.R_ne HO_3.out BK619.out (by decide)) e_) hs_)); have n1_ := Aside0.mk (Kd.R_mono (ok' := fun k_ => True) ho0 (fun k_ hk_ => trivial)); have n2_ := Aside0.mk (hb); clear BK619; clear HB; clear HO_3; have BK619 := n0_; have HO661 := n1_; have HB := n2_; clear n0_ n1_ n2_; (try clear hb); (try clear hkp); (try clear ho0)))
                      go_ret
                      exact ⟨_, rfl, HW.zR HO661.out, HW.zb⟩
                  rw [if_neg c59] at H; have c59b0 : (a0_0 == 16) = false := beq_eq_false_iff_ne.mpr c59; have c59b1 : (a0_0 != 16) = true := bne_iff_ne.mpr c59
                  by_cases c63 : a0_0 = 11
                  · rw [if_pos c63] at H
                    have c63b0 : (a0_0 == 11) = true := beq_iff_eq.mpr c63; have c63b1 : (a0_0 != 11) = false := bne_eq_false_iff_eq.mpr c63; clear c63
                    by_cases c64 : ([] : List Int).length + a0_1.size < 140737488355328
                    rotate_left
                    · rw [if_neg c64] at H
                      exact absurd H (by simp)
                    rw [if_pos c64] at H; have LMc64 := Aside0.mk c64; clear c64; obtain ⟨y662, hy662⟩ : ∃ y_ : List Int, y_ = (([] : List Int) ++ bytesOf a0_1) := ⟨_, rfl⟩
                    replace H : (if y662.length < 140737488355328 then ((some (y662 ++ [0] : List Int)).bind fun y665 => (if y665.length + a0_2.size < 140737488355328 then ((some (y665 ++ bytesOf a0_2 : List Int)).bind fun y668 => (if y668.length < 140737488355328 then (some (y668 ++ [0])) else (none))) else (none))) else (none)) = some r := by (try rw [hy662]); exact HW.rp
                    have Ny662 := Aside0.mk hy662; clear hy662
                    by_cases c65 : y662.length < 140737488355328
                    rotate_left
                    · rw [if_neg c65] at H
                      exact absurd H (by simp)
                    rw [if_pos c65] at H; have LMc65 := Aside0.mk c65; clear c65; obtain ⟨y665, hy665⟩ : ∃ y_ : List Int, y_ = (y662 ++ [0]) := ⟨_, rfl⟩
                    replace H : (if y665.length + a0_2.size < 140737488355328 then ((some (y665 ++ bytesOf a0_2 : List Int)).bind fun y668 => (if y668.length < 140737488355328 then (some (y668 ++ [0])) else (none))) else (none)) = some r := by (try rw [hy665]); exact HW.rp
                    have Ny665 := Aside0.mk hy665; clear hy665
                    by_cases c66 : y665.length + a0_2.size < 140737488355328
                    rotate_left
                    · rw [if_neg c66] at H
                      exact absurd H (by simp)
                    rw [if_pos c66] at H; have LMc66 := Aside0.mk c66; clear c66; obtain ⟨y668, hy668⟩ : ∃ y_ : List Int, y_ = (y665 ++ bytesOf a0_2) := ⟨_, rfl⟩
                    replace H : (if y668.length < 140737488355328 then (some (y668 ++ [0])) else (none)) = some r := by (try rw [hy668]); exact HW.rp
                    have Ny668 := Aside0.mk hy668; clear hy668
                    by_cases c67 : y668.length < 140737488355328
                    rotate_left
                    · rw [if_neg c67] at H
                      exact absurd H (by simp)
                    rw [if_pos c67] at H; have LMc67 := Aside0.mk c67; clear c67; obtain ⟨y671, hy671⟩ : ∃ y_ : List Int, y_ = (y668 ++ [0]) := ⟨_, rfl⟩
                    replace H : (some y671) = some r := by (try rw [hy671]); exact HW.rp
                    have Ny671 := Aside0.mk hy671; clear hy671
                    as_aux_lemma =>
                      obtain rfl := Option.some.inj H; obtain ⟨hcz68_0, hcz68_1, hcz68_2, hcz68_3, hcz68_4, hcz68_5, hcz68_6, hcz68_7⟩ := HW.k8 BK619.out
                      go_wp2_with (first | (at_builtin; refine HW.R_append_str (w0 := w) w.heap.size rfl (.tmp 91) _ 22 9 5 rfl Tryz.underlying22 Tryz.underlying9 info5 (.slice none 0 0) ([] : List Int) a0_1 (fun _ => True) rfl rfl ?aO ?aF ?aB ?aS ?aL ?_; (case aB => exact HW.zb); (case aF => exact (fun _ _ => trivial)); (case aO => exact (HW.zR HO_3.out)); (case aS => exact (below_size HW.zb)); (case aL => have := LMc64.out; omega); intro v663 w69 ho hb hg hat; rw [← Ny662.out] at ho; have n0_ := Aside0.mk (blk_grown (g := gb619) (o := .cells #[.int .i64 a0_0, .string a0_1, .string a0_2, .int .i64 a0_3, .int .u64 a0_4, .int .u64 a0_5, .slice A0_6 l0_6.length c0_6, .slice A0_7 l0_7.length c0_7] 46 (0, 0)) (HW.zB BK619.out) hg (Kd.R_ne HO_3.out BK619.out (by decide))); have n1_ := Aside0.mk (hb); have n2_ := Aside0.mk (ho); clear BK619; clear HB; clear HO_3; have BK619 := n0_; have HB := n1_; have HO664 := n2_; clear n0_ n1_ n2_; clear ho hb hg hat) | ((with_reducible refine gate_builtin (b := .append) (xs := #[.tmp 95, .tmp 96]) rfl ?_); at_builtin; refine Kd.R_append (Kd.int .u8) (w0 := w) w.heap.size rfl (.tmp 95) (.tmp 96) 22 5 (.int .u8 0) 1 rfl Tryz.underlying22 info5 rfl (by decide) (by omega) v663 y662 0 [.int .u8 0] (fun _ => True) (fun _ => False) rfl rfl ?aP (fun _ hk => hk.elim) ?aF ?aO ?aB ?aS ?aL ?_; (case aP => exact rfl); (case aB => exact HW.zb); (case aF => exact (fun _ _ => trivial)); (case aO => exact (HW.zR HO664.out)); (case aS => exact (below_size HW.zb)); (case aL => have := LMc65.out; omega); intro v666 w70 ho hb hg hat; rw [← Ny665.out] at ho; have n0_ := Aside0.mk (blk_grown (g := gb619) (o := .cells #[.int .i64 a0_0, .string a0_1, .string a0_2, .int .i64 a0_3, .int .u64 a0_4, .int .u64 a0_5, .slice A0_6 l0_6.length c0_6, .slice A0_7 l0_7.length c0_7] 46 (0, 0)) (HW.zB BK619.out) hg (Kd.R_ne HO664.out BK619.out (by decide))); have n1_ := Aside0.mk (hb); have n2_ := Aside0.mk (ho); clear BK619; clear HB; clear HO664; have BK619 := n0_; have HB := n1_; have HO667 := n2_; clear n0_ n1_ n2_; clear ho hb hg hat; obtain ⟨hcz71_0, hcz71_1, hcz71_2, hcz71_3, hcz71_4, hcz71_5, hcz71_6, hcz71_7⟩ := HW.k8 BK619.out) | (at_builtin; refine HW.R_append_str (w0 := w) w.heap.size rfl (.tmp 98) _ 22 9 5 rfl Tryz.underlying22 Tryz.underlying9 info5 v666 y665 a0_2 (fun _ => True) rfl rfl ?aO ?aF ?aB ?aS ?aL ?_; (case aB => exact HW.zb); (case aF => exact (fun _ _ => trivial)); (case aO => exact (HW.zR HO667.out)); (case aS => exact (below_size HW.zb)); (case aL => have := LMc66.out; omega); intro v669 w72 ho hb hg hat; rw [← Ny668.out] at ho; have n0_ := Aside0.mk (blk_grown (g := gb619) (o := .cells #[.int .i64 a0_0, .string a0_1, .string a0_2, .int .i64 a0_3, .int .u64 a0_4, .int .u64 a0_5, .slice A0_6 l0_6.length c0_6, .slice A0_7 l0_7.length c0_7] 46 (0, 0)) (HW.zB BK619.out) hg (Kd.R_ne HO667.out BK619.out (by decide))); have n1_ := Aside0.mk (hb); have n2_ := Aside0.mk (ho); clear BK619; clear HB; clear HO667; have BK619 := n0_; have HB := n1_; have HO670 := n2_; clear n0_ n1_ n2_; clear ho hb hg hat) | ((with_reducible refine gate_builtin (b := .append) (xs := #[.tmp 102, .tmp 103]) rfl ?_); at_builtin; refine Kd.R_append (Kd.int .u8) (w0 := w) w.heap.size rfl (.tmp 102) (.tmp 103) 22 5 (.int .u8 0) 1 rfl Tryz.underlying22 info5 rfl (by decide) (by omega) v669 y668 0 [.int .u8 0] (fun _ => True) (fun _ => False) rfl rfl ?aP (fun _ hk => hk.elim) ?aF ?aO ?aB ?aS ?aL ?_; (case aP => exact rfl); (case aB => exact HW.zb); (case aF => exact (fun _ _ => trivial)); (case aO => exact (HW.zR HO670.out)); (case aS => exact (below_size HW.zb)); (case aL => have := LMc67.out; omega); intro v672 w73 ho hb hg hat; rw [← Ny671.out] at ho; have n0_ := Aside0.mk (blk_grown (g := gb619) (o := .cells #[.int .i64 a0_0, .string a0_1, .string a0_2, .int .i64 a0_3, .int .u64 a0_4, .int .u64 a0_5, .slice A0_6 l0_6.length c0_6, .slice A0_7 l0_7.length c0_7] 46 (0, 0)) (HW.zB BK619.out) hg (Kd.R_ne HO670.out BK619.out (by decide))); have n1_ := Aside0.mk (hb); have n2_ := Aside0.mk (ho); clear BK619; clear HB; clear HO670; have BK619 := n0_; have HB := n1_; have HO673 := n2_; clear n0_ n1_ n2_; clear ho hb hg hat))
                      go_ret
                      exact ⟨_, rfl, HW.zR HO673.out, HW.zb⟩
                  rw [if_neg c63] at H; have c63b0 : (a0_0 == 11) = false := beq_eq_false_iff_ne.mpr c63; have c63b1 : (a0_0 != 11) = true := bne_iff_ne.mpr c63
                  by_cases c74 : a0_0 = 12
                  · rw [if_pos c74] at H
                    have c74b0 : (a0_0 == 12) = true := beq_iff_eq.mpr c74; have c74b1 : (a0_0 != 12) = false := bne_eq_false_iff_eq.mpr c74; clear c74; replace H := Option.bind_eq_some_iff.mp H; obtain ⟨t674, A750, H⟩ := H; replace H : (if t674.length + l0_6.length < 140737488355328 then (some (t674 ++ l0_6)) else (none)) = some r := H; have A75 := Aside0.mk A750; clear A750
                    by_cases c76 : t674.length + l0_6.length < 140737488355328
                    rotate_left
                    · rw [if_neg c76] at H
                      exact absurd H (by simp)
                    rw [if_pos c76] at H; have LMc76 := Aside0.mk c76; clear c76; obtain ⟨y677, hy677⟩ : ∃ y_ : List Int, y_ = (t674 ++ l0_6) := ⟨_, rfl⟩
                    replace H : (some y677) = some r := by (try rw [hy677]); exact HW.rp
                    have Ny677 := Aside0.mk hy677; clear hy677
                    as_aux_lemma =>
                      obtain rfl := Option.some.inj H; obtain ⟨hcz77_0, hcz77_1, hcz77_2, hcz77_3, hcz77_4, hcz77_5, hcz77_6, hcz77_7⟩ := HW.k8 BK619.out
                      go_wp2_with (first | ((with_reducible refine gate_callee (f := 38) rfl ?_); refine HW.gz (some 110) rfl rfl Tryz.func38 (by kernel_rfl) rfl #[.slice none 0 0, .string a0_1] rfl ?_; (with_reducible refine (spec_docText.calls (fun k_ => some k_ = (.slice none 0 0 : Value).ownBlock) (.slice none 0 0) ([] : List Int) a0_1 t674 w _ ?side1 ?side2 A75.out).mono ?_); (case side1 => exact HW.zb); (case side2 => exact Kd.R_tight rfl HO_3.out); rintro e w78 ⟨v675, rfl, ho0, hb, hkp⟩; refine ⟨_, rfl, ?_⟩; have n0_ := Aside0.mk (blk_kept (HW.zB BK619.out) hkp (fun hs_ => (fun e_ => (Kd.R_ne HO_3.out BK619.out (by decide)) e_) hs_)); have n1_ := Aside0.mk (Kd.R_mono (ok' := fun k_ => True) ho0 (fun k_ hk_ => trivial)); have n2_ := Aside0.mk (hb); clear BK619; clear HB; clear HO_3; have BK619 := n0_; have HO676 := n1_; have HB := n2_; clear n0_ n1_ n2_; (try clear hb); (try clear hkp); (try clear ho0); obtain ⟨hcz79_0, hcz79_1, hcz79_2, hcz79_3, hcz79_4, hcz79_5, hcz79_6, hcz79_7⟩ := HW.k8 BK619.out) | ((with_reducible refine gate_builtin (b := .append) (xs := #[.tmp 111, .tmp 113]) rfl ?_); at_builtin; refine Kd.R_append_rows (Kd.int .u8) (w0 := w) w.heap.size rfl (.tmp 111) (.tmp 113) 22 5 (.int .u8 0) 1 rfl Tryz.underlying22 info5 rfl (by decide) (by omega) v675 t674 l0_6 _ _ _ (fun _ => True) (fun _ => False) rfl rfl ?aO ?aR (fun _ _ h => h) (fun _ h => h.elim) ?aF ?aB ?aS ?aL ?_; (case aR => repeat (first | exact (Kd.C_below HR0_6.out HB.out) | (with_reducible refine Kd.C_alloc ?_ _) | (with_reducible refine Kd.C_drewN ?_ _) | (with_reducible refine Kd.C_drew ?_))); (case aB => exact HW.zb); (case aF => exact (fun _ _ => trivial)); (case aO => exact (HW.zR HO676.out)); (case aS => exact (below_size HW.zb)); (case aL => have := LMc76.out; omega); intro v678 w80 ho hb hg hat; rw [← Ny677.out] at ho; have n0_ := Aside0.mk (blk_grown (g := gb619) (o := .cells #[.int .i64 a0_0, .string a0_1, .string a0_2, .int .i64 a0_3, .int .u64 a0_4, .int .u64 a0_5, .slice A0_6 l0_6.length c0_6, .slice A0_7 l0_7.length c0_7] 46 (0, 0)) (HW.zB BK619.out) hg (Kd.R_ne HO676.out BK619.out (by decide))); have n1_ := Aside0.mk (hb); have n2_ := Aside0.mk (ho); clear BK619; clear HB; clear HO676; have BK619 := n0_; have HB := n1_; have HO679 := n2_; clear n0_ n1_ n2_; clear ho hb hg hat))
                      go_ret
                      exact ⟨_, rfl, HW.zR HO679.out, HW.zb⟩
                  rw [if_neg c74] at H; have c74b0 : (a0_0 == 12) = false := beq_eq_false_iff_ne.mpr c74; have c74b1 : (a0_0 != 12) = true := bne_iff_ne.mpr c74
                  by_cases c81 : a0_0 = 15
                  rotate_left
                  · rw [if_neg c81] at H
                    have c81b0 : (a0_0 == 15) = false := beq_eq_false_iff_ne.mpr c81; have c81b1 : (a0_0 != 15) = true := bne_iff_ne.mpr c81
                    by_cases c96 : a0_0 = 19
                    rotate_left
                    · rw [if_neg c96] at H
                      have c96b0 : (a0_0 == 19) = false := beq_eq_false_iff_ne.mpr c96; have c96b1 : (a0_0 != 19) = true := bne_iff_ne.mpr c96
                      as_aux_lemma =>
                        obtain rfl := Option.some.inj H
                        go_wp2
                        go_ret
                        exact ⟨_, rfl, HW.zR HO_3.out, HW.zb⟩
                    rw [if_pos c96] at H; have c96b0 : (a0_0 == 19) = true := beq_iff_eq.mpr c96; have c96b1 : (a0_0 != 19) = false := bne_eq_false_iff_eq.mpr c96; clear c96; replace H := Option.bind_eq_some_iff.mp H; obtain ⟨t695, A970, H⟩ := H; replace H : ((spec_DocInt64.f kj52 t695 a0_5).bind fun t698 => (some t698)) = some r := H; have A97 := Aside0.mk A970; clear A970; replace H := Option.bind_eq_some_iff.mp H; obtain ⟨t698, A980, H⟩ := H; replace H : (some t698) = some r := H; have A98 := Aside0.mk A980; clear A980
                    as_aux_lemma =>
                      obtain rfl := Option.some.inj H; obtain ⟨hcz99_0, hcz99_1, hcz99_2, hcz99_3, hcz99_4, hcz99_5, hcz99_6, hcz99_7⟩ := HW.k8 BK619.out
                      go_wp2_with (first | ((with_reducible refine gate_callee (f := 37) rfl ?_); refine HW.gz (some 142) rfl rfl Tryz.func37 (by kernel_rfl) rfl #[.slice none 0 0, .int .u64 a0_4] rfl ?_; (with_reducible refine (spec_DocInt64.calls kj52 (fun k_ => some k_ = (.slice none 0 0 : Value).ownBlock) (.slice none 0 0) ([] : List Int) a0_4 t695 w _ ?side1 ?side2 A97.out).mono ?_); (case side1 => exact HW.zb); (case side2 => exact Kd.R_tight rfl HO_3.out); rintro e w100 ⟨v696, rfl, ho0, hb, hkp⟩; refine ⟨_, rfl, ?_⟩; have n0_ := Aside0.mk (blk_kept (HW.zB BK619.out) hkp (fun hs_ => (fun e_ => (Kd.R_ne HO_3.out BK619.out (by decide)) e_) hs_)); have n1_ := Aside0.mk (Kd.R_mono (ok' := fun k_ => True) ho0 (fun k_ hk_ => trivial)); have n2_ := Aside0.mk (hb); clear BK619; clear HB; clear HO_3; have BK619 := n0_; have HO697 := n1_; have HB := n2_; clear n0_ n1_ n2_; (try clear hb); (try clear hkp); (try clear ho0); obtain ⟨hcz101_0, hcz101_1, hcz101_2, hcz101_3, hcz101_4, hcz101_5, hcz101_6, hcz101_7⟩ := HW.k8 BK619.out; obtain ⟨Ao102, co102, eo102⟩ := Kd.R_slice HO697.out; subst eo102) | ((with_reducible refine gate_callee (f := 37) rfl ?_); refine HW.gz (some 146) rfl rfl Tryz.func37 (by kernel_rfl) rfl #[.slice Ao102 t695.length co102, .int .u64 a0_5] rfl ?_; (with_reducible refine (spec_DocInt64.calls kj52 (fun k_ => some k_ = (.slice Ao102 t695.length co102 : Value).ownBlock) (.slice Ao102 t695.length co102) t695 a0_5 t698 w _ ?side1 ?side2 A98.out).mono ?_); (case side1 => exact HW.zb); (case side2 => exact Kd.R_tight rfl HO697.out); rintro e w103 ⟨v699, rfl, ho0, hb, hkp⟩; refine ⟨_, rfl, ?_⟩; have n0_ := Aside0.mk (blk_kept (HW.zB BK619.out) hkp (fun hs_ => (fun e_ => (Kd.R_ne HO697.out BK619.out (by decide)) e_) hs_)); have n1_ := Aside0.mk (Kd.R_mono (ok' := fun k_ => True) ho0 (fun k_ hk_ => trivial)); have n2_ := Aside0.mk (hb); clear BK619; clear HB; clear HO697; have BK619 := n0_; have HO700 := n1_; have HB := n2_; clear n0_ n1_ n2_; (try clear hb); (try clear hkp); (try clear ho0)))
                      go_ret
                      exact ⟨_, rfl, HW.zR HO700.out, HW.zb⟩
                  rw [if_pos c81] at H; have c81b0 : (a0_0 == 15) = true := beq_iff_eq.mpr c81; have c81b1 : (a0_0 != 15) = false := bne_eq_false_iff_eq.mpr c81; clear c81; replace H := Option.bind_eq_some_iff.mp H; obtain ⟨t680, A820, H⟩ := H; replace H : ((spec_DocBytes.f kj52 l0_7).bind fun t683 => ((spec_DocInt32.f ([] : List Int) (wrap64 ((wrap64 (4 + (t680.length : Int))) + (t683.length : Int)))).bind fun t686 => (if t686.length + t680.length < 140737488355328 then ((some (t686 ++ t680 : List Int)).bind fun y689 => (if y689.length + t683.length < 140737488355328 then (some (y689 ++ t683)) else (none))) else (none)))) = some r := H; have A82 := Aside0.mk A820; clear A820; replace H := Option.bind_eq_some_iff.mp H; obtain ⟨t683, A830, H⟩ := H; replace H : ((spec_DocInt32.f ([] : List Int) (wrap64 ((wrap64 (4 + (t680.length : Int))) + (t683.length : Int)))).bind fun t686 => (if t686.length + t680.length < 140737488355328 then ((some (t686 ++ t680 : List Int)).bind fun y689 => (if y689.length + t683.length < 140737488355328 then (some (y689 ++ t683)) else (none))) else (none))) = some r := H; have A83 := Aside0.mk A830; clear A830; replace H := Option.bind_eq_some_iff.mp H; obtain ⟨t686, A840, H⟩ := H; replace H : (if t686.length + t680.length < 140737488355328 then ((some (t686 ++ t680 : List Int)).bind fun y689 => (if y689.length + t683.length < 140737488355328 then (some (y689 ++ t683)) else (none))) else (none)) = some r := H; have A84 := Aside0.mk A840; clear A840
                  by_cases c85 : t686.length + t680.length < 140737488355328
                  rotate_left
                  · rw [if_neg c85] at H
                    exact absurd H (by simp)
                  rw [if_pos c85] at H; have LMc85 := Aside0.mk c85; clear c85; obtain ⟨y689, hy689⟩ : ∃ y_ : List Int, y_ = (t686 ++ t680) := ⟨_, rfl⟩
                  replace H : (if y689.length + t683.length < 140737488355328 then (some (y689 ++ t683)) else (none)) = some r := by (try rw [hy689]); exact HW.rp
                  have Ny689 := Aside0.mk hy689; clear hy689
                  by_cases c86 : y689.length + t683.length < 140737488355328
                  rotate_left
                  · rw [if_neg c86] at H
                    exact absurd H (by simp)
                  rw [if_pos c86] at H; have LMc86 := Aside0.mk c86; clear c86; obtain ⟨y692, hy692⟩ : ∃ y_ : List Int, y_ = (y689 ++ t683) := ⟨_, rfl⟩
                  replace H : (some y692) = some r := by (try rw [hy692]); exact HW.rp
                  have Ny692 := Aside0.mk hy692; clear hy692
                  as_aux_lemma =>
                    obtain rfl := Option.some.inj H; obtain ⟨hcz87_0, hcz87_1, hcz87_2, hcz87_3, hcz87_4, hcz87_5, hcz87_6, hcz87_7⟩ := HW.k8 BK619.out
                    go_wp2_with (first | ((with_reducible refine gate_callee (f := 38) rfl ?_); refine HW.gz (some 119) rfl rfl Tryz.func38 (by kernel_rfl) rfl #[.slice none 0 0, .string a0_1] rfl ?_; (refine (spec_docText.calls (fun k_ => some k_ = (.slice none 0 0 : Value).ownBlock) (.slice none 0 0) ([] : List Int) a0_1 t680 w _ ?side1 ?side2 A82.out).mono ?_); (case side1 => exact HW.zb); (case side2 => exact Kd.R_nil _ _ _ _ _); rintro e w88 ⟨v681, rfl, ho0, hb, hkp⟩; refine ⟨_, rfl, ?_⟩; replace BK619 := Aside0.mk (blk_kept (HW.zB BK619.out) hkp (fun hs_ => (fun e_ => by simp [Value.ownBlock] at e_) hs_)); have HO682 := Aside0.mk (Kd.R_mono (ok' := fun k_ => some k_ ≠ (.slice none 0 0 : Value).ownBlock) ho0 (fun k_ hk_ => Or.elim hk_ (fun hs_ => absurd hs_ (by simp [Value.ownBlock])) (fun hn_ => (Kd.fresh' (Kd.R_lt (HW.zR HO_3.out)) k_ hn_)))); replace HO_3 := Aside0.mk (Kd.R_mono (ok' := fun k_ => some k_ ≠ (v681 : Value).ownBlock) (Kd.R_keptB (HO_3.out) hkp (fun k_ hk_ hs_ => (fun e_ => by simp [Value.ownBlock] at e_) hs_)) (fun k_ hk_ => fun e_ => Or.elim (ho0.1 k_ e_.symm) (fun hs_ => hk_.2.1 hs_) (fun hn_ => Nat.not_le.2 hk_.2.2 hn_))); replace HB := Aside0.mk (hb); (try clear hb); (try clear hkp); (try clear ho0); obtain ⟨hcz89_0, hcz89_1, hcz89_2, hcz89_3, hcz89_4, hcz89_5, hcz89_6, hcz89_7⟩ := HW.k8 BK619.out) | ((with_reducible refine gate_callee (f := 17) rfl ?_); refine HW.gz (some 122) rfl rfl Tryz.func17 (by kernel_rfl) rfl #[.slice A0_7 l0_7.length c0_7] rfl ?_; (with_reducible refine (Grp_spec_DocValue.get2 (ih kj52 (by have := HJ1.out; have := HJ9.out; have := HJ16.out; have := HJ52.out; omega)) _ _ l0_7 t683 _ ?side1 ?side2 A83.out).mono ?_); (case side1 => repeat (first | exact (Kd.C_below HR0_7.out HB.out) | (with_reducible refine Kd.C_alloc ?_ _) | (with_reducible refine Kd.C_drewN ?_ _) | (with_reducible refine Kd.C_drew ?_))); (case side2 => exact HC0_7.out); rintro e w90 ⟨v684, rfl, ho0, hb⟩; refine ⟨_, rfl, ?_⟩; have HO685 := Aside0.mk (Kd.R_lower (Kd.R_new' (Kd.R_new' ho0 (Kd.R_lt (HW.zR HO_3.out))) (Kd.R_lt (HW.zR HO682.out))) (below_size HW.zb)); replace HO_3 := Aside0.mk (Kd.R_elder' (HW.zR HO_3.out) (Kd.R_base ho0) hb); replace HO682 := Aside0.mk (Kd.R_elder' (HW.zR HO682.out) (Kd.R_base ho0) hb); replace HB := Aside0.mk (below_step HW.zb hb); (try clear hb); (try clear ho0); obtain ⟨Ao91, co91, eo91⟩ := Kd.R_slice HO682.out; subst eo91; obtain ⟨Ao92, co92, eo92⟩ := Kd.R_slice HO685.out; subst eo92) | ((with_reducible refine gate_callee (f := 34) rfl ?_); refine HW.gz (some 130) rfl rfl Tryz.func34 (by kernel_rfl) rfl #[.slice none 0 0, .int .i64 (wrap64 ((wrap64 (4 + (t680.length : Int))) + (t683.length : Int)))] rfl ?_; (with_reducible refine (spec_DocInt32.calls (fun k_ => some k_ = (.slice none 0 0 : Value).ownBlock) (.slice none 0 0) ([] : List Int) (wrap64 ((wrap64 (4 + (t680.length : Int))) + (t683.length : Int))) t686 w _ ?side1 ?side2 A84.out).mono ?_); (case side1 => exact HW.zb); (case side2 => exact Kd.R_tight rfl HO_3.out); rintro e w93 ⟨v687, rfl, ho0, hb, hkp⟩; refine ⟨_, rfl, ?_⟩; have n1_ := Aside0.mk (Kd.R_mono (ok' := fun k_ => some k_ ≠ (.slice Ao92 t683.length co92 : Value).ownBlock ∧ some k_ ≠ (v687 : Value).ownBlock) (Kd.R_keptB (HO682.out) hkp (fun k_ hk_ hs_ => (hk_.1) hs_)) (fun k_ hk_ => ⟨hk_.1.2, fun e_ => Or.elim (ho0.1 k_ e_.symm) (fun hs_ => hk_.2.1 hs_) (fun hn_ => Nat.not_le.2 hk_.2.2 hn_)⟩)); have n2_ := Aside0.mk (Kd.R_mono (ok' := fun k_ => some k_ ≠ (.slice Ao91 t680.length co91 : Value).ownBlock ∧ some k_ ≠ (v687 : Value).ownBlock) (Kd.R_keptB (HO685.out) hkp (fun k_ hk_ hs_ => (hk_.1.2) hs_)) (fun k_ hk_ => ⟨hk_.1.2, fun e_ => Or.elim (ho0.1 k_ e_.symm) (fun hs_ => hk_.2.1 hs_) (fun hn_ => Nat.not_le.2 hk_.2.2 hn_)⟩)); have n3_ := Aside0.mk (Kd.R_mono (ok' := fun k_ => some k_ ≠ (.slice Ao91 t680.length co91 : Value).ownBlock ∧ some k_ ≠ (.slice Ao92 t683.length co92 : Value).ownBlock) ho0 (fun k_ hk_ => ⟨Or.elim hk_ (fun hs_ => fun e_ => (((HO682.out).1 k_ e_.symm).1) hs_) (fun hn_ => (Kd.fresh' (Kd.R_lt (HW.zR HO682.out)) k_ hn_)), Or.elim hk_ (fun hs_ => fun e_ => (((HO685.out).1 k_ e_.symm).1.2) hs_) (fun hn_ => (Kd.fresh' (Kd.R_lt (HW.zR HO685.out)) k_ hn_))⟩)); have n4_ := Aside0.mk (hb); clear HO682; clear HO685; clear HB; clear HO_3; have HO682 := n1_; have HO685 := n2_; have HO688 := n3_; have HB := n4_; clear n1_ n2_ n3_ n4_; (try clear hb); (try clear hkp); (try clear ho0)) | ((with_reducible refine gate_builtin (b := .append) (xs := #[.tmp 131, .tmp 132]) rfl ?_); at_builtin; refine Kd.R_append_rows (Kd.int .u8) (w0 := w) w.heap.size rfl (.tmp 131) (.tmp 132) 22 5 (.int .u8 0) 1 rfl Tryz.underlying22 info5 rfl (by decide) (by omega) v687 t686 t680 _ _ _ (fun k_ => some k_ ≠ (.slice Ao91 t680.length co91 : Value).ownBlock ∧ some k_ ≠ (.slice Ao92 t683.length co92 : Value).ownBlock) (fun _ => False) rfl rfl ?aO ?aR (fun _ _ h => h) (fun _ h => h.elim) ?aF ?aB ?aS ?aL ?_; (case aR => repeat (first | exact (Kd.R_reads' HO682.out).2.2 | (with_reducible refine Kd.C_alloc ?_ _) | (with_reducible refine Kd.C_drewN ?_ _) | (with_reducible refine Kd.C_drew ?_))); (case aB => exact HW.zb); (case aF => exact (fun k_ hk => ⟨Kd.fresh' (Kd.R_lt (HW.zR HO682.out)) k_ hk, Kd.fresh' (Kd.R_lt (HW.zR HO685.out)) k_ hk⟩)); (case aO => exact (HW.zR HO688.out)); (case aS => exact (below_size HW.zb)); (case aL => have := LMc85.out; omega); intro v690 w94 ho hb hg hat; rw [← Ny689.out] at ho; have n1_ := Aside0.mk (Kd.R_after (ok := (fun k_ => some k_ ≠ (.slice Ao92 t683.length co92 : Value).ownBlock)) (HW.zR HO682.out) hg hat); have n2_ := Aside0.mk (Kd.R_after (ok := (fun k_ => some k_ ≠ (.slice Ao91 t680.length co91 : Value).ownBlock)) (HW.zR HO685.out) hg hat); have n3_ := Aside0.mk (hb); have n4_ := Aside0.mk (ho); clear HO682; clear HO685; clear HB; clear HO688; have HO682 := n1_; have HO685 := n2_; have HB := n3_; have HO691 := n4_; clear n1_ n2_ n3_ n4_; clear ho hb hg hat) | ((with_reducible refine gate_builtin (b := .append) (xs := #[.tmp 134, .tmp 135]) rfl ?_); at_builtin; refine Kd.R_append_rows (Kd.int .u8) (w0 := w) w.heap.size rfl (.tmp 134) (.tmp 135) 22 5 (.int .u8 0) 1 rfl Tryz.underlying22 info5 rfl (by decide) (by omega) v690 y689 t683 _ _ _ (fun k_ => some k_ ≠ (.slice Ao91 t680.length co91 : Value).ownBlock ∧ some k_ ≠ (.slice Ao92 t683.length co92 : Value).ownBlock) (fun _ => False) rfl rfl ?aO ?aR (fun _ _ h => h) (fun _ h => h.elim) ?aF ?aB ?aS ?aL ?_; (case aR => repeat (first | exact (Kd.R_reads' HO685.out).2.2 | (with_reducible refine Kd.C_alloc ?_ _) | (with_reducible refine Kd.C_drewN ?_ _) | (with_reducible refine Kd.C_drew ?_))); (case aB => exact HW.zb); (case aF => exact (fun k_ hk => ⟨Kd.fresh' (Kd.R_lt (HW.zR HO682.out)) k_ hk, Kd.fresh' (Kd.R_lt (HW.zR HO685.out)) k_ hk⟩)); (case aO => exact (HW.zR HO691.out)); (case aS => exact (below_size HW.zb)); (case aL => have := LMc86.out; omega); intro v693 w95 ho hb hg hat; rw [← Ny692.out] at ho; have n3_ := Aside0.mk (hb); have n4_ := Aside0.mk (ho); clear HB; clear HO691; have HB := n3_; have HO694 := n4_; clear n3_ n4_; clear ho hb hg hat))
                    go_ret
                    exact ⟨_, rfl, by (with_reducible repeat (first | apply Kd.R_alloc | apply Kd.R_drewN | apply Kd.R_drew)); exact Kd.R_mono HO694.out (fun _ hk => trivial), HW.zb⟩
end Go.Proofs.YtbfhpjkahobgnaaGreatDoor.PLo
