/- Printed by a program of this session (a turned copy of the printer of the kit): contracts of functions of the translation, each with the Lean function that it computes. Conditions: as each theorem states them. -/
import Derived.Test.YthlpmeiihchdjaaDoorPBx0
import Derived.Test.YthlpmeiihchdjaaDoorPBx1
namespace Go.Proofs.YthlpmeiihchdjaaDoor.PB
open Go.RowKit Go.Proofs.YthlpmeiihchdjaaDoorW.PrintWords Go.Proofs.YthlpmeiihchdjaaDoorW.PrintLast Go.Proofs.YthlpmeiihchdjaaDoorW.PrintMore
attribute [local go_sem] max2_int min2_int max_two min_two max_three min_three max_four min_four   -- for this text's walks alone
set_option linter.unusedVariables false
set_option linter.unusedSimpArgs false

/-! ### laws_FnBindID: function 4 -/
mutual
def laws_FnBindID.j0 : Nat → List Int → List Int → Bool → Option (Bool)
  | 0, _, _, _ => none
  | k + 1, x0, x1, x16 => if x16 = true then (some true) else (if (x0.length : Int) = 12 then (if (x1.length : Int) > 1000 then (laws_FnBindID.j1 k x0 x1 true) else (laws_FnBindID.j1 k x0 x1 ((x1.length : Int) == 12))) else (laws_FnBindID.j1 k x0 x1 true))
def laws_FnBindID.j1 : Nat → List Int → List Int → Bool → Option (Bool)
  | 0, _, _, _ => none
  | k + 1, x0, x1, x29 => if x29 = true then (some true) else ((impl_IDFromText.f x0 x1).bind fun bt124 => ((spec_BindID.f k x1).bind fun bt128 => (if (x1.length : Int) = 0 then (laws_FnBindID.j2 k bt124.1 bt124.2 bt128.1 bt128.2 ((strOfNums x0).toList != (strOfNums bt128.1).toList)) else (laws_FnBindID.j2 k bt124.1 bt124.2 bt128.1 bt128.2 false))))
def laws_FnBindID.j2 : Nat → List Int → Bool → List Int → Bool → Bool → Option (Bool)
  | 0, _, _, _, _, _ => none
  | k + 1, x5, x6, x7, x8, x50 => if x50 = true then (some true) else (if (x6 == x8) = true then (if x8 = true then (some ((strOfNums x5).toList == (strOfNums x7).toList)) else (some true)) else (some false))
end
def laws_FnBindID.f (k : Nat) (l0 : List Int) (l1 : List Int) : Option (Bool) := if (l0.length : Int) > 2147483647 then (laws_FnBindID.j0 k l0 l1 true) else (laws_FnBindID.j0 k l0 l1 (decide ((l1.length : Int) > 2147483647)))
theorem laws_FnBindID.mono_l : ∀ k, (∀ y0 y1 y2, LeO (laws_FnBindID.j0 k y0 y1 y2) (laws_FnBindID.j0 (k + 1) y0 y1 y2)) ∧ (∀ y0 y1 y2, LeO (laws_FnBindID.j1 k y0 y1 y2) (laws_FnBindID.j1 (k + 1) y0 y1 y2)) ∧ (∀ y0 y1 y2 y3 y4, LeO (laws_FnBindID.j2 k y0 y1 y2 y3 y4) (laws_FnBindID.j2 (k + 1) y0 y1 y2 y3 y4))
  | 0 => ⟨fun _ _ _ r h => by simp [laws_FnBindID.j0] at h, fun _ _ _ r h => by simp [laws_FnBindID.j1] at h, fun _ _ _ _ _ r h => by simp [laws_FnBindID.j2] at h⟩
  | k + 1 => by
    obtain ⟨ih0, ih1, ih2⟩ := laws_FnBindID.mono_l k
    refine ⟨?_, ?_, ?_⟩
    · intro y0 y1 y2
      unfold laws_FnBindID.j0
      repeat' first
      | (with_reducible exact ih0 _ _ _)
      | (with_reducible exact ih1 _ _ _)
      | (with_reducible exact ih2 _ _ _ _ _)
      | (with_reducible exact spec_BindID.mono _ _)
      | (with_reducible exact LeO.refl _)
      | (with_reducible exact LeO.none _)
      | (with_reducible refine LeO.ite ?_ ?_)
      | (with_reducible refine LeO.bind ?_ (fun _ => ?_))
      | exact ih0 _ _ _
      | exact ih1 _ _ _
      | exact ih2 _ _ _ _ _
      | exact spec_BindID.mono _ _
      | exact LeO.none _
      | refine LeO.ite ?_ ?_
      | refine LeO.bind ?_ (fun _ => ?_)
    · intro y0 y1 y2
      unfold laws_FnBindID.j1
      repeat' first
      | (with_reducible exact ih0 _ _ _)
      | (with_reducible exact ih1 _ _ _)
      | (with_reducible exact ih2 _ _ _ _ _)
      | (with_reducible exact spec_BindID.mono _ _)
      | (with_reducible exact LeO.refl _)
      | (with_reducible exact LeO.none _)
      | (with_reducible refine LeO.ite ?_ ?_)
      | (with_reducible refine LeO.bind ?_ (fun _ => ?_))
      | exact ih0 _ _ _
      | exact ih1 _ _ _
      | exact ih2 _ _ _ _ _
      | exact spec_BindID.mono _ _
      | exact LeO.none _
      | refine LeO.ite ?_ ?_
      | refine LeO.bind ?_ (fun _ => ?_)
    · intro y0 y1 y2 y3 y4
      unfold laws_FnBindID.j2
      repeat' first
      | (with_reducible exact ih0 _ _ _)
      | (with_reducible exact ih1 _ _ _)
      | (with_reducible exact ih2 _ _ _ _ _)
      | (with_reducible exact spec_BindID.mono _ _)
      | (with_reducible exact LeO.refl _)
      | (with_reducible exact LeO.none _)
      | (with_reducible refine LeO.ite ?_ ?_)
      | (with_reducible refine LeO.bind ?_ (fun _ => ?_))
      | exact ih0 _ _ _
      | exact ih1 _ _ _
      | exact ih2 _ _ _ _ _
      | exact spec_BindID.mono _ _
      | exact LeO.none _
      | refine LeO.ite ?_ ?_
      | refine LeO.bind ?_ (fun _ => ?_)
theorem laws_FnBindID.mono : ∀ a0 a1 k, LeO (laws_FnBindID.f k a0 a1) (laws_FnBindID.f (k + 1) a0 a1) := by
  intro a0 a1 k
  obtain ⟨ih0, ih1, ih2⟩ := laws_FnBindID.mono_l k
  unfold laws_FnBindID.f
  repeat' first
      | (with_reducible exact ih0 _ _ _)
      | (with_reducible exact ih1 _ _ _)
      | (with_reducible exact ih2 _ _ _ _ _)
      | (with_reducible exact spec_BindID.mono _ _)
      | (with_reducible exact LeO.refl _)
      | (with_reducible exact LeO.none _)
      | (with_reducible refine LeO.ite ?_ ?_)
      | (with_reducible refine LeO.bind ?_ (fun _ => ?_))
      | exact ih0 _ _ _
      | exact ih1 _ _ _
      | exact ih2 _ _ _ _ _
      | exact spec_BindID.mono _ _
      | exact LeO.none _
      | refine LeO.ite ?_ ?_
      | refine LeO.bind ?_ (fun _ => ?_)
set_option maxHeartbeats 8000000 in
set_option maxRecDepth 100000 in
theorem laws_FnBindID.calls (k : Nat) (A0 : Option Addr) (c0 : Nat) (l0 : List Int) (A1 : Option Addr) (c1 : Nat) (l1 : List Int) (r : Bool) (w : World) (hlaid : Oid.Laid0 w) (hr0 : Kd.C (Kd.int .u8) w A0 l0.length l0) (hc0 : l0.length ≤ c0) (hr1 : Kd.C (Kd.int .u8) w A1 l1.length l1) (hc1 : l1.length ≤ c1) (h : laws_FnBindID.f k l0 l1 = some r) :
    Calls Tryd.prog 4 #[.slice A0 l0.length c0, .slice A1 l1.length c1] w fun e w' => e = .returned (.bool r) ∧ Below w.heap.size w w' := by
  have HR0 := Aside0.mk hr0
  have HC0 := Aside0.mk hc0
  clear hr0 hc0
  have HR1 := Aside0.mk hr1
  have HC1 := Aside0.mk hc1
  clear hr1 hc1
  have HB := Aside0.mk (Below.refl w.heap.size w)
  have HLAID := Aside0.mk hlaid
  clear hlaid
  have H : (if (l0.length : Int) > 2147483647 then (laws_FnBindID.j0 k l0 l1 true) else (laws_FnBindID.j0 k l0 l1 (decide ((l1.length : Int) > 2147483647)))) = some r := h
  clear h
  have HC3 := Aside0.mk H
  clear H
  go_enter Tryd.func4, Tryd.ntmps4
  go_upto_region 1 with (fail)
  go_cut [16] (fun v16 wc => ∃ (kq : Nat) (x16_2 : Bool), v16 = .bool x16_2 ∧ Aside0 (laws_FnBindID.j0 kq l0 l1 x16_2 = some r) ∧ Aside0 (kq ≤ k) ∧ Aside0 (Below w.heap.size w wc))
  case first =>
    have H := HC3.out
    clear HC3
    by_cases c4 : (l0.length : Int) > 2147483647
    · rw [if_pos c4] at H
      have c4b0 : decide (2147483647 < (l0.length : Int)) = true := decide_eq_true c4
      have c4b1 : decide (2147483647 < l0.length) = true := decide_eq_true (by omega)
      clear c4
      (first | rw [c4b0] | (simp only [i64_w, i32_w]; rw [c4b0]) | skip)
      as_aux_lemma =>
        have H' := Aside0.mk H
        clear H
        go_wp2
        go_meet
        case rel => exact ⟨_, (true), (by first | rfl | (simp; done) | (simp [*]; done)), H', ⟨by first | omega | exact Nat.le_refl _⟩, ⟨by repeat (first | (with_reducible first | exact HB.out | apply below_alloc | apply pw_below_drewN | apply below_drew1) | exact HB.out)⟩⟩
    · rw [if_neg c4] at H
      have c4b0 : decide (2147483647 < (l0.length : Int)) = false := decide_eq_false c4
      have c4b1 : decide (2147483647 < l0.length) = false := decide_eq_false (by omega)
      clear c4
      (first | rw [c4b0] | (simp only [i64_w, i32_w]; rw [c4b0]) | skip)
      as_aux_lemma =>
        have H' := Aside0.mk H
        clear H
        go_wp2
        go_meet
        case rel => exact ⟨_, (decide ((l1.length : Int) > 2147483647)), (by first | rfl | (simp; done) | (simp [*]; done)), H', ⟨by first | omega | exact Nat.le_refl _⟩, ⟨by repeat (first | (with_reducible first | exact HB.out | apply below_alloc | apply pw_below_drewN | apply below_drew1) | exact HB.out)⟩⟩
  case rest =>
    clear HC3
    try clear c1
    try clear p2
    try clear c4
    try clear c4b0
    try clear c4b1
    obtain ⟨kq, x16_2, rfl, HA, HJ2, HB⟩ := hcut
    cases kq with
    | zero => exact absurd HA.out (by simp [laws_FnBindID.j0])
    | succ kj2 =>
      have H := HA.out
      clear HA
      simp only [laws_FnBindID.j0] at H
      by_cases c5 : x16_2 = true
      · subst c5
        have H1 : (some true) = some r := by rw [if_pos rfl] at H; exact H
        clear H
        have H := H1
        clear H1
        as_aux_lemma =>
          obtain rfl := Option.some.inj H
          go_wp2
          go_ret
          exact ⟨by first | rfl | (simp [errW_none, errW_some] <;> rfl) | (simp [*, errW_none, errW_some] <;> rfl), by repeat (first | (with_reducible first | exact HB.out | apply below_alloc | apply pw_below_drewN | apply below_drew1) | exact HB.out)⟩
      · replace c5 := Bool.eq_false_iff.mpr c5
        subst c5
        have H1 : (if (l0.length : Int) = 12 then (if (l1.length : Int) > 1000 then (laws_FnBindID.j1 kj2 l0 l1 true) else (laws_FnBindID.j1 kj2 l0 l1 ((l1.length : Int) == 12))) else (laws_FnBindID.j1 kj2 l0 l1 true)) = some r := by rw [if_neg (show ¬ (false = true) by decide)] at H; exact H
        clear H
        have H := H1
        clear H1
        have HC6 := Aside0.mk H
        clear H
        go_upto_region 3 with (fail)
        go_cut [29] (fun v29 wc => ∃ (kq : Nat) (x29_5 : Bool), v29 = .bool x29_5 ∧ Aside0 (laws_FnBindID.j1 kq l0 l1 x29_5 = some r) ∧ Aside0 (kq ≤ kj2) ∧ Aside0 (Below w.heap.size w wc))
        case first =>
          have H := HC6.out
          clear HC6
          by_cases c7 : (l0.length : Int) = 12
          · rw [if_pos c7] at H
            have c7b0 : ((l0.length : Int) == 12) = true := beq_iff_eq.mpr c7
            have c7b1 : ((l0.length : Int) != 12) = false := bne_eq_false_iff_eq.mpr c7
            clear c7
            (first | rw [c7b0] | (simp only [i64_w, i32_w]; rw [c7b0]) | skip)
            by_cases c8 : (l1.length : Int) > 1000
            · rw [if_pos c8] at H
              have c8b0 : decide (1000 < (l1.length : Int)) = true := decide_eq_true c8
              have c8b1 : decide (1000 < l1.length) = true := decide_eq_true (by omega)
              clear c8
              as_aux_lemma =>
                have H' := Aside0.mk H
                clear H
                go_wp2
                go_meet
                case rel => exact ⟨_, (true), (by first | rfl | (simp; done) | (simp [*]; done)), H', ⟨by have := HJ2.out; first | omega | exact Nat.le_refl _⟩, ⟨by repeat (first | (with_reducible first | exact HB.out | apply below_alloc | apply pw_below_drewN | apply below_drew1) | exact HB.out)⟩⟩
            · rw [if_neg c8] at H
              have c8b0 : decide (1000 < (l1.length : Int)) = false := decide_eq_false c8
              have c8b1 : decide (1000 < l1.length) = false := decide_eq_false (by omega)
              clear c8
              as_aux_lemma =>
                have H' := Aside0.mk H
                clear H
                go_wp2
                go_meet
                case rel => exact ⟨_, (((l1.length : Int) == 12)), (by first | rfl | (simp; done) | (simp [*]; done)), H', ⟨by have := HJ2.out; first | omega | exact Nat.le_refl _⟩, ⟨by repeat (first | (with_reducible first | exact HB.out | apply below_alloc | apply pw_below_drewN | apply below_drew1) | exact HB.out)⟩⟩
          · rw [if_neg c7] at H
            have c7b0 : ((l0.length : Int) == 12) = false := beq_eq_false_iff_ne.mpr c7
            have c7b1 : ((l0.length : Int) != 12) = true := bne_iff_ne.mpr c7
            (first | rw [c7b0] | (simp only [i64_w, i32_w]; rw [c7b0]) | skip)
            as_aux_lemma =>
              have H' := Aside0.mk H
              clear H
              go_wp2
              go_meet
              case rel => exact ⟨_, (true), (by first | rfl | (simp; done) | (simp [*]; done)), H', ⟨by have := HJ2.out; first | omega | exact Nat.le_refl _⟩, ⟨by repeat (first | (with_reducible first | exact HB.out | apply below_alloc | apply pw_below_drewN | apply below_drew1) | exact HB.out)⟩⟩
        case rest =>
          clear HC6
          try clear c1
          try clear p2
          try clear c4
          try clear c4b0
          try clear c4b1
          try clear c5
          try clear c7
          try clear c7b0
          try clear c7b1
          try clear c8
          try clear c8b0
          try clear c8b1
          try clear p2
          obtain ⟨kq, x29_5, rfl, HA, HJ5, HB⟩ := hcut
          cases kq with
          | zero => exact absurd HA.out (by simp [laws_FnBindID.j1])
          | succ kj5 =>
            have H := HA.out
            clear HA
            simp only [laws_FnBindID.j1] at H
            by_cases c9 : x29_5 = true
            · subst c9
              have H1 : (some true) = some r := by rw [if_pos rfl] at H; exact H
              clear H
              have H := H1
              clear H1
              as_aux_lemma =>
                obtain rfl := Option.some.inj H
                go_wp2
                go_ret
                exact ⟨by first | rfl | (simp [errW_none, errW_some] <;> rfl) | (simp [*, errW_none, errW_some] <;> rfl), by repeat (first | (with_reducible first | exact HB.out | apply below_alloc | apply pw_below_drewN | apply below_drew1) | exact HB.out)⟩
            · replace c9 := Bool.eq_false_iff.mpr c9
              subst c9
              have H1 : ((impl_IDFromText.f l0 l1).bind fun bt124 => ((spec_BindID.f kj5 l1).bind fun bt128 => (if (l1.length : Int) = 0 then (laws_FnBindID.j2 kj5 bt124.1 bt124.2 bt128.1 bt128.2 ((strOfNums l0).toList != (strOfNums bt128.1).toList)) else (laws_FnBindID.j2 kj5 bt124.1 bt124.2 bt128.1 bt128.2 false)))) = some r := by rw [if_neg (show ¬ (false = true) by decide)] at H; exact H
              clear H
              have H := H1
              clear H1
              replace H := Option.bind_eq_some_iff.mp H
              obtain ⟨⟨t124, t125⟩, A100, H⟩ := H
              replace H : ((spec_BindID.f kj5 l1).bind fun bt128 => (if (l1.length : Int) = 0 then (laws_FnBindID.j2 kj5 t124 t125 bt128.1 bt128.2 ((strOfNums l0).toList != (strOfNums bt128.1).toList)) else (laws_FnBindID.j2 kj5 t124 t125 bt128.1 bt128.2 false))) = some r := H
              have A10 := Aside0.mk A100
              clear A100
              replace H := Option.bind_eq_some_iff.mp H
              obtain ⟨⟨t128, t129⟩, A110, H⟩ := H
              replace H : (if (l1.length : Int) = 0 then (laws_FnBindID.j2 kj5 t124 t125 t128 t129 ((strOfNums l0).toList != (strOfNums t128).toList)) else (laws_FnBindID.j2 kj5 t124 t125 t128 t129 false)) = some r := H
              have A11 := Aside0.mk A110
              clear A110
              have HC12 := Aside0.mk H
              clear H
              go_upto_region 7 with (first | ((with_reducible refine gate_callee (f := 8) rfl ?_); refine goesL_ (some 33) rfl rfl Tryd.func8 (by kernel_rfl) rfl #[.slice A0 l0.length c0, .slice A1 l1.length c1] rfl (by (try simp only [List.map_toArray, List.map_cons, List.map_nil]); first | done | rfl | (simp only [List.length_drop, List.length_take]; rfl)) ?_; (with_reducible refine (impl_IDFromText.calls _ _ l0 _ _ l1 t124 t125 _ ?aLD ?side1 ?side2 ?side3 ?side4 A10.out).mono ?_); (case aLD => exact Oid.Laid0.below HLAID.out (Oid.Laid0.lt HLAID.out) (by repeat (first | (with_reducible first | exact HB.out | apply below_alloc | apply pw_below_drewN | apply below_drew1) | exact HB.out))); (case side1 => repeat (first | exact (Kd.C_below HR0.out HB.out) | (with_reducible refine Kd.C_alloc ?_ _) | (with_reducible refine Kd.C_drewN ?_ _) | (with_reducible refine Kd.C_drew ?_))); (case side2 => exact HC0.out); (case side3 => repeat (first | exact (Kd.C_below HR1.out HB.out) | (with_reducible refine Kd.C_alloc ?_ _) | (with_reducible refine Kd.C_drewN ?_ _) | (with_reducible refine Kd.C_drew ?_))); (case side4 => exact HC1.out); rintro e w13 ⟨v126, rfl, ho0, hb⟩; refine ⟨_, rfl, ?_⟩; have n0_ := Aside0.mk (Kd.R_lower ho0 (below_size (by repeat (first | (with_reducible first | exact HB.out | apply below_alloc | apply pw_below_drewN | apply below_drew1) | exact HB.out)))); have n1_ := Aside0.mk (below_step (by repeat (first | (with_reducible first | exact HB.out | apply below_alloc | apply pw_below_drewN | apply below_drew1) | exact HB.out)) hb); clear HB; have HO127 := n0_; have HB := n1_; clear n0_ n1_; (try clear hb); (try clear hb2); (try clear hk); (try clear hi); (try clear ho0)) | ((with_reducible refine gate_callee (f := 9) rfl ?_); refine goesL_ (some 38) rfl rfl Tryd.func9 (by kernel_rfl) rfl #[.slice A1 l1.length c1] rfl (by (try simp only [List.map_toArray, List.map_cons, List.map_nil]); first | done | rfl | (simp only [List.length_drop, List.length_take]; rfl)) ?_; (with_reducible refine (spec_BindID.calls kj5 _ _ l1 t128 t129 _ ?side1 ?side2 A11.out).mono ?_); (case side1 => repeat (first | exact (Kd.C_below HR1.out HB.out) | (with_reducible refine Kd.C_alloc ?_ _) | (with_reducible refine Kd.C_drewN ?_ _) | (with_reducible refine Kd.C_drew ?_))); (case side2 => exact HC1.out); rintro e w14 ⟨v130, rfl, ho0, hb⟩; refine ⟨_, rfl, ?_⟩; have n0_ := Aside0.mk (Kd.R_elder' (by (with_reducible repeat (first | apply Kd.R_alloc | apply Kd.R_drewN | apply Kd.R_drew)); exact HO127.out) (Kd.R_base ho0) hb); have n1_ := Aside0.mk (Kd.R_lower (Kd.R_new' ho0 (Kd.R_lt (by (with_reducible repeat (first | apply Kd.R_alloc | apply Kd.R_drewN | apply Kd.R_drew)); exact HO127.out))) (below_size (by repeat (first | (with_reducible first | exact HB.out | apply below_alloc | apply pw_below_drewN | apply below_drew1) | exact HB.out)))); have n2_ := Aside0.mk (below_step (by repeat (first | (with_reducible first | exact HB.out | apply below_alloc | apply pw_below_drewN | apply below_drew1) | exact HB.out)) hb); clear HO127; clear HB; have HO127 := n0_; have HO131 := n1_; have HB := n2_; clear n0_ n1_ n2_; (try clear hb); (try clear hb2); (try clear hk); (try clear hi); (try clear ho0)))
              (try simp only [Act.put, List.setIfInBounds_toArray, List.set_cons_zero, List.set_cons_succ])
              go_cut [50] (fun v50 wc => ∃ (kq : Nat) (x50_11 : Bool), v50 = .bool x50_11 ∧ Aside0 (laws_FnBindID.j2 kq t124 t125 t128 t129 x50_11 = some r) ∧ Aside0 (kq ≤ kj5) ∧ Aside0 (Kd.R (Kd.int .u8) 5 wc w.heap.size (fun k_ => some k_ ≠ (v130 : Value).ownBlock) v126 t124) ∧ Aside0 (Kd.R (Kd.int .u8) 5 wc w.heap.size (fun k_ => some k_ ≠ (v126 : Value).ownBlock) v130 t128) ∧ Aside0 (Below w.heap.size w wc))
              case first =>
                have H := HC12.out
                clear HC12
                by_cases c15 : (l1.length : Int) = 0
                · rw [if_pos c15] at H
                  have c15b0 : ((l1.length : Int) == 0) = true := beq_iff_eq.mpr c15
                  have c15b1 : ((l1.length : Int) != 0) = false := bne_eq_false_iff_eq.mpr c15
                  clear c15
                  (first | rw [c15b0] | (simp only [i64_w, i32_w]; rw [c15b0]) | skip)
                  as_aux_lemma =>
                    have H' := Aside0.mk H
                    clear H
                    have hcv16 := Kd.C_string (P := Tryd.prog) (A := A0) (c := c0) Tryd.underlying22 Tryd.underlying5 Tryd.underlying9 (Kd.C_below HR0.out HB.out)
                    have hcv17 := own_string (P := Tryd.prog) Tryd.underlying22 Tryd.underlying5 Tryd.underlying9 (Kd.own_of_R HO131.out)
                    go_wp2
                    go_meet
                    case rel => exact ⟨_, (((strOfNums l0).toList != (strOfNums t128).toList)), (by first | rfl | (simp; done) | (simp [*]; done)), H', ⟨by have := HJ2.out; have := HJ5.out; first | omega | exact Nat.le_refl _⟩, ⟨by (with_reducible repeat (first | apply Kd.R_alloc | apply Kd.R_drewN | apply Kd.R_drew)); exact Kd.R_mono HO127.out (fun _ hk => hk.2)⟩, ⟨by (with_reducible repeat (first | apply Kd.R_alloc | apply Kd.R_drewN | apply Kd.R_drew)); exact Kd.R_mono HO131.out (fun _ hk => hk.2)⟩, ⟨by repeat (first | (with_reducible first | exact HB.out | apply below_alloc | apply pw_below_drewN | apply below_drew1) | exact HB.out)⟩⟩
                · rw [if_neg c15] at H
                  have c15b0 : ((l1.length : Int) == 0) = false := beq_eq_false_iff_ne.mpr c15
                  have c15b1 : ((l1.length : Int) != 0) = true := bne_iff_ne.mpr c15
                  have c15b2 : ¬ (l1 = []) := fun h_ => c15 (by rw [h_]; rfl)
                  (first | rw [c15b0] | (simp only [i64_w, i32_w]; rw [c15b0]) | skip)
                  as_aux_lemma =>
                    have H' := Aside0.mk H
                    clear H
                    go_wp2
                    go_meet
                    case rel => exact ⟨_, (false), (by first | rfl | (simp; done) | (simp [*]; done)), H', ⟨by have := HJ2.out; have := HJ5.out; first | omega | exact Nat.le_refl _⟩, ⟨by (with_reducible repeat (first | apply Kd.R_alloc | apply Kd.R_drewN | apply Kd.R_drew)); exact Kd.R_mono HO127.out (fun _ hk => hk.2)⟩, ⟨by (with_reducible repeat (first | apply Kd.R_alloc | apply Kd.R_drewN | apply Kd.R_drew)); exact Kd.R_mono HO131.out (fun _ hk => hk.2)⟩, ⟨by repeat (first | (with_reducible first | exact HB.out | apply below_alloc | apply pw_below_drewN | apply below_drew1) | exact HB.out)⟩⟩
              case rest =>
                clear HC12
                try clear c1
                try clear hcv1
                try clear p2
                try clear c4
                try clear c4b0
                try clear c4b1
                try clear c5
                try clear c7
                try clear c7b0
                try clear c7b1
                try clear c8
                try clear c8b0
                try clear c8b1
                try clear c9
                try clear c15
                try clear c15b0
                try clear c15b1
                try clear c15b2
                try clear hcv16
                try clear hcv17
                try clear p2
                obtain ⟨kq, x50_11, rfl, HA, HJ11, HO_5, HO_7, HB⟩ := hcut
                cases kq with
                | zero => exact absurd HA.out (by simp [laws_FnBindID.j2])
                | succ kj11 =>
                  have H := HA.out
                  clear HA
                  simp only [laws_FnBindID.j2] at H
                  by_cases c18 : x50_11 = true
                  · subst c18
                    have H1 : (some true) = some r := by rw [if_pos rfl] at H; exact H
                    clear H
                    have H := H1
                    clear H1
                    as_aux_lemma =>
                      obtain rfl := Option.some.inj H
                      go_wp2
                      go_ret
                      exact ⟨by first | rfl | (simp [errW_none, errW_some] <;> rfl) | (simp [*, errW_none, errW_some] <;> rfl), by repeat (first | (with_reducible first | exact HB.out | apply below_alloc | apply pw_below_drewN | apply below_drew1) | exact HB.out)⟩
                  · replace c18 := Bool.eq_false_iff.mpr c18
                    subst c18
                    have H1 : (if (t125 == t129) = true then (if t129 = true then (some ((strOfNums t124).toList == (strOfNums t128).toList)) else (some true)) else (some false)) = some r := by rw [if_neg (show ¬ (false = true) by decide)] at H; exact H
                    clear H
                    have H := H1
                    clear H1
                    by_cases c19 : (t125 == t129) = true
                    · rw [if_pos c19] at H
                      have c19b0 : (t125 == t129) = true := c19
                      (try (have c19b1 : decide (t125 = t129) = true := by simpa using c19))
                      (try (have c19b2 : (t125 == t129) = true := by simpa using c19))
                      clear c19
                      by_cases c20 : t129 = true
                      · subst c20
                        have H1 : (some ((strOfNums t124).toList == (strOfNums t128).toList)) = some r := by rw [if_pos rfl] at H; exact H
                        clear H
                        have H := H1
                        clear H1
                        as_aux_lemma =>
                          obtain rfl := Option.some.inj H
                          have hcv21 := own_string (P := Tryd.prog) Tryd.underlying22 Tryd.underlying5 Tryd.underlying9 (Kd.own_of_R HO_5.out)
                          have hcv22 := own_string (P := Tryd.prog) Tryd.underlying22 Tryd.underlying5 Tryd.underlying9 (Kd.own_of_R HO_7.out)
                          go_wp2
                          go_ret
                          exact ⟨by first | rfl | (simp [errW_none, errW_some] <;> rfl) | (simp [*, errW_none, errW_some] <;> rfl), by repeat (first | (with_reducible first | exact HB.out | apply below_alloc | apply pw_below_drewN | apply below_drew1) | exact HB.out)⟩
                      · replace c20 := Bool.eq_false_iff.mpr c20
                        subst c20
                        have H1 : (some true) = some r := by rw [if_neg (show ¬ (false = true) by decide)] at H; exact H
                        clear H
                        have H := H1
                        clear H1
                        as_aux_lemma =>
                          obtain rfl := Option.some.inj H
                          go_wp2
                          go_ret
                          exact ⟨by first | rfl | (simp [errW_none, errW_some] <;> rfl) | (simp [*, errW_none, errW_some] <;> rfl), by repeat (first | (with_reducible first | exact HB.out | apply below_alloc | apply pw_below_drewN | apply below_drew1) | exact HB.out)⟩
                    · rw [if_neg c19] at H
                      have c19b0 : (t125 == t129) = false := by simpa using c19
                      (try (have c19b1 : decide (t125 = t129) = false := by simpa using c19))
                      (try (have c19b2 : (t125 == t129) = false := by simpa using c19))
                      (try (have c19b3 : ¬ (t125 = t129) := by simpa using c19))
                      clear c19
                      as_aux_lemma =>
                        obtain rfl := Option.some.inj H
                        go_wp2
                        go_ret
                        exact ⟨by first | rfl | (simp [errW_none, errW_some] <;> rfl) | (simp [*, errW_none, errW_some] <;> rfl), by repeat (first | (with_reducible first | exact HB.out | apply below_alloc | apply pw_below_drewN | apply below_drew1) | exact HB.out)⟩

/-- THE ONE PURE STATEMENT of laws_FnBindID: yours. -/
def laws_FnBindID.Pure : Prop := ∀ (l0 : List Int) (l1 : List Int), l0.length ≤ maxLen → l0.length * 1 ≤ 140737488351232 → (∀ x ∈ l0, (Lit.int .u8 x).wf = true) → l1.length ≤ maxLen → l1.length * 1 ≤ 140737488351232 → (∀ x ∈ l1, (Lit.int .u8 x).wf = true) → ∃ k, laws_FnBindID.f k l0 l1 = some true
theorem laws_FnBindID.walk (P : laws_FnBindID.Pure) (a0 : Option Addr) (len0 cap0 : Nat) (z0 : List Int) (a1 : Option Addr) (len1 cap1 : Nat) (z1 : List Int) (w : World) (hlaid : Oid.Laid0 w) (w0 : (a0 = none ∧ len0 = 0 ∧ cap0 = 0 ∧ z0 = []) ∨ ∃ x, a0 = some x ∧ len0 ≤ cap0 ∧ cap0 ≤ maxLen ∧ z0.length = cap0 ∧ (∀ i, i < z0.length → w.cell? (x.add i) = some (.int .u8 (z0.getD i 0))) ∧ ∀ n ∈ z0, (Lit.int .u8 n).wf = true) (y0 : len0 * 1 ≤ 140737488351232) (w1 : (a1 = none ∧ len1 = 0 ∧ cap1 = 0 ∧ z1 = []) ∨ ∃ x, a1 = some x ∧ len1 ≤ cap1 ∧ cap1 ≤ maxLen ∧ z1.length = cap1 ∧ (∀ i, i < z1.length → w.cell? (x.add i) = some (.int .u8 (z1.getD i 0))) ∧ ∀ n ∈ z1, (Lit.int .u8 n).wf = true) (y1 : len1 * 1 ≤ 140737488351232) :
    Calls Tryd.prog 4 #[.slice a0 len0 cap0, .slice a1 len1 cap1] w fun e w' => e = .returned (.bool true) ∧ Below w.heap.size w w' := by
  obtain ⟨l0, rfl, hr0, hm0, hw0, hc0⟩ := ReadsInt.ofRowC w0
  obtain ⟨l1, rfl, hr1, hm1, hw1, hc1⟩ := ReadsInt.ofRowC w1
  obtain ⟨k, h⟩ := P l0 l1 hm0 y0 hw0 hm1 y1 hw1
  refine (laws_FnBindID.calls k _ _ l0 _ _ l1 true w hlaid (Kd.C_of_reads (d := (0 : Int)) (h1 := fun _ => rfl) hr0) hc0 (Kd.C_of_reads (d := (0 : Int)) (h1 := fun _ => rfl) hr1) hc1 h).mono ?_
  rintro e w' ⟨rfl, hd⟩
  exact ⟨rfl, hd⟩

end Go.Proofs.YthlpmeiihchdjaaDoor.PB
