import Derived.Test.YtbfhpjkahobgnaaGreatDoorPIxx0
import Derived.Test.YtbfhpjkahobgnaaGreatDoorPIxx1
import Derived.Test.YtbfhpjkahobgnaaGreatDoorPIxx3
namespace Go.Proofs.YtbfhpjkahobgnaaGreatDoor.PIx
open Go.RowKit Go.Proofs.YtbfhpjkahobgnaaGreatDoorW.PrintWords Go.Proofs.YtbfhpjkahobgnaaGreatDoorW.PrintLast Go.Proofs.YtbfhpjkahobgnaaGreatDoorW.PrintMore
attribute [local go_sem] max2_int min2_int max_two min_two max_three min_three max_four min_four
set_option linter.unusedVariables false
set_option maxHeartbeats 8000000
set_option maxRecDepth 100000
set_option linter.unusedSimpArgs false
mutual
def spec_DocParts.j0 : Nat → List Int → List (S27) → Int → Bool → Option ((List (S27)) × List Int × Bool)
  | 0, _, _, _, _ => none
  | k + 1, x0, x2, x5, x20 => if x20 = true then (some (([] : List (S27)), x0, false)) else (if 4 ≤ (x0.length : Int) then (spec_DocParts.l0 k x2 (x0.drop 4) (wrap64 (x5 - 4))) else (none))
def spec_DocParts.l0 : Nat → List (S27) → List Int → Int → Option ((List (S27)) × List Int × Bool)
  | 0, _, _, _ => none
  | k + 1, x2, x3, x7 => if x7 > 1 then ((spec_DocFirst.f k x3).bind fun bt153 => (if bt153.2 = true then (if 0 ≤ bt153.1 then (if bt153.1 ≤ (x3.length : Int) then ((spec_docPart.f k (x3.take (bt153.1 : Int).toNat)).bind fun bt160 => (if x2.length < 1954687338268 then (spec_DocParts.l0 k (x2 ++ [(⟨bt160.1, (⟨bt160.2.1, bt160.2.2.1⟩ : S25), bt160.2.2.2⟩ : S27)]) (x3.drop (bt153.1 : Int).toNat) (wrap64 (x7 - bt153.1))) else (none))) else (none)) else (none)) else (some (x2, x3, false)))) else (some (x2, x3, true))
end
def spec_DocParts.f (k : Nat) (l0 : List Int) : Option ((List (S27)) × List Int × Bool) := (spec_DocNumber.f l0).bind fun bt146 => (if bt146.2 = true then (spec_DocParts.j0 k l0 ([] : List (S27)) bt146.1 (decide (bt146.1 < 0))) else (spec_DocParts.j0 k l0 ([] : List (S27)) bt146.1 true))
theorem spec_DocParts.mono_l : ∀ k, (∀ y0 y1 y2 y3, LeO (spec_DocParts.j0 k y0 y1 y2 y3) (spec_DocParts.j0 (k + 1) y0 y1 y2 y3)) ∧ (∀ y0 y1 y2, LeO (spec_DocParts.l0 k y0 y1 y2) (spec_DocParts.l0 (k + 1) y0 y1 y2))
  | 0 => ⟨fun _ _ _ _ r h => by simp [spec_DocParts.j0] at h, fun _ _ _ r h => by simp [spec_DocParts.l0] at h⟩
  | k + 1 => by
    obtain ⟨ih0, ih1⟩ := spec_DocParts.mono_l k
    refine ⟨?_, ?_⟩
    · intro y0 y1 y2 y3
      unfold spec_DocParts.j0
      have m0_ := @ih0; have m1_ := @ih1; have m2_ := @spec_DocFirst.mono; have m3_ := @spec_docPart.mono; exact HW.mo
    · intro y0 y1 y2
      unfold spec_DocParts.l0
      have m0_ := @ih0; have m1_ := @ih1; have m2_ := @spec_DocFirst.mono; have m3_ := @spec_docPart.mono; exact HW.mo
theorem spec_DocParts.mono : ∀ a0 k, LeO (spec_DocParts.f k a0) (spec_DocParts.f (k + 1) a0) := by
  intro a0 k
  obtain ⟨ih0, ih1⟩ := spec_DocParts.mono_l k
  unfold spec_DocParts.f
  have m0_ := @ih0; have m1_ := @ih1; have m2_ := @spec_DocFirst.mono; have m3_ := @spec_docPart.mono; exact HW.mo
theorem spec_DocParts.calls (k : Nat) (P0_ : Nat → Prop) (A0 : Option Addr) (c0 : Nat) (l0 : List Int) (r1 : List (S27)) (r2 : List Int) (r3 : Bool) (w : World) (hs0 : Kd.V (Kd.int .u8) 5 w w.heap.size (fun k_ => P0_ k_) (.slice A0 l0.length c0) l0) (h : spec_DocParts.f k l0 = some (r1, r2, r3)) :
    Calls Tryz.prog 21 #[.slice A0 l0.length c0] w fun e w' => ∃ v0_ v1_ : Value, e = .returned (.tuple #[v0_, v1_, .bool r3]) ∧ Kd.N k27 27 w' w.heap.size (fun k_ => (P0_ k_ ∨ w.heap.size ≤ k_)) v0_ r1 ∧ Kd.V (Kd.int .u8) 5 w' w.heap.size (fun k_ => (P0_ k_ ∨ w.heap.size ≤ k_) ∧ some k_ ≠ (v0_ : Value).ownBlock) v1_ r2 ∧ Below w.heap.size w w' := by
  have HO0 := Aside0.mk (show Kd.V (Kd.int .u8) 5 w w.heap.size (fun k_ => (P0_ k_ ∨ w.heap.size ≤ k_)) (.slice A0 l0.length c0) l0 from Kd.V_mono hs0 (fun k_ hk => .inl hk)); have HB := Aside0.mk (Below.refl w.heap.size w); have H : ((spec_DocNumber.f l0).bind fun bt146 => (if bt146.2 = true then (spec_DocParts.j0 k l0 ([] : List (S27)) bt146.1 (decide (bt146.1 < 0))) else (spec_DocParts.j0 k l0 ([] : List (S27)) bt146.1 true))) = some (r1, r2, r3) := h; clear h; replace H := Option.bind_eq_some_iff.mp H; obtain ⟨⟨t146, t147⟩, A20, H⟩ := H; replace H : (if t147 = true then (spec_DocParts.j0 k l0 ([] : List (S27)) t146 (decide (t146 < 0))) else (spec_DocParts.j0 k l0 ([] : List (S27)) t146 true)) = some (r1, r2, r3) := H; have A2 := Aside0.mk A20; clear A20; have HC3 := Aside0.mk H; clear H
  go_enter Tryz.func21, Tryz.ntmps21
  go_upto_region 2 with (first | ((with_reducible refine gate_callee (f := 39) rfl ?_); refine HW.gz (some 12) rfl rfl Tryz.func39 (by kernel_rfl) rfl #[.slice A0 l0.length c0] rfl ?_; (with_reducible refine (spec_DocNumber.calls _ _ l0 t146 t147 _ ?side1 ?side2 A2.out).mono ?_); (case side1 => repeat (first | exact (Kd.V_reads' HO0.out).2.2 | (with_reducible refine Kd.C_alloc ?_ _) | (with_reducible refine Kd.C_drewN ?_ _) | (with_reducible refine Kd.C_drew ?_))); (case side2 => exact (Kd.V_reads' HO0.out).2.1); rintro e w' ⟨rfl, ⟨nd, rfl⟩⟩; refine ⟨_, rfl, ?_⟩))
  (try simp only [Act.put, List.setIfInBounds_toArray, List.set_cons_zero, List.set_cons_succ])
  go_cut [20] (fun v20 wc => ∃ (kq : Nat) (x20_2 : Bool), v20 = .bool x20_2 ∧ Aside0 (spec_DocParts.j0 kq l0 ([] : List (S27)) t146 x20_2 = some (r1, r2, r3)) ∧ Aside0 (kq ≤ k) ∧ Aside0 (Kd.V (Kd.int .u8) 5 wc w.heap.size (fun k_ => (P0_ k_ ∨ w.heap.size ≤ k_) ∧ some k_ ≠ ((.slice none 0 0) : Value).ownBlock) (.slice A0 l0.length c0) l0) ∧ Aside0 (Kd.N k27 27 wc w.heap.size (fun k_ => (P0_ k_ ∨ w.heap.size ≤ k_)) (.slice none 0 0) ([] : List (S27))) ∧ Aside0 (Below w.heap.size w wc))
  case first =>
    have H := HC3.out; clear HC3
    by_cases c4 : t147 = true
    · subst c4
      have H1 : (spec_DocParts.j0 k l0 ([] : List (S27)) t146 (decide (t146 < 0))) = some (r1, r2, r3) := by rw [if_pos rfl] at H; exact H
      clear H; have H := H1; clear H1
      as_aux_lemma =>
        have H' := Aside0.mk H; clear H
        go_wp2
        go_meet
        case rel => exact ⟨_, (decide (t146 < 0)), HW.rs, H', ⟨by first | omega | exact Nat.le_refl _⟩, ⟨by (with_reducible repeat (first | apply Kd.V_alloc | apply Kd.V_drewN | apply Kd.V_drew)); exact Kd.V_mono HO0.out (fun _ hk => ⟨hk, (by simp [Value.ownBlock])⟩)⟩, ⟨by first | exact Kd.S_nil _ _ _ _ _ | exact Kd.N_nil _ _ _ _ _ | exact Kd.V_nil _ _ _ _ _ | exact Kd.Q_nil _ _ _ _ _ | exact Kd.R_nil _ _ _ _ _⟩, ⟨HW.zb⟩⟩
    replace c4 := Bool.eq_false_iff.mpr c4; subst c4
    have H1 : (spec_DocParts.j0 k l0 ([] : List (S27)) t146 true) = some (r1, r2, r3) := by rw [if_neg (show ¬ (false = true) by decide)] at H; exact H
    clear H; have H := H1; clear H1
    as_aux_lemma =>
      have H' := Aside0.mk H; clear H
      go_wp2
      go_meet
      case rel => exact ⟨_, (true), HW.rs, H', ⟨by first | omega | exact Nat.le_refl _⟩, ⟨by (with_reducible repeat (first | apply Kd.V_alloc | apply Kd.V_drewN | apply Kd.V_drew)); exact Kd.V_mono HO0.out (fun _ hk => ⟨hk, (by simp [Value.ownBlock])⟩)⟩, ⟨by first | exact Kd.S_nil _ _ _ _ _ | exact Kd.N_nil _ _ _ _ _ | exact Kd.V_nil _ _ _ _ _ | exact Kd.Q_nil _ _ _ _ _ | exact Kd.R_nil _ _ _ _ _⟩, ⟨HW.zb⟩⟩
  case rest =>
    clear HC3
    (try clear c2); (try clear p2); (try clear c3); (try clear c4)
    obtain ⟨kq, x20_2, rfl, HA, HJ2, HO_0, HO_2, HB⟩ := hcut
    cases kq with
    | zero => exact absurd HA.out (by simp [spec_DocParts.j0])
    | succ kj2 =>
      have H := HA.out; clear HA
      simp only [spec_DocParts.j0] at H
      by_cases c5 : x20_2 = true
      · subst c5
        have H1 : (some (([] : List (S27)), l0, false)) = some (r1, r2, r3) := by rw [if_pos rfl] at H; exact H
        clear H; have H := H1; clear H1
        as_aux_lemma =>
          simp only [Option.some.injEq, Prod.mk.injEq] at H
          obtain ⟨rfl, rfl, rfl⟩ := H
          go_wp2
          go_ret3
          exact ⟨_, _, rfl, by first | exact Kd.S_nil _ _ _ _ _ | exact Kd.N_nil _ _ _ _ _ | exact Kd.V_nil _ _ _ _ _ | exact Kd.Q_nil _ _ _ _ _ | exact Kd.R_nil _ _ _ _ _, by (with_reducible repeat (first | apply Kd.V_alloc | apply Kd.V_drewN | apply Kd.V_drew)); exact Kd.V_mono HO_0.out (fun _ hk => ⟨hk.1, (by simp [Value.ownBlock])⟩), HW.zb⟩
      replace c5 := Bool.eq_false_iff.mpr c5; subst c5
      have H1 : (if 4 ≤ (l0.length : Int) then (spec_DocParts.l0 kj2 ([] : List (S27)) (l0.drop 4) (wrap64 (t146 - 4))) else (none)) = some (r1, r2, r3) := by rw [if_neg (show ¬ (false = true) by decide)] at H; exact H
      clear H; have H := H1; clear H1
      by_cases c6 : 4 ≤ (l0.length : Int)
      rotate_left
      · rw [if_neg c6] at H
        exact absurd H (by simp)
      rw [if_pos c6] at H; have c6b0 := eq_true c6; have c6b1 : decide (4 ≤ (l0.length : Int)) = true := decide_eq_true c6; clear c6; obtain ⟨y148, hy148⟩ : ∃ y_ : List Int, y_ = (l0.drop 4) := ⟨_, rfl⟩
      replace H : (spec_DocParts.l0 kj2 ([] : List (S27)) y148 (wrap64 (t146 - 4))) = some (r1, r2, r3) := by (try rw [hy148]); exact HW.rp
      have Ny148 := Aside0.mk hy148; clear hy148; have H' := Aside0.mk H; clear H
      have q7 : (4 : Int) ≤ ((l0.length : Int) : Int) := HW.od
      obtain ⟨i07, hi07, _, hsz7, _⟩ := info_parts info5; have hroom7 : l0.length ≤ c0 := (Kd.V_reads' HO_0.out).2.1; have hC7 : Kd.F (Kd.int .u8) _ _ A0 l0.length l0 := (Kd.V_at (base := w.heap.size) HO_0.out).2.2
      have hcut7 := cut_from (P := Tryz.prog) 22 5 .i64 Tryz.underlying22 hi07 1 hsz7 A0 l0.length c0 4 (by omega) q7
      have hr7 := Kd.F_cut (m := (4 : Int).toNat) (c := c0) hC7 (by omega) hroom7
      obtain ⟨A7, hA7⟩ : ∃ A1, A1 = (if c0 = (4 : Int).toNat then A0 else (A0 : Option Addr).map (·.add ((4 : Int).toNat * 1))) := ⟨_, rfl⟩; obtain ⟨c7, hc7⟩ : ∃ c1, c1 = c0 - (4 : Int).toNat := ⟨_, rfl⟩
      have hy7 : y148.length = l0.length - (4 : Int).toNat := (by rw [Ny148.out, List.length_drop] <;> omega)
      rw [show (l0).drop (4 : Int).toNat = y148 from Ny148.out.symm] at hr7
      replace hr7 : Kd.F (Kd.int .u8) _ _ A7 y148.length y148 := (by rw [hA7]; exact hr7)
      rw [← hy7, ← hA7, ← hc7] at hcut7
      have HO152 := Aside0.mk (show Kd.V (Kd.int .u8) 5 _ w.heap.size _ (.slice A7 y148.length c7) y148 from Kd.V_mk (by rw [hy7, hc7]; exact Nat.sub_le_sub_right hroom7 _) hr7)
      have HC152 := Aside0.mk (show y148.length ≤ c7 from by rw [hy7, hc7]; exact Nat.sub_le_sub_right hroom7 _)
      clear hr7 hC7 hroom7 hi07 hsz7 hc7; have KY7 := Aside0.mk hy7; have KA7 := Aside0.mk hA7; clear hy7 hA7; replace q7 := eq_true q7
      go_wp2
      go_loopg [2, 3, 7] kj2 (fun kq v2 v3 v7 w' => ∃ (x2_2 : List (S27)) (x3_2 : List Int) (x7_2 : Int), v7 = .int .i64 x7_2 ∧ Aside0 (spec_DocParts.l0 kq x2_2 x3_2 x7_2 = some (r1, r2, r3)) ∧ Aside0 (kq ≤ kj2) ∧ Aside0 (Kd.N k27 27 w' w.heap.size (fun k_ => (P0_ k_ ∨ w.heap.size ≤ k_)) v2 x2_2) ∧ Aside0 (Kd.V (Kd.int .u8) 5 w' w.heap.size (fun k_ => (P0_ k_ ∨ w.heap.size ≤ k_) ∧ some k_ ≠ (v2 : Value).ownBlock) v3 x3_2) ∧ Aside0 (Below w.heap.size w w'))
      case atStart => exact ⟨(([] : List (S27))), (y148), (wrap64 (t146 - 4)), HW.rs, H', ⟨Nat.le_refl _⟩, ⟨by (with_reducible repeat (first | apply Kd.N_alloc | apply Kd.N_drewN | apply Kd.N_drew)); exact HO_2.out⟩, ⟨HW.zV HO152.out⟩, ⟨HW.zb⟩⟩
      case round =>
        clear H'
        (try clear c1); (try clear c2); (try clear p2); (try clear c3); (try clear c4); (try clear c5); (try clear c6); (try clear c6b0); (try clear c6b1); (try clear p6); (try clear c7); (try clear q7); (try clear p2); (try clear q7)
        obtain ⟨x2_2, x3_2, x7_2, rfl, HA, HK2, HO_2, HO_3, HB⟩ := hrel
        cases gk with
        | zero => exact absurd HA.out (by simp [spec_DocParts.l0])
        | succ k2 =>
          have H := HA.out; clear HA
          simp only [spec_DocParts.l0] at H
          by_cases c8 : x7_2 > 1
          rotate_left
          · rw [if_neg c8] at H
            have c8b0 : decide (1 < x7_2) = false := decide_eq_false c8; clear c8
            as_aux_lemma =>
              simp only [Option.some.injEq, Prod.mk.injEq] at H
              obtain ⟨rfl, rfl, rfl⟩ := H
              go_wp2
              go_ret3
              exact ⟨_, _, rfl, by (with_reducible repeat (first | apply Kd.N_alloc | apply Kd.N_drewN | apply Kd.N_drew)); exact HO_2.out, HW.zV HO_3.out, HW.zb⟩
          rw [if_pos c8] at H; have c8b0 : decide (1 < x7_2) = true := decide_eq_true c8; clear c8; replace H := Option.bind_eq_some_iff.mp H; obtain ⟨⟨t153, t154⟩, A90, H⟩ := H; replace H : (if t154 = true then (if 0 ≤ t153 then (if t153 ≤ (x3_2.length : Int) then ((spec_docPart.f k2 (x3_2.take (t153 : Int).toNat)).bind fun bt160 => (if x2_2.length < 1954687338268 then (spec_DocParts.l0 k2 (x2_2 ++ [(⟨bt160.1, (⟨bt160.2.1, bt160.2.2.1⟩ : S25), bt160.2.2.2⟩ : S27)]) (x3_2.drop (t153 : Int).toNat) (wrap64 (x7_2 - t153))) else (none))) else (none)) else (none)) else (some (x2_2, x3_2, false))) = some (r1, r2, r3) := H; have A9 := Aside0.mk A90; clear A90
          by_cases c10 : t154 = true
          rotate_left
          · replace c10 := Bool.eq_false_iff.mpr c10
            subst c10
            have H1 : (some (x2_2, x3_2, false)) = some (r1, r2, r3) := by rw [if_neg (show ¬ (false = true) by decide)] at H; exact H
            clear H; have H := H1; clear H1
            as_aux_lemma =>
              simp only [Option.some.injEq, Prod.mk.injEq] at H
              obtain ⟨rfl, rfl, rfl⟩ := H; obtain ⟨Ao24, co24, eo24⟩ := Kd.V_slice HO_3.out; subst eo24
              go_wp2_with (first | ((with_reducible refine gate_callee (f := 40) rfl ?_); refine HW.gz (some 30) rfl rfl Tryz.func40 (by kernel_rfl) rfl #[.slice Ao24 x3_2.length co24] rfl ?_; (with_reducible refine (spec_DocFirst.calls k2 _ _ x3_2 t153 false _ ?side1 ?side2 A9.out).mono ?_); (case side1 => repeat (first | exact (Kd.V_reads' HO_3.out).2.2 | (with_reducible refine Kd.C_alloc ?_ _) | (with_reducible refine Kd.C_drewN ?_ _) | (with_reducible refine Kd.C_drew ?_))); (case side2 => exact (Kd.V_reads' HO_3.out).2.1); rintro e w' ⟨rfl, ⟨nd, rfl⟩⟩; refine ⟨_, rfl, ?_⟩))
              go_ret3
              exact ⟨_, _, rfl, by (with_reducible repeat (first | apply Kd.N_alloc | apply Kd.N_drewN | apply Kd.N_drew)); exact HO_2.out, HW.zV HO_3.out, HW.zb⟩
          subst c10
          have H1 : (if 0 ≤ t153 then (if t153 ≤ (x3_2.length : Int) then ((spec_docPart.f k2 (x3_2.take (t153 : Int).toNat)).bind fun bt160 => (if x2_2.length < 1954687338268 then (spec_DocParts.l0 k2 (x2_2 ++ [(⟨bt160.1, (⟨bt160.2.1, bt160.2.2.1⟩ : S25), bt160.2.2.2⟩ : S27)]) (x3_2.drop (t153 : Int).toNat) (wrap64 (x7_2 - t153))) else (none))) else (none)) else (none)) = some (r1, r2, r3) := by rw [if_pos rfl] at H; exact H
          clear H; have H := H1; clear H1
          by_cases c11 : 0 ≤ t153
          rotate_left
          · rw [if_neg c11] at H
            exact absurd H (by simp)
          rw [if_pos c11] at H; have c11b0 := eq_true c11; have c11b1 : decide (0 ≤ t153) = true := decide_eq_true c11; clear c11
          by_cases c12 : t153 ≤ (x3_2.length : Int)
          rotate_left
          · rw [if_neg c12] at H
            exact absurd H (by simp)
          rw [if_pos c12] at H; have c12b0 := eq_true c12; have c12b1 : decide (t153 ≤ (x3_2.length : Int)) = true := decide_eq_true c12; clear c12; obtain ⟨y155, hy155⟩ : ∃ y_ : List Int, y_ = (x3_2.take (t153 : Int).toNat) := ⟨_, rfl⟩
          replace H : ((spec_docPart.f k2 y155).bind fun bt160 => (if x2_2.length < 1954687338268 then (spec_DocParts.l0 k2 (x2_2 ++ [(⟨bt160.1, (⟨bt160.2.1, bt160.2.2.1⟩ : S25), bt160.2.2.2⟩ : S27)]) (x3_2.drop (t153 : Int).toNat) (wrap64 (x7_2 - t153))) else (none))) = some (r1, r2, r3) := by (try rw [hy155]); exact HW.rp
          have Ny155 := Aside0.mk hy155; clear hy155; replace H := Option.bind_eq_some_iff.mp H; obtain ⟨⟨t160, t161, t162, t165⟩, A130, H⟩ := H; replace H : (if x2_2.length < 1954687338268 then (spec_DocParts.l0 k2 (x2_2 ++ [(⟨t160, (⟨t161, t162⟩ : S25), t165⟩ : S27)]) (x3_2.drop (t153 : Int).toNat) (wrap64 (x7_2 - t153))) else (none)) = some (r1, r2, r3) := H; have A13 := Aside0.mk A130; clear A130
          by_cases c14 : x2_2.length < 1954687338268
          rotate_left
          · rw [if_neg c14] at H
            exact absurd H (by simp)
          rw [if_pos c14] at H; have LMc14 := Aside0.mk c14; clear c14; obtain ⟨y168, hy168⟩ : ∃ y_ : List (S27), y_ = (x2_2 ++ [(⟨t160, (⟨t161, t162⟩ : S25), t165⟩ : S27)]) := ⟨_, rfl⟩
          replace H : (spec_DocParts.l0 k2 y168 (x3_2.drop (t153 : Int).toNat) (wrap64 (x7_2 - t153))) = some (r1, r2, r3) := by (try rw [hy168]); exact HW.rp
          have Ny168 := Aside0.mk hy168; clear hy168
          have c15b0 := eq_true (HW.od : 0 ≤ t153)
          have c16b0 := eq_true (HW.od : t153 ≤ (x3_2.length : Int))
          obtain ⟨y171, hy171⟩ : ∃ y_ : List Int, y_ = (x3_2.drop (t153 : Int).toNat) := ⟨_, rfl⟩
          replace H : (spec_DocParts.l0 k2 y168 y171 (wrap64 (x7_2 - t153))) = some (r1, r2, r3) := by (try rw [hy171]); exact HW.rp
          have Ny171 := Aside0.mk hy171; clear hy171
          as_aux_lemma =>
            have H' := Aside0.mk H; clear H; obtain ⟨Ao17, co17, eo17⟩ := Kd.V_slice HO_3.out; subst eo17
            go_wp2_with (first | ((with_reducible refine gate_callee (f := 40) rfl ?_); refine HW.gz (some 30) rfl rfl Tryz.func40 (by kernel_rfl) rfl #[.slice Ao17 x3_2.length co17] rfl ?_; (with_reducible refine (spec_DocFirst.calls k2 _ _ x3_2 t153 true _ ?side1 ?side2 A9.out).mono ?_); (case side1 => repeat (first | exact (Kd.V_reads' HO_3.out).2.2 | (with_reducible refine Kd.C_alloc ?_ _) | (with_reducible refine Kd.C_drewN ?_ _) | (with_reducible refine Kd.C_drew ?_))); (case side2 => exact (Kd.V_reads' HO_3.out).2.1); rintro e w' ⟨rfl, ⟨nd, rfl⟩⟩; refine ⟨_, rfl, ?_⟩; have q18 : (t153 : Int) ≤ ((x3_2.length : Int) : Int) := HW.od; obtain ⟨i018, hi018, _, hsz18, _⟩ := info_parts info5; have hroom18 : x3_2.length ≤ co17 := (Kd.V_reads' HO_3.out).2.1; have hC18 : Kd.F (Kd.int .u8) _ _ Ao17 x3_2.length x3_2 := (Kd.V_at (base := w.heap.size) HO_3.out).2.2; have hcut18 := cut_to (P := Tryz.prog) 22 5 .i64 Tryz.underlying22 hi018 Ao17 x3_2.length co17 t153 (HW.od) q18 hroom18; have hr18 := Kd.F_take (m := (t153 : Int).toNat) hC18 (by omega); have hy18 : y155.length = (t153 : Int).toNat := (by rw [Ny155.out, List.length_take]; omega); rw [← Ny155.out] at hr18; rw [← hy18] at hcut18; have HO159 := Aside0.mk (show Kd.V (Kd.int .u8) 5 _ w.heap.size _ (.slice Ao17 y155.length co17) y155 from Kd.V_mk (by omega) hr18); have HC159 := Aside0.mk (show y155.length ≤ co17 from by omega); clear hr18 hC18 hroom18 hi018 hsz18; have KY18 := Aside0.mk hy18; clear hy18; replace q18 := eq_true q18) | ((with_reducible refine gate_callee (f := 41) rfl ?_); refine HW.gz (some 41) rfl rfl Tryz.func41 (by kernel_rfl) rfl #[.slice Ao17 y155.length co17] rfl ?_; (with_reducible refine (spec_docPart.calls k2 (fun k_ => ((P0_ k_ ∨ w.heap.size ≤ k_) ∧ some k_ ≠ (u2 : Value).ownBlock)) _ _ y155 t160 t161 t162 t165 _ ?side1 A13.out).mono ?_); (case side1 => exact HO159.out); rintro e w19 ⟨v163, v166, rfl, ho0, ho1, hb⟩; refine ⟨_, rfl, ?_⟩; have n0_ := Aside0.mk (Kd.N_below (by (with_reducible repeat (first | apply Kd.N_alloc | apply Kd.N_drewN | apply Kd.N_drew)); exact HO_2.out) hb); have n1_ := Aside0.mk (Kd.V_below (HW.zV HO_3.out) hb); have n3_ := Aside0.mk (Kd.V_lower (Kd.V_mono (ok' := fun k_ => (P0_ k_ ∨ w.heap.size ≤ k_) ∧ some k_ ≠ (u2 : Value).ownBlock) ho0 (fun k_ hk_ => ⟨Or.elim hk_ (fun hs_ => hs_.1) (fun hn_ => (.inr (Nat.le_trans (below_size HW.zb) hn_))), Or.elim hk_ (fun hs_ => hs_.2) (fun hn_ => (Kd.fresh' (Kd.N_lt (by (with_reducible repeat (first | apply Kd.N_alloc | apply Kd.N_drewN | apply Kd.N_drew)); exact HO_2.out)) k_ hn_))⟩)) (below_size HW.zb)); have n4_ := Aside0.mk (Kd.V_lower (Kd.V_mono (ok' := fun k_ => (P0_ k_ ∨ w.heap.size ≤ k_) ∧ some k_ ≠ (u2 : Value).ownBlock) ho1 (fun k_ hk_ => ⟨Or.elim hk_ (fun hs_ => hs_.1) (fun hn_ => (.inr (Nat.le_trans (below_size HW.zb) hn_))), Or.elim hk_ (fun hs_ => hs_.2) (fun hn_ => (Kd.fresh' (Kd.N_lt (by (with_reducible repeat (first | apply Kd.N_alloc | apply Kd.N_drewN | apply Kd.N_drew)); exact HO_2.out)) k_ hn_))⟩)) (below_size HW.zb)); have n5_ := Aside0.mk (below_step HW.zb hb); clear HO_2; clear HO_3; clear HB; have HO_2 := n0_; have HO_3 := n1_; have HO164 := n3_; have HO167 := n4_; have HB := n5_; clear n0_ n1_ n3_ n4_ n5_; (try clear hb); (try clear ho0); (try clear ho1); obtain ⟨Ao21, co21, eo21⟩ := Kd.V_slice HO164.out; subst eo21; obtain ⟨Ao22, co22, eo22⟩ := Kd.V_slice HO167.out; subst eo22) | ((with_reducible refine gate_builtin (b := .append) (xs := #[.tmp 37, .tmp 42]) rfl ?_); at_builtin; refine Kd.N_append k27 (w0 := w) w.heap.size rfl (.tmp 37) (.tmp 42) 54 27 (.agg #[(.string ⟨#[]⟩), (.int .i64 0), (.slice none 0 0), (.slice none 0 0)]) 72 rfl Tryz.underlying54 info27 rfl (by decide) (by omega) u2 x2_2 (⟨t160, (⟨t161, t162⟩ : S25), t165⟩ : S27) [.string t160, .int .i64 t161, .slice Ao21 t162.length co21, .slice Ao22 t165.length co22] (fun k_ => (P0_ k_ ∨ w.heap.size ≤ k_)) (fun k_ => ((fun k_ => (P0_ k_ ∨ w.heap.size ≤ k_))) k_ ∧ some k_ ≠ (u2 : Value).ownBlock) rfl rfl ?aP (fun _ hk => hk) ?aF ?aO ?aB ?aS ?aL ?_; (case aP => exact (k27_mkF _ _ (⟨t160, (⟨t161, t162⟩ : S25), t165⟩ : S27) (Kd.V_reads' (Kd.V_mono (ok' := (fun k_ => ((fun k_ => (P0_ k_ ∨ w.heap.size ≤ k_))) k_ ∧ some k_ ≠ (u2 : Value).ownBlock)) (HO164.out) (fun k_ hk => ⟨hk.1, hk.2⟩))).2.1 (Kd.V_F (Kd.V_mono (ok' := (fun k_ => ((fun k_ => (P0_ k_ ∨ w.heap.size ≤ k_))) k_ ∧ some k_ ≠ (u2 : Value).ownBlock)) (HO164.out) (fun k_ hk => ⟨hk.1, hk.2⟩))) (Kd.V_reads' (Kd.V_mono (ok' := (fun k_ => ((fun k_ => (P0_ k_ ∨ w.heap.size ≤ k_))) k_ ∧ some k_ ≠ (u2 : Value).ownBlock)) (HO167.out) (fun k_ hk => ⟨hk.1, hk.2⟩))).2.1 (Kd.V_F (Kd.V_mono (ok' := (fun k_ => ((fun k_ => (P0_ k_ ∨ w.heap.size ≤ k_))) k_ ∧ some k_ ≠ (u2 : Value).ownBlock)) (HO167.out) (fun k_ hk => ⟨hk.1, hk.2⟩))))); (case aB => exact HW.zb); (case aF => exact (fun k_ hk => (.inr (Nat.le_trans (below_size HW.zb) hk)))); (case aO => exact (by (with_reducible repeat (first | apply Kd.N_alloc | apply Kd.N_drewN | apply Kd.N_drew)); exact HO_2.out)); (case aS => exact (below_size HW.zb)); (case aL => have := LMc14.out; omega); intro v169 w20 ho hb hg hat; rw [← Ny168.out] at ho; have n0_ := Aside0.mk (Kd.V_afterv (ok := (fun k_ => (P0_ k_ ∨ w.heap.size ≤ k_))) (HW.zV HO_3.out) hg hat); have n4_ := Aside0.mk (hb); have n5_ := Aside0.mk (ho); clear HO_3; clear HB; clear HO_2; have HO_3 := n0_; have HB := n4_; have HO170 := n5_; clear n0_ n4_ n5_; clear ho hb hg hat; have q23 : (t153 : Int) ≤ ((x3_2.length : Int) : Int) := HW.od; obtain ⟨i023, hi023, _, hsz23, _⟩ := info_parts info5; have hroom23 : x3_2.length ≤ co17 := (Kd.V_reads' HO_3.out).2.1; have hC23 : Kd.F (Kd.int .u8) _ _ Ao17 x3_2.length x3_2 := (Kd.V_at (base := w.heap.size) HO_3.out).2.2; have q023 : (0 : Int) ≤ (t153 : Int) := HW.od; have hcut23 := cut_from (P := Tryz.prog) 22 5 .i64 Tryz.underlying22 hi023 1 hsz23 Ao17 x3_2.length co17 t153 q023 q23; have hr23 := Kd.F_cut (m := (t153 : Int).toNat) (c := co17) hC23 (by omega) hroom23; obtain ⟨A23, hA23⟩ : ∃ A1, A1 = (if co17 = (t153 : Int).toNat then Ao17 else (Ao17 : Option Addr).map (·.add ((t153 : Int).toNat * 1))) := ⟨_, rfl⟩; obtain ⟨c23, hc23⟩ : ∃ c1, c1 = co17 - (t153 : Int).toNat := ⟨_, rfl⟩; have hy23 : y171.length = x3_2.length - (t153 : Int).toNat := (by rw [Ny171.out, List.length_drop] <;> omega); rw [show (x3_2).drop (t153 : Int).toNat = y171 from Ny171.out.symm] at hr23; replace hr23 : Kd.F (Kd.int .u8) _ _ A23 y171.length y171 := (by rw [hA23]; exact hr23); rw [← hy23, ← hA23, ← hc23] at hcut23; have HO175 := Aside0.mk (show Kd.V (Kd.int .u8) 5 _ w.heap.size _ (.slice A23 y171.length c23) y171 from Kd.V_mk (by rw [hy23, hc23]; exact Nat.sub_le_sub_right hroom23 _) hr23); have HC175 := Aside0.mk (show y171.length ≤ c23 from by rw [hy23, hc23]; exact Nat.sub_le_sub_right hroom23 _); clear hr23 hC23 hroom23 hi023 hsz23 hc23; have KY23 := Aside0.mk hy23; have KA23 := Aside0.mk hA23; clear hy23 hA23; replace q23 := eq_true q23))
            go_roundg k2
            case measure => have := HJ2.out; have := HK2.out; omega
            case rel => exact ⟨(y168), (y171), (wrap64 (x7_2 - t153)), HW.rs, H', ⟨by have := HJ2.out; have := HK2.out; omega⟩, ⟨by (with_reducible repeat (first | apply Kd.N_alloc | apply Kd.N_drewN | apply Kd.N_drew)); exact HO170.out⟩, ⟨HW.zV HO175.out⟩, ⟨HW.zb⟩⟩
def spec_DocAt.j0 : Nat → Int → List (S27) → Bool → Bool → Option (ByteArray × Int × List Int × List Int × Int)
  | 0, _, _, _, _ => none
  | k + 1, x1, x6, x8, x22 => if x22 = true then (if 0 ≤ x1 then (if x1 < (x6.length : Int) then (some ((rd_T27 x6 x1).f0, (rd_T27 x6 x1).f1.f0, (rd_T27 x6 x1).f1.f1, (rd_T27 x6 x1).f2, 0)) else (none)) else (none)) else (if x8 = true then (some ((⟨#[]⟩ : ByteArray), 0, ([] : List Int), ([] : List Int), 7)) else (some ((⟨#[]⟩ : ByteArray), 0, ([] : List Int), ([] : List Int), 1)))
def spec_DocAt.f (k : Nat) (l0 : List Int) (a1 : Int) : Option (ByteArray × Int × List Int × List Int × Int) := (spec_DocParts.f k l0).bind fun bt177 => (if a1 ≥ 0 then (spec_DocAt.j0 k a1 bt177.1 bt177.2.2 (decide (a1 < (bt177.1.length : Int)))) else (spec_DocAt.j0 k a1 bt177.1 bt177.2.2 false))
theorem spec_DocAt.mono_l : ∀ k, (∀ y0 y1 y2 y3, LeO (spec_DocAt.j0 k y0 y1 y2 y3) (spec_DocAt.j0 (k + 1) y0 y1 y2 y3))
  | 0 => fun _ _ _ _ r h => by simp [spec_DocAt.j0] at h
  | k + 1 => by
    have ih0 := spec_DocAt.mono_l k
    · intro y0 y1 y2 y3
      unfold spec_DocAt.j0
      have m0_ := @ih0; have m1_ := @spec_DocParts.mono; exact HW.mo
theorem spec_DocAt.mono : ∀ a0 a1 k, LeO (spec_DocAt.f k a0 a1) (spec_DocAt.f (k + 1) a0 a1) := by
  intro a0 a1 k
  have ih0 := spec_DocAt.mono_l k
  unfold spec_DocAt.f
  have m0_ := @ih0; have m1_ := @spec_DocParts.mono; exact HW.mo
theorem spec_DocAt.calls (k : Nat) (P0_ : Nat → Prop) (A0 : Option Addr) (c0 : Nat) (l0 : List Int) (a1 : Int) (r1 : ByteArray) (r2 : Int) (r3 : List Int) (r4 : List Int) (r5 : Int) (w : World) (hs0 : Kd.V (Kd.int .u8) 5 w w.heap.size (fun k_ => P0_ k_) (.slice A0 l0.length c0) l0) (h : spec_DocAt.f k l0 a1 = some (r1, r2, r3, r4, r5)) :
    Calls Tryz.prog 6 #[.slice A0 l0.length c0, .int .i64 a1] w fun e w' => ∃ v2_ v3_ : Value, e = .returned (.tuple #[.agg #[.string r1, .int .i64 r2, v2_, v3_], .int .i64 r5]) ∧ Kd.V (Kd.int .u8) 5 w' w.heap.size (fun k_ => (P0_ k_ ∨ w.heap.size ≤ k_)) v2_ r3 ∧ Kd.V (Kd.int .u8) 5 w' w.heap.size (fun k_ => (P0_ k_ ∨ w.heap.size ≤ k_)) v3_ r4 ∧ Below w.heap.size w w' := by
  have hu27 := Tryz.underlying27; have HO0 := Aside0.mk (show Kd.V (Kd.int .u8) 5 w w.heap.size (fun k_ => (P0_ k_ ∨ w.heap.size ≤ k_)) (.slice A0 l0.length c0) l0 from Kd.V_mono hs0 (fun k_ hk => .inl hk)); have HB := Aside0.mk (Below.refl w.heap.size w); have H : ((spec_DocParts.f k l0).bind fun bt177 => (if a1 ≥ 0 then (spec_DocAt.j0 k a1 bt177.1 bt177.2.2 (decide (a1 < (bt177.1.length : Int)))) else (spec_DocAt.j0 k a1 bt177.1 bt177.2.2 false))) = some (r1, r2, r3, r4, r5) := h; clear h; replace H := Option.bind_eq_some_iff.mp H; obtain ⟨⟨t177, t180, t183⟩, A30, H⟩ := H; replace H : (if a1 ≥ 0 then (spec_DocAt.j0 k a1 t177 t183 (decide (a1 < (t177.length : Int)))) else (spec_DocAt.j0 k a1 t177 t183 false)) = some (r1, r2, r3, r4, r5) := H; have A3 := Aside0.mk A30; clear A30; have HC4 := Aside0.mk H; clear H
  go_enter Tryz.func6, Tryz.ntmps6
  go_upto_region 2 with (first | ((with_reducible refine gate_dst (N := 4) rfl ?_); (try (refine gate_guard (by rfl) ?_; dsimp only)); refine box_event ?hg (N := 4) ?hd (cs := #[.string (⟨#[]⟩ : ByteArray), .int .i64 0, .slice none 0 0, .slice none 0 0]) (t := 27) ?hr ?_; (case hd => rfl); (case hg => rfl); (case hr => first | (go_simp; done) | (go_simp; rfl)); intro gb176 hg w5 hbox hb; have n0_ := Aside0.mk (Kd.V_below (Kd.V_elderB (HW.zV HO0.out) gb176 (Nat.le_of_eq hg.symm)) hb); have n1_ := Aside0.mk (below_step HW.zb hb); have n2_ := Aside0.mk (hbox); have n4_ := Aside0.mk ((by rw [hg]; exact (below_size HW.zb) : w.heap.size ≤ gb176)); clear HO0; clear HB; have HO0 := n0_; have HB := n1_; have BK176 := n2_; have GE176 := n4_; clear n0_ n1_ n2_ n4_; clear hb hbox hg) | ((with_reducible refine gate_callee (f := 21) rfl ?_); refine HW.gz (some 11) rfl rfl Tryz.func21 (by kernel_rfl) rfl #[.slice A0 l0.length c0] rfl ?_; (with_reducible refine (spec_DocParts.calls k (fun k_ => ((P0_ k_ ∨ w.heap.size ≤ k_) ∧ k_ ≠ gb176)) _ _ l0 t177 t180 t183 _ ?side1 A3.out).mono ?_); (case side1 => exact HO0.out); rintro e w6 ⟨v178, v181, rfl, ho0, ho1, hb⟩; refine ⟨_, rfl, ?_⟩; have HO179 := Aside0.mk (Kd.N_lower (Kd.N_mono (ok' := fun k_ => (P0_ k_ ∨ w.heap.size ≤ k_) ∧ k_ ≠ gb176) ho0 (fun k_ hk_ => ⟨Or.elim hk_ (fun hs_ => hs_.1) (fun hn_ => (.inr (Nat.le_trans (below_size HW.zb) hn_))), Or.elim hk_ (fun hs_ => hs_.2) (fun hn_ => (Kd.freshB (g := gb176) (o := .cells #[.string (⟨#[]⟩ : ByteArray), .int .i64 0, .slice none 0 0, .slice none 0 0] 27 (0, 0)) (HW.zB BK176.out) k_ hn_))⟩)) (below_size HW.zb)); replace BK176 := Aside0.mk (blk_below (g := gb176) (o := .cells #[.string (⟨#[]⟩ : ByteArray), .int .i64 0, .slice none 0 0, .slice none 0 0] 27 (0, 0)) (HW.zB BK176.out) hb); replace HB := Aside0.mk (below_step HW.zb hb); (try clear hb); (try clear ho0); (try clear ho1)))
  (try simp only [Act.put, List.setIfInBounds_toArray, List.set_cons_zero, List.set_cons_succ])
  go_cut [22] (fun v22 wc => ∃ (kq : Nat) (x22_3 : Bool), v22 = .bool x22_3 ∧ Aside0 (spec_DocAt.j0 kq a1 t177 t183 x22_3 = some (r1, r2, r3, r4, r5)) ∧ Aside0 (kq ≤ k) ∧ Aside0 (Kd.N k27 27 wc w.heap.size (fun k_ => (P0_ k_ ∨ w.heap.size ≤ k_) ∧ k_ ≠ gb176) v178 t177) ∧ Aside0 (wc.heap[gb176]? = some (.cells #[.string (⟨#[]⟩ : ByteArray), .int .i64 0, (.slice none 0 0), (.slice none 0 0)] 27 (0, 0))) ∧ Aside0 (Below w.heap.size w wc))
  case first =>
    have H := HC4.out; clear HC4
    by_cases c7 : a1 ≥ 0
    · rw [if_pos c7] at H
      have c7b0 : decide (0 ≤ a1) = true := decide_eq_true c7; clear c7
      (first | rw [c7b0] | (simp only [i64_w, i32_w]; rw [c7b0]) | skip)
      as_aux_lemma =>
        have H' := Aside0.mk H; clear H; obtain ⟨Ao8, co8, eo8⟩ := Kd.N_slice HO179.out; subst eo8
        go_wp2
        go_meet
        case rel => exact ⟨_, (decide (a1 < (t177.length : Int))), HW.rs, H', ⟨by first | omega | exact Nat.le_refl _⟩, ⟨by (with_reducible repeat (first | apply Kd.N_alloc | apply Kd.N_drewN | apply Kd.N_drew)); exact HO179.out⟩, ⟨by (with_reducible repeat (first | refine blk_drewN ?_ _ | refine blk_drew ?_ | refine blk_alloc ?_ _)); exact BK176.out⟩, ⟨HW.zb⟩⟩
    rw [if_neg c7] at H; have c7b0 : decide (0 ≤ a1) = false := decide_eq_false c7; clear c7
    (first | rw [c7b0] | (simp only [i64_w, i32_w]; rw [c7b0]) | skip)
    as_aux_lemma =>
      have H' := Aside0.mk H; clear H
      go_wp2
      go_meet
      case rel => exact ⟨_, (false), HW.rs, H', ⟨by first | omega | exact Nat.le_refl _⟩, ⟨by (with_reducible repeat (first | apply Kd.N_alloc | apply Kd.N_drewN | apply Kd.N_drew)); exact HO179.out⟩, ⟨by (with_reducible repeat (first | refine blk_drewN ?_ _ | refine blk_drew ?_ | refine blk_alloc ?_ _)); exact BK176.out⟩, ⟨HW.zb⟩⟩
  case rest =>
    clear HC4
    (try clear c2); (try clear p2); (try clear c6); (try clear c7); (try clear c7b0)
    obtain ⟨kq, x22_3, rfl, HA, HJ3, HO_6, BK176, HB⟩ := hcut
    cases kq with
    | zero => exact absurd HA.out (by simp [spec_DocAt.j0])
    | succ kj3 =>
      have H := HA.out; clear HA
      simp only [spec_DocAt.j0] at H
      by_cases c9 : x22_3 = true
      rotate_left
      · replace c9 := Bool.eq_false_iff.mpr c9
        subst c9
        have H1 : (if t183 = true then (some ((⟨#[]⟩ : ByteArray), 0, ([] : List Int), ([] : List Int), 7)) else (some ((⟨#[]⟩ : ByteArray), 0, ([] : List Int), ([] : List Int), 1))) = some (r1, r2, r3, r4, r5) := by rw [if_neg (show ¬ (false = true) by decide)] at H; exact H
        clear H; have H := H1; clear H1
        by_cases c15 : t183 = true
        · subst c15
          have H1 : (some ((⟨#[]⟩ : ByteArray), 0, ([] : List Int), ([] : List Int), 7)) = some (r1, r2, r3, r4, r5) := by rw [if_pos rfl] at H; exact H
          clear H; have H := H1; clear H1
          as_aux_lemma =>
            simp only [Option.some.injEq, Prod.mk.injEq] at H
            obtain ⟨rfl, rfl, rfl, rfl, rfl⟩ := H; have hcz16_0 := HW.zc BK176.out 0 (.string (⟨#[]⟩ : ByteArray)); have hcz16_1 := HW.zc BK176.out 1 (.int .i64 0); have hcz16_2 := HW.zc BK176.out 2 (.slice none 0 0); have hcz16_3 := HW.zc BK176.out 3 (.slice none 0 0); have hfz17_0 := blk_frozen BK176.out 0; have hfz17_1 := blk_frozen BK176.out 1; have hfz17_2 := blk_frozen BK176.out 2; have hfz17_3 := blk_frozen BK176.out 3
            go_wp2
            refine bodyPost_ret (results_ct rfl _ _ gb176 27 #[.string (⟨#[]⟩ : ByteArray), .int .i64 0, .slice none 0 0, .slice none 0 0] (0, 0) _ rfl (by (with_reducible repeat (first | refine blk_drewN ?_ _ | refine blk_drew ?_ | refine blk_alloc ?_ _)); refine blk_put (cs := #[.string (⟨#[]⟩ : ByteArray), .int .i64 0, .slice none 0 0, .slice none 0 0]) ?_ 3 _ rfl; (with_reducible repeat (first | refine blk_drewN ?_ _ | refine blk_drew ?_ | refine blk_alloc ?_ _)); refine blk_put (cs := #[.string (⟨#[]⟩ : ByteArray), .int .i64 0, .slice none 0 0, .slice none 0 0]) ?_ 2 _ rfl; (with_reducible repeat (first | refine blk_drewN ?_ _ | refine blk_drew ?_ | refine blk_alloc ?_ _)); refine blk_put (cs := #[.string (⟨#[]⟩ : ByteArray), .int .i64 0, .slice none 0 0, .slice none 0 0]) ?_ 1 _ rfl; (with_reducible repeat (first | refine blk_drewN ?_ _ | refine blk_drew ?_ | refine blk_alloc ?_ _)); refine blk_put (cs := #[.string (⟨#[]⟩ : ByteArray), .int .i64 0, .slice none 0 0, .slice none 0 0]) ?_ 0 _ rfl; exact HW.zB BK176.out) Tryz.underlying27 rfl (by kernel_rfl)) rfl ?_
            exact ⟨_, _, rfl, Kd.V_nil _ _ _ _ _, Kd.V_nil _ _ _ _ _, HW.zb⟩
        replace c15 := Bool.eq_false_iff.mpr c15; subst c15
        have H1 : (some ((⟨#[]⟩ : ByteArray), 0, ([] : List Int), ([] : List Int), 1)) = some (r1, r2, r3, r4, r5) := by rw [if_neg (show ¬ (false = true) by decide)] at H; exact H
        clear H; have H := H1; clear H1
        as_aux_lemma =>
          simp only [Option.some.injEq, Prod.mk.injEq] at H
          obtain ⟨rfl, rfl, rfl, rfl, rfl⟩ := H; have hcz18_0 := HW.zc BK176.out 0 (.string (⟨#[]⟩ : ByteArray)); have hcz18_1 := HW.zc BK176.out 1 (.int .i64 0); have hcz18_2 := HW.zc BK176.out 2 (.slice none 0 0); have hcz18_3 := HW.zc BK176.out 3 (.slice none 0 0); have hfz19_0 := blk_frozen BK176.out 0; have hfz19_1 := blk_frozen BK176.out 1; have hfz19_2 := blk_frozen BK176.out 2; have hfz19_3 := blk_frozen BK176.out 3
          go_wp2
          refine bodyPost_ret (results_ct rfl _ _ gb176 27 #[.string (⟨#[]⟩ : ByteArray), .int .i64 0, .slice none 0 0, .slice none 0 0] (0, 0) _ rfl (by (with_reducible repeat (first | refine blk_drewN ?_ _ | refine blk_drew ?_ | refine blk_alloc ?_ _)); refine blk_put (cs := #[.string (⟨#[]⟩ : ByteArray), .int .i64 0, .slice none 0 0, .slice none 0 0]) ?_ 3 _ rfl; (with_reducible repeat (first | refine blk_drewN ?_ _ | refine blk_drew ?_ | refine blk_alloc ?_ _)); refine blk_put (cs := #[.string (⟨#[]⟩ : ByteArray), .int .i64 0, .slice none 0 0, .slice none 0 0]) ?_ 2 _ rfl; (with_reducible repeat (first | refine blk_drewN ?_ _ | refine blk_drew ?_ | refine blk_alloc ?_ _)); refine blk_put (cs := #[.string (⟨#[]⟩ : ByteArray), .int .i64 0, .slice none 0 0, .slice none 0 0]) ?_ 1 _ rfl; (with_reducible repeat (first | refine blk_drewN ?_ _ | refine blk_drew ?_ | refine blk_alloc ?_ _)); refine blk_put (cs := #[.string (⟨#[]⟩ : ByteArray), .int .i64 0, .slice none 0 0, .slice none 0 0]) ?_ 0 _ rfl; exact HW.zB BK176.out) Tryz.underlying27 rfl (by kernel_rfl)) rfl ?_
          exact ⟨_, _, rfl, Kd.V_nil _ _ _ _ _, Kd.V_nil _ _ _ _ _, HW.zb⟩
      subst c9
      have H1 : (if 0 ≤ a1 then (if a1 < (t177.length : Int) then (some ((rd_T27 t177 a1).f0, (rd_T27 t177 a1).f1.f0, (rd_T27 t177 a1).f1.f1, (rd_T27 t177 a1).f2, 0)) else (none)) else (none)) = some (r1, r2, r3, r4, r5) := by rw [if_pos rfl] at H; exact H
      clear H; have H := H1; clear H1
      by_cases c10 : 0 ≤ a1
      rotate_left
      · rw [if_neg c10] at H
        exact absurd H (by simp)
      rw [if_pos c10] at H; have c10b0 : decide (0 ≤ a1) = true := decide_eq_true c10; clear c10
      by_cases c11 : a1 < (t177.length : Int)
      rotate_left
      · rw [if_neg c11] at H
        exact absurd H (by simp)
      rw [if_pos c11] at H; have c11b0 : decide (a1 < (t177.length : Int)) = true := decide_eq_true c11; clear c11
      as_aux_lemma =>
        simp only [Option.some.injEq, Prod.mk.injEq] at H
        obtain ⟨rfl, rfl, rfl, rfl, rfl⟩ := H; obtain ⟨Ao12, co12, eo12⟩ := Kd.N_slice HO_6.out; subst eo12
        have p184 : 0 ≤ (a1 : Int) := HW.od
        have q184 : a1 < (t177.length : Int) := HW.od
        obtain ⟨ad184, A184_2, c184_2, A184_3, c184_3, e184, hx184_0, hx184_1, hx184_2, hx184_3, hl184_2, hi184_2, hl184_3, hi184_3⟩ := at_T27 (Kd.N_reads' HO_6.out).2.2 a1 p184 q184
        cases e184
        obtain ⟨ce184, hce184, hMe184, hcc184⟩ := Kd.N_get HO_6.out z27 a1 p184 (by first | exact q184 | exact HW.od | (have e_ := (Kd.N_reads' HO_6.out).1; omega))
        obtain ⟨ua184_2, uc184_2, ua184_3, uc184_3, rfl, ul184_2, ge184_2, ul184_3, ge184_3⟩ := k27_openF hMe184; have hv184_2 := hcc184 2 _ rfl
        rw [add_field _ _ 2 (by omega)] at hv184_2
        replace hv184_2 := Option.some.inj (hv184_2.symm.trans hx184_2); injection hv184_2 with hva_ hvn_ hvc_; rw [hva_] at ge184_2; rw [hvc_] at ul184_2; have HL184_2 := Aside0.mk (show Kd.V (Kd.int .u8) 5 _ w.heap.size _ _ ((rd_T27 t177 a1).f1.f1) from Kd.V_mk ul184_2 ge184_2); clear hva_ hvn_ hvc_ ge184_2 ul184_2; have hv184_3 := hcc184 3 _ rfl
        rw [add_field _ _ 3 (by omega)] at hv184_3
        replace hv184_3 := Option.some.inj (hv184_3.symm.trans hx184_3); injection hv184_3 with hva_ hvn_ hvc_; rw [hva_] at ge184_3; rw [hvc_] at ul184_3; have HL184_3 := Aside0.mk (show Kd.V (Kd.int .u8) 5 _ w.heap.size _ _ ((rd_T27 t177 a1).f2) from Kd.V_mk ul184_3 ge184_3); clear hva_ hvn_ hvc_ ge184_3 ul184_3; clear hcc184 hce184; have HR184_2 := Aside0.mk hi184_2; have HC184_2 := Aside0.mk hl184_2; clear hi184_2 hl184_2; have HR184_3 := Aside0.mk hi184_3; have HC184_3 := Aside0.mk hl184_3; clear hi184_3 hl184_3; replace p184 := eq_true p184; replace q184 := eq_true q184; have hcz13_0 := HW.zc BK176.out 0 (.string (⟨#[]⟩ : ByteArray)); have hcz13_1 := HW.zc BK176.out 1 (.int .i64 0); have hcz13_2 := HW.zc BK176.out 2 (.slice none 0 0); have hcz13_3 := HW.zc BK176.out 3 (.slice none 0 0); have hfz14_0 := blk_frozen BK176.out 0; have hfz14_1 := blk_frozen BK176.out 1; have hfz14_2 := blk_frozen BK176.out 2; have hfz14_3 := blk_frozen BK176.out 3
        go_wp2
        refine bodyPost_ret (results_ct rfl _ _ gb176 27 #[.string ((rd_T27 t177 a1).f0), .int .i64 ((rd_T27 t177 a1).f1.f0), .slice A184_2 ((rd_T27 t177 a1).f1.f1).length c184_2, .slice A184_3 ((rd_T27 t177 a1).f2).length c184_3] (0, 0) _ rfl (by (with_reducible repeat (first | refine blk_drewN ?_ _ | refine blk_drew ?_ | refine blk_alloc ?_ _)); refine blk_put (cs := #[.string ((rd_T27 t177 a1).f0), .int .i64 ((rd_T27 t177 a1).f1.f0), .slice A184_2 ((rd_T27 t177 a1).f1.f1).length c184_2, .slice none 0 0]) ?_ 3 _ rfl; (with_reducible repeat (first | refine blk_drewN ?_ _ | refine blk_drew ?_ | refine blk_alloc ?_ _)); refine blk_put (cs := #[.string ((rd_T27 t177 a1).f0), .int .i64 ((rd_T27 t177 a1).f1.f0), .slice none 0 0, .slice none 0 0]) ?_ 2 _ rfl; (with_reducible repeat (first | refine blk_drewN ?_ _ | refine blk_drew ?_ | refine blk_alloc ?_ _)); refine blk_put (cs := #[.string ((rd_T27 t177 a1).f0), .int .i64 0, .slice none 0 0, .slice none 0 0]) ?_ 1 _ rfl; (with_reducible repeat (first | refine blk_drewN ?_ _ | refine blk_drew ?_ | refine blk_alloc ?_ _)); refine blk_put (cs := #[.string (⟨#[]⟩ : ByteArray), .int .i64 0, .slice none 0 0, .slice none 0 0]) ?_ 0 _ rfl; exact HW.zB BK176.out) Tryz.underlying27 rfl (by kernel_rfl)) rfl ?_
        exact ⟨_, _, rfl, by (with_reducible repeat (first | apply Kd.V_alloc | apply Kd.V_drewN | apply Kd.V_drew)); exact Kd.V_mono (Kd.V_far (p := ⟨gb176, 3, none⟩) (Kd.V_far (p := ⟨gb176, 2, none⟩) (Kd.V_far (p := ⟨gb176, 1, none⟩) (Kd.V_far (p := ⟨gb176, 0, none⟩) (Kd.V_mono HL184_2.out (fun k_ hk => (⟨hk, hk.1.2⟩ : _ ∧ k_ ≠ gb176))) (fun _ hk => hk.2) (.string ((rd_T27 t177 a1).f0))) (fun _ hk => hk.2) (.int .i64 ((rd_T27 t177 a1).f1.f0))) (fun _ hk => hk.2) (.slice A184_2 ((rd_T27 t177 a1).f1.f1).length c184_2)) (fun _ hk => hk.2) (.slice A184_3 ((rd_T27 t177 a1).f2).length c184_3)) (fun _ hk => hk.1.1.1), by (with_reducible repeat (first | apply Kd.V_alloc | apply Kd.V_drewN | apply Kd.V_drew)); exact Kd.V_mono (Kd.V_far (p := ⟨gb176, 3, none⟩) (Kd.V_far (p := ⟨gb176, 2, none⟩) (Kd.V_far (p := ⟨gb176, 1, none⟩) (Kd.V_far (p := ⟨gb176, 0, none⟩) (Kd.V_mono HL184_3.out (fun k_ hk => (⟨hk, hk.1.2⟩ : _ ∧ k_ ≠ gb176))) (fun _ hk => hk.2) (.string ((rd_T27 t177 a1).f0))) (fun _ hk => hk.2) (.int .i64 ((rd_T27 t177 a1).f1.f0))) (fun _ hk => hk.2) (.slice A184_2 ((rd_T27 t177 a1).f1.f1).length c184_2)) (fun _ hk => hk.2) (.slice A184_3 ((rd_T27 t177 a1).f2).length c184_3)) (fun _ hk => hk.1.1.1), HW.zb⟩
def impl_own.f (l0 : List Int) : Option (List Int) := if ([] : List Int).length + l0.length < 140737488355328 then (some (([] : List Int) ++ l0)) else (none)
theorem impl_own.calls (A0 : Option Addr) (c0 : Nat) (l0 : List Int) (r : List Int) (w : World) (hr0 : Kd.C (Kd.int .u8) w A0 l0.length l0) (hc0 : l0.length ≤ c0) (h : impl_own.f l0 = some r) :
    Calls Tryz.prog 23 #[.slice A0 l0.length c0] w fun e w' => ∃ v0_ : Value, e = .returned (v0_) ∧ Kd.R (Kd.int .u8) 5 w' w.heap.size (fun _ => True) v0_ r ∧ Below w.heap.size w w' := by
  have HR0 := Aside0.mk hr0; have HC0 := Aside0.mk hc0; clear hr0 hc0; have HB := Aside0.mk (Below.refl w.heap.size w); have H : (if ([] : List Int).length + l0.length < 140737488355328 then (some (([] : List Int) ++ l0)) else (none)) = some r := h; clear h
  by_cases c2 : ([] : List Int).length + l0.length < 140737488355328
  rotate_left
  · rw [if_neg c2] at H
    exact absurd H (by simp)
  rw [if_pos c2] at H; have LMc2 := Aside0.mk c2; clear c2; obtain ⟨y185, hy185⟩ : ∃ y_ : List Int, y_ = (([] : List Int) ++ l0) := ⟨_, rfl⟩
  replace H : (some y185) = some r := by (try rw [hy185]); exact HW.rp
  have Ny185 := Aside0.mk hy185; clear hy185
  as_aux_lemma =>
    obtain rfl := Option.some.inj H
    go_enter Tryz.func23, Tryz.ntmps23
    go_wp2_with (first | ((with_reducible refine gate_builtin (b := .append) (xs := #[.const (.slice none 0 0), .tmp 3]) rfl ?_); at_builtin; refine Kd.R_append_rows (Kd.int .u8) (w0 := w) w.heap.size rfl (.const (.slice none 0 0)) (.tmp 3) 22 5 (.int .u8 0) 1 rfl Tryz.underlying22 info5 rfl (by decide) (by omega) (.slice none 0 0) ([] : List Int) l0 _ _ _ (fun _ => True) (fun _ => False) rfl rfl ?aO ?aR (fun _ _ h => h) (fun _ h => h.elim) ?aF ?aB ?aS ?aL ?_; (case aR => repeat (first | exact HR0.out | (with_reducible refine Kd.C_alloc ?_ _) | (with_reducible refine Kd.C_drewN ?_ _) | (with_reducible refine Kd.C_drew ?_))); (case aB => exact HW.zb); (case aF => exact (fun _ _ => trivial)); (case aO => exact ((Kd.R_nil _ _ _ _ (fun _ => True)))); (case aS => exact (below_size HW.zb)); (case aL => have := LMc2.out; omega); intro v186 w3 ho hb hg hat; rw [← Ny185.out] at ho; have HO187 := Aside0.mk (ho); replace HB := Aside0.mk (hb); clear ho hb hg hat))
    go_ret
    exact ⟨_, rfl, HW.zR HO187.out, HW.zb⟩
def binaryutil_ReadI32.f (l0 : List Int) : Option (Int × List Int × Bool) := if (l0.length : Int) < 4 then (some (0, l0, false)) else (if 3 < (l0.length : Int) then (if 0 < (l0.length : Int) then (if 1 < (l0.length : Int) then (if 2 < (l0.length : Int) then (if 4 ≤ (l0.length : Int) then (some (Go.bits .or .i32 (Go.bits .or .i32 (Go.bits .or .i32 (wrap32 (rd l0 0)) (wrap32 ((wrap32 (rd l0 1)) * 256))) (wrap32 ((wrap32 (rd l0 2)) * 65536))) (wrap32 ((wrap32 (rd l0 3)) * 16777216)), (l0.drop 4), true)) else (none)) else (none)) else (none)) else (none)) else (none))
theorem binaryutil_ReadI32.calls (P0_ : Nat → Prop) (A0 : Option Addr) (c0 : Nat) (l0 : List Int) (r1 : Int) (r2 : List Int) (r3 : Bool) (w : World) (hs0 : Kd.V (Kd.int .u8) 5 w w.heap.size (fun k_ => P0_ k_) (.slice A0 l0.length c0) l0) (h : binaryutil_ReadI32.f l0 = some (r1, r2, r3)) :
    Calls Tryz.prog 118 #[.slice A0 l0.length c0] w fun e w' => ∃ v1_ : Value, e = .returned (.tuple #[.int .i32 r1, v1_, .bool r3]) ∧ Kd.V (Kd.int .u8) 5 w' w.heap.size (fun k_ => (P0_ k_ ∨ w.heap.size ≤ k_)) v1_ r2 ∧ Below w.heap.size w w' := by
  have HO0 := Aside0.mk (show Kd.V (Kd.int .u8) 5 w w.heap.size (fun k_ => (P0_ k_ ∨ w.heap.size ≤ k_)) (.slice A0 l0.length c0) l0 from Kd.V_mono hs0 (fun k_ hk => .inl hk)); have HB := Aside0.mk (Below.refl w.heap.size w); have H : (if (l0.length : Int) < 4 then (some (0, l0, false)) else (if 3 < (l0.length : Int) then (if 0 < (l0.length : Int) then (if 1 < (l0.length : Int) then (if 2 < (l0.length : Int) then (if 4 ≤ (l0.length : Int) then (some (Go.bits .or .i32 (Go.bits .or .i32 (Go.bits .or .i32 (wrap32 (rd l0 0)) (wrap32 ((wrap32 (rd l0 1)) * 256))) (wrap32 ((wrap32 (rd l0 2)) * 65536))) (wrap32 ((wrap32 (rd l0 3)) * 16777216)), (l0.drop 4), true)) else (none)) else (none)) else (none)) else (none)) else (none))) = some (r1, r2, r3) := h; clear h
  by_cases c2 : (l0.length : Int) < 4
  · rw [if_pos c2] at H
    have c2b0 : decide ((l0.length : Int) < 4) = true := decide_eq_true c2
    have c2b1 : decide (l0.length < 4) = true := decide_eq_true (by omega)
    clear c2
    as_aux_lemma =>
      simp only [Option.some.injEq, Prod.mk.injEq] at H
      obtain ⟨rfl, rfl, rfl⟩ := H
      go_enter Tryz.func118, Tryz.ntmps118
      go_wp2
      repeat (go_quiet (fail); try go_wp2)
      go_ret3
      exact ⟨_, rfl, HW.zV HO0.out, HW.zb⟩
  rw [if_neg c2] at H; have c2b0 : decide ((l0.length : Int) < 4) = false := decide_eq_false c2
  have c2b1 : decide (l0.length < 4) = false := decide_eq_false (by omega)
  clear c2
  by_cases c3 : 3 < (l0.length : Int)
  rotate_left
  · rw [if_neg c3] at H
    exact absurd H (by simp)
  rw [if_pos c3] at H; have c3b0 : decide (3 < (l0.length : Int)) = true := decide_eq_true c3
  have c3b1 : decide (3 < l0.length) = true := decide_eq_true (by omega)
  clear c3
  by_cases c4 : 0 < (l0.length : Int)
  rotate_left
  · rw [if_neg c4] at H
    exact absurd H (by simp)
  rw [if_pos c4] at H; have c4b0 : decide (0 < (l0.length : Int)) = true := decide_eq_true c4
  have c4b1 : decide (0 < l0.length) = true := decide_eq_true (by omega)
  clear c4
  by_cases c5 : 1 < (l0.length : Int)
  rotate_left
  · rw [if_neg c5] at H
    exact absurd H (by simp)
  rw [if_pos c5] at H; have c5b0 : decide (1 < (l0.length : Int)) = true := decide_eq_true c5
  have c5b1 : decide (1 < l0.length) = true := decide_eq_true (by omega)
  clear c5
  by_cases c6 : 2 < (l0.length : Int)
  rotate_left
  · rw [if_neg c6] at H
    exact absurd H (by simp)
  rw [if_pos c6] at H; have c6b0 : decide (2 < (l0.length : Int)) = true := decide_eq_true c6
  have c6b1 : decide (2 < l0.length) = true := decide_eq_true (by omega)
  clear c6
  by_cases c7 : 4 ≤ (l0.length : Int)
  rotate_left
  · rw [if_neg c7] at H
    exact absurd H (by simp)
  rw [if_pos c7] at H; have c7b0 := eq_true c7; have c7b1 : decide (4 ≤ (l0.length : Int)) = true := decide_eq_true c7; clear c7; obtain ⟨y193, hy193⟩ : ∃ y_ : List Int, y_ = (l0.drop 4) := ⟨_, rfl⟩
  replace H : (some (Go.bits .or .i32 (Go.bits .or .i32 (Go.bits .or .i32 (wrap32 (rd l0 0)) (wrap32 ((wrap32 (rd l0 1)) * 256))) (wrap32 ((wrap32 (rd l0 2)) * 65536))) (wrap32 ((wrap32 (rd l0 3)) * 16777216)), y193, true)) = some (r1, r2, r3) := by (try rw [hy193]); exact HW.rp
  have Ny193 := Aside0.mk hy193; clear hy193
  as_aux_lemma =>
    simp only [Option.some.injEq, Prod.mk.injEq] at H
    obtain ⟨rfl, rfl, rfl⟩ := H
    have p188 : 0 ≤ (3 : Int) := (by omega)
    have q188 : 3 < (l0.length : Int) := HW.od
    obtain ⟨ad188, e188, hx188_0⟩ := Kd.at_int (Kd.V_reads' HO0.out).2.2 3 p188 q188
    cases e188
    (try simp only [show (3 : Int).toNat = 3 from rfl, Nat.reduceMul, Nat.reduceEqDiff, Go.Addr.add, ↓reduceIte] at hx188_0)
    have qi188 : (3 < l0.length) = True := eq_true (by omega)
    (try rw [show ((3 : Int)).toNat = 3 from rfl] at hx188_0)
    replace p188 := eq_true p188; replace q188 := eq_true q188
    have p189 : 0 ≤ (0 : Int) := (by omega)
    have q189 : 0 < (l0.length : Int) := HW.od
    obtain ⟨ad189, e189, hx189_0⟩ := Kd.at_int (Kd.V_reads' HO0.out).2.2 0 p189 q189
    obtain rfl : ad188 = ad189 := (by injection e189)
    have qi189 : (0 < l0.length) = True := eq_true (by omega)
    (try rw [show ((0 : Int)).toNat = 0 from rfl] at hx189_0)
    (try rw [Addr.add_zero'] at hx189_0)
    replace p189 := eq_true p189; replace q189 := eq_true q189
    have p190 : 0 ≤ (1 : Int) := (by omega)
    have q190 : 1 < (l0.length : Int) := HW.od
    obtain ⟨ad190, e190, hx190_0⟩ := Kd.at_int (Kd.V_reads' HO0.out).2.2 1 p190 q190
    obtain rfl : ad188 = ad190 := (by injection e190)
    (try simp only [show (1 : Int).toNat = 1 from rfl, Nat.reduceMul, Nat.reduceEqDiff, Go.Addr.add, ↓reduceIte] at hx190_0)
    have qi190 : (1 < l0.length) = True := eq_true (by omega)
    (try rw [show ((1 : Int)).toNat = 1 from rfl] at hx190_0)
    replace p190 := eq_true p190; replace q190 := eq_true q190
    have p191 : 0 ≤ (2 : Int) := (by omega)
    have q191 : 2 < (l0.length : Int) := HW.od
    obtain ⟨ad191, e191, hx191_0⟩ := Kd.at_int (Kd.V_reads' HO0.out).2.2 2 p191 q191
    obtain rfl : ad188 = ad191 := (by injection e191)
    (try simp only [show (2 : Int).toNat = 2 from rfl, Nat.reduceMul, Nat.reduceEqDiff, Go.Addr.add, ↓reduceIte] at hx191_0)
    have qi191 : (2 < l0.length) = True := eq_true (by omega)
    (try rw [show ((2 : Int)).toNat = 2 from rfl] at hx191_0)
    replace p191 := eq_true p191; replace q191 := eq_true q191
    have p192 : 0 ≤ (3 : Int) := (by omega)
    have q192 : 3 < (l0.length : Int) := HW.od
    obtain ⟨ad192, e192, hx192_0⟩ := Kd.at_int (Kd.V_reads' HO0.out).2.2 3 p192 q192
    obtain rfl : ad188 = ad192 := (by injection e192)
    (try simp only [show (3 : Int).toNat = 3 from rfl, Nat.reduceMul, Nat.reduceEqDiff, Go.Addr.add, ↓reduceIte] at hx192_0)
    have qi192 : (3 < l0.length) = True := eq_true (by omega)
    (try rw [show ((3 : Int)).toNat = 3 from rfl] at hx192_0)
    replace p192 := eq_true p192; replace q192 := eq_true q192
    have q8 : (4 : Int) ≤ ((l0.length : Int) : Int) := HW.od
    obtain ⟨i08, hi08, _, hsz8, _⟩ := info_parts info5; have hroom8 : l0.length ≤ c0 := (Kd.V_reads' HO0.out).2.1; have hC8 : Kd.F (Kd.int .u8) _ _ (some ad188) l0.length l0 := (Kd.V_at (base := w.heap.size) HO0.out).2.2
    have hcut8 := cut_from (P := Tryz.prog) 22 5 .i64 Tryz.underlying22 hi08 1 hsz8 (some ad188) l0.length c0 4 (by omega) q8
    have hr8 := Kd.F_cut (m := (4 : Int).toNat) (c := c0) hC8 (by omega) hroom8
    obtain ⟨A8, hA8⟩ : ∃ A1, A1 = (if c0 = (4 : Int).toNat then (some ad188) else ((some ad188) : Option Addr).map (·.add ((4 : Int).toNat * 1))) := ⟨_, rfl⟩; obtain ⟨c8, hc8⟩ : ∃ c1, c1 = c0 - (4 : Int).toNat := ⟨_, rfl⟩
    have hy8 : y193.length = l0.length - (4 : Int).toNat := (by rw [Ny193.out, List.length_drop] <;> omega)
    rw [show (l0).drop (4 : Int).toNat = y193 from Ny193.out.symm] at hr8
    replace hr8 : Kd.F (Kd.int .u8) _ _ A8 y193.length y193 := (by rw [hA8]; exact hr8)
    rw [← hy8, ← hA8, ← hc8] at hcut8
    have HO197 := Aside0.mk (show Kd.V (Kd.int .u8) 5 _ w.heap.size _ (.slice A8 y193.length c8) y193 from Kd.V_mk (by rw [hy8, hc8]; exact Nat.sub_le_sub_right hroom8 _) hr8)
    have HC197 := Aside0.mk (show y193.length ≤ c8 from by rw [hy8, hc8]; exact Nat.sub_le_sub_right hroom8 _)
    clear hr8 hC8 hroom8 hi08 hsz8 hc8; have KY8 := Aside0.mk hy8; have KA8 := Aside0.mk hA8; clear hy8 hA8; replace q8 := eq_true q8
    go_enter Tryz.func118, Tryz.ntmps118
    go_wp2
    repeat (go_quiet (fail); try go_wp2)
    go_ret3
    exact ⟨_, rfl, HW.zV HO197.out, HW.zb⟩
def bsoncore_ReadLength.f (l0 : List Int) : Option (Int × List Int × Bool) := (binaryutil_ReadI32.f l0).bind fun bt198 => (if bt198.1 < 0 then (some (bt198.1, bt198.2.1, false)) else (some (bt198.1, bt198.2.1, bt198.2.2)))
theorem bsoncore_ReadLength.calls (P0_ : Nat → Prop) (A0 : Option Addr) (c0 : Nat) (l0 : List Int) (r1 : Int) (r2 : List Int) (r3 : Bool) (w : World) (hs0 : Kd.V (Kd.int .u8) 5 w w.heap.size (fun k_ => P0_ k_) (.slice A0 l0.length c0) l0) (h : bsoncore_ReadLength.f l0 = some (r1, r2, r3)) :
    Calls Tryz.prog 74 #[.slice A0 l0.length c0] w fun e w' => ∃ v1_ : Value, e = .returned (.tuple #[.int .i32 r1, v1_, .bool r3]) ∧ Kd.V (Kd.int .u8) 5 w' w.heap.size (fun k_ => (P0_ k_ ∨ w.heap.size ≤ k_)) v1_ r2 ∧ Below w.heap.size w w' := by
  have HO0 := Aside0.mk (show Kd.V (Kd.int .u8) 5 w w.heap.size (fun k_ => (P0_ k_ ∨ w.heap.size ≤ k_)) (.slice A0 l0.length c0) l0 from Kd.V_mono hs0 (fun k_ hk => .inl hk)); have HB := Aside0.mk (Below.refl w.heap.size w); have H : ((binaryutil_ReadI32.f l0).bind fun bt198 => (if bt198.1 < 0 then (some (bt198.1, bt198.2.1, false)) else (some (bt198.1, bt198.2.1, bt198.2.2)))) = some (r1, r2, r3) := h; clear h; replace H := Option.bind_eq_some_iff.mp H; obtain ⟨⟨t198, t199, t202⟩, A20, H⟩ := H; replace H : (if t198 < 0 then (some (t198, t199, false)) else (some (t198, t199, t202))) = some (r1, r2, r3) := H; have A2 := Aside0.mk A20; clear A20
  by_cases c3 : t198 < 0
  · rw [if_pos c3] at H
    have c3b0 : decide (t198 < 0) = true := decide_eq_true c3; clear c3
    as_aux_lemma =>
      simp only [Option.some.injEq, Prod.mk.injEq] at H
      obtain ⟨rfl, rfl, rfl⟩ := H
      go_enter Tryz.func74, Tryz.ntmps74
      go_wp2_with (first | ((with_reducible refine gate_callee (f := 118) rfl ?_); refine HW.gz (some 9) rfl rfl Tryz.func118 (by kernel_rfl) rfl #[.slice A0 l0.length c0] rfl ?_; (with_reducible refine (binaryutil_ReadI32.calls (fun k_ => (P0_ k_ ∨ w.heap.size ≤ k_)) _ _ l0 t198 t199 t202 _ ?side1 A2.out).mono ?_); (case side1 => exact HO0.out); rintro e w4 ⟨v200, rfl, ho0, hb⟩; refine ⟨_, rfl, ?_⟩; replace HO0 := Aside0.mk (Kd.V_below (HW.zV HO0.out) hb); have HO201 := Aside0.mk (Kd.V_lower (Kd.V_mono (ok' := fun k_ => (P0_ k_ ∨ w.heap.size ≤ k_)) ho0 (fun k_ hk_ => Or.elim hk_ (fun hs_ => hs_) (fun hn_ => (.inr (Nat.le_trans (below_size HW.zb) hn_))))) (below_size HW.zb)); replace HB := Aside0.mk (below_step HW.zb hb); (try clear hb); (try clear ho0)))
      go_ret3
      exact ⟨_, rfl, HW.zV HO201.out, HW.zb⟩
  rw [if_neg c3] at H; have c3b0 : decide (t198 < 0) = false := decide_eq_false c3; clear c3
  as_aux_lemma =>
    simp only [Option.some.injEq, Prod.mk.injEq] at H
    obtain ⟨rfl, rfl, rfl⟩ := H
    go_enter Tryz.func74, Tryz.ntmps74
    go_wp2_with (first | ((with_reducible refine gate_callee (f := 118) rfl ?_); refine HW.gz (some 9) rfl rfl Tryz.func118 (by kernel_rfl) rfl #[.slice A0 l0.length c0] rfl ?_; (with_reducible refine (binaryutil_ReadI32.calls (fun k_ => (P0_ k_ ∨ w.heap.size ≤ k_)) _ _ l0 t198 t199 t202 _ ?side1 A2.out).mono ?_); (case side1 => exact HO0.out); rintro e w5 ⟨v200, rfl, ho0, hb⟩; refine ⟨_, rfl, ?_⟩; have HO201 := Aside0.mk (Kd.V_lower (Kd.V_mono (ok' := fun k_ => (P0_ k_ ∨ w.heap.size ≤ k_)) ho0 (fun k_ hk_ => Or.elim hk_ (fun hs_ => hs_) (fun hn_ => (.inr (Nat.le_trans (below_size HW.zb) hn_))))) (below_size HW.zb)); replace HB := Aside0.mk (below_step HW.zb hb); (try clear hb); (try clear ho0)))
    go_ret3
    exact ⟨_, rfl, HW.zV HO201.out, HW.zb⟩
def bytes_IndexByte.f (l0 : List Int) (a1 : Int) : Option (Int) := some (Lib.indexByte (Lib.bytesOf l0) a1.toNat.toUInt8)
theorem bytes_IndexByte.calls (A0 : Option Addr) (c0 : Nat) (l0 : List Int) (a1 : Int) (r : Int) (w : World) (hr0 : Kd.C (Kd.int .u8) w A0 l0.length l0) (_hc0 : l0.length ≤ c0) (h : bytes_IndexByte.f l0 a1 = some r) :
    Calls Tryz.prog 127 #[.slice A0 l0.length c0, .int .u8 a1] w fun e w' => e = .returned (.int .i64 r) ∧ Drawn0 w w' := by
  obtain rfl := Option.some.inj h; clear h; have HR := Kd.reads_of_C (enc := Value.int .u8) (d := (0 : Int)) (h1 := fun _ => rfl) hr0; clear hr0
  cases A0 with
  | none =>
    have hl : l0 = [] := by
      rcases Nat.eq_zero_or_pos l0.length with hz | hz
      · exact List.eq_nil_of_length_eq_zero hz
      obtain ⟨_, he, _⟩ := HR.2.2 hz
      cases he
    subst hl
    go_enter Tryz.func127, Tryz.ntmps127
    go_wp2
    rw [run_callFunc_extern Tryz.func163 (by kernel_rfl) (by kernel_rfl) (by kernel_rfl) (e := Extern.BytealgIndexByte.indexByte) (by kernel_rfl), Lib.run_indexByteNil w]
    simp only [Result.andThen]
    rw [Oper.upon_value]
    go_wp2
    go_ret
    exact ⟨rfl, ⟨0, rfl⟩⟩
  | some a =>
    have hc : ∀ i, i < l0.length → w.cell? (a.add i) = some (.int .u8 (l0.getD i 0)) := by
      intro i hi
      obtain ⟨ad, he, hc⟩ := HR.2.2 (by omega)
      cases he
      exact hc i hi
    clear HR
    go_enter Tryz.func127, Tryz.ntmps127
    go_wp2
    rw [run_callFunc_extern Tryz.func163 (by kernel_rfl) (by kernel_rfl) (by kernel_rfl) (e := Extern.BytealgIndexByte.indexByte) (by kernel_rfl), Lib.run_indexByteAt w a l0.length c0 l0 rfl hc a1]
    simp only [Result.andThen]
    rw [Oper.upon_value]
    go_wp2
    go_ret
    exact ⟨rfl, ⟨0, rfl⟩⟩
end Go.Proofs.YtbfhpjkahobgnaaGreatDoor.PIx
