import Derived.Test.YtbfhpjkahobgnaaGreatDoorPLox0
import Derived.Test.YtbfhpjkahobgnaaGreatDoorPLox1
import Derived.Test.YtbfhpjkahobgnaaGreatDoorPLox2
namespace Go.Proofs.YtbfhpjkahobgnaaGreatDoor.PLo
open Go.Proofs.YtbfhpjkahobgnaaGreatDoor.HW (tt ff)
open Go.RowKit Go.Proofs.YtbfhpjkahobgnaaGreatDoorW.PrintWords Go.Proofs.YtbfhpjkahobgnaaGreatDoorW.PrintLast Go.Proofs.YtbfhpjkahobgnaaGreatDoorW.PrintMore
attribute [local go_sem] max2_int min2_int max_two min_two max_three min_three max_four min_four
set_option linter.unusedVariables false
set_option maxHeartbeats 8000000
set_option maxRecDepth 100000
set_option linter.unusedSimpArgs false
def bsoncore_readValue.j0 : Nat → List Int → Int → Bool → Option (List Int × List Int × Bool)
  | 0, _, _, _ => none
  | k + 1, x0, x7, x23 => if x23 = true then (some (([] : List Int), x0, false)) else (if 0 ≤ x7 then (if x7 ≤ (x0.length : Int) then (some ((x0.take (x7 : Int).toNat), (x0.drop (x7 : Int).toNat), true)) else (none)) else (none))
def bsoncore_readValue.f (k : Nat) (l0 : List Int) (a1 : Int) : Option (List Int × List Int × Bool) := (bsoncore_valueLength.f k l0 a1).bind fun bt147 => (if bt147.2 = true then (bsoncore_readValue.j0 k l0 bt147.1 (decide ((wrap64 (bt147.1)) > (l0.length : Int)))) else (bsoncore_readValue.j0 k l0 bt147.1 true))
theorem bsoncore_readValue.mono_l : ∀ k, (∀ y0 y1 y2, LeO (bsoncore_readValue.j0 k y0 y1 y2) (bsoncore_readValue.j0 (k + 1) y0 y1 y2))
  | 0 => fun _ _ _ r h => by simp [bsoncore_readValue.j0] at h
  | k + 1 => by
    have ih0 := bsoncore_readValue.mono_l k
    · intro y0 y1 y2
      unfold bsoncore_readValue.j0
      have m0_ := @ih0; have m1_ := @bsoncore_valueLength.mono; exact HW.mo
theorem bsoncore_readValue.mono : ∀ a0 a1 k, LeO (bsoncore_readValue.f k a0 a1) (bsoncore_readValue.f (k + 1) a0 a1) := by
  intro a0 a1 k
  have ih0 := bsoncore_readValue.mono_l k
  unfold bsoncore_readValue.f
  have m0_ := @ih0; have m1_ := @bsoncore_valueLength.mono; exact HW.mo
theorem bsoncore_readValue.calls (k : Nat) (P0_ : Nat → Prop) (A0 : Option Addr) (c0 : Nat) (l0 : List Int) (a1 : Int) (r1 : List Int) (r2 : List Int) (r3 : Bool) (w : World) (hs0 : Kd.V (Kd.int .u8) 5 w w.heap.size (fun k_ => P0_ k_) (.slice A0 l0.length c0) l0) (h : bsoncore_readValue.f k l0 a1 = some (r1, r2, r3)) :
    Calls Tryz.prog 120 #[.slice A0 l0.length c0, .int .u8 a1] w fun e w' => ∃ v0_ v1_ : Value, e = .returned (.tuple #[v0_, v1_, .bool r3]) ∧ Kd.V (Kd.int .u8) 5 w' w.heap.size (fun k_ => (P0_ k_ ∨ w.heap.size ≤ k_)) v0_ r1 ∧ Kd.V (Kd.int .u8) 5 w' w.heap.size (fun k_ => (P0_ k_ ∨ w.heap.size ≤ k_)) v1_ r2 ∧ Below w.heap.size w w' := by
  have HO0 := Aside0.mk (show Kd.V (Kd.int .u8) 5 w w.heap.size (fun k_ => (P0_ k_ ∨ w.heap.size ≤ k_)) (.slice A0 l0.length c0) l0 from Kd.V_mono hs0 (fun k_ hk => .inl hk)); have HB := Aside0.mk (Below.refl w.heap.size w); have H : ((bsoncore_valueLength.f k l0 a1).bind fun bt147 => (if bt147.2 = true then (bsoncore_readValue.j0 k l0 bt147.1 (decide ((wrap64 (bt147.1)) > (l0.length : Int)))) else (bsoncore_readValue.j0 k l0 bt147.1 true))) = some (r1, r2, r3) := h; clear h; replace H := Option.bind_eq_some_iff.mp H; obtain ⟨⟨t147, t148⟩, A30, H⟩ := H; replace H : (if t148 = true then (bsoncore_readValue.j0 k l0 t147 (decide ((wrap64 (t147)) > (l0.length : Int)))) else (bsoncore_readValue.j0 k l0 t147 true)) = some (r1, r2, r3) := H; have A3 := Aside0.mk A30; clear A30; have HC4 := Aside0.mk H; clear H
  go_enter Tryz.func120, Tryz.ntmps120
  go_upto_region 2 with (first | (go_at_call 124; (with_reducible refine (bsoncore_valueLength.calls k _ _ l0 a1 t147 t148 _ ?side1 ?side2 A3.out).mono ?_); (case side1 => repeat (first | exact (Kd.V_reads' HO0.out).2.2 | (with_reducible refine Kd.C_alloc ?_ _) | (with_reducible refine Kd.C_drewN ?_ _) | (with_reducible refine Kd.C_drew ?_))); (case side2 => exact (Kd.V_reads' HO0.out).2.1); rintro e w5 ⟨rfl, hb⟩; replace HO0 := Aside0.mk (Kd.V_below (HW.zV HO0.out) hb); replace HB := Aside0.mk (below_step HW.zb hb); (try clear hb)))
  repeat (go_quiet (fail); try go_wp2)
  (try simp only [Act.put, List.setIfInBounds_toArray, List.set_cons_zero, List.set_cons_succ])
  go_cut [23] (fun v23 wc => ∃ (kq : Nat) (x23_3 : Bool), v23 = .bool x23_3 ∧ Aside0 (bsoncore_readValue.j0 kq l0 t147 x23_3 = some (r1, r2, r3)) ∧ Aside0 (kq ≤ k) ∧ Aside0 (Kd.V (Kd.int .u8) 5 wc w.heap.size (fun k_ => (P0_ k_ ∨ w.heap.size ≤ k_)) (.slice A0 l0.length c0) l0) ∧ Aside0 (Below w.heap.size w wc))
  case first =>
    have H := HC4.out; clear HC4
    by_cases c6 : t148 = true
    · subst c6
      have H1 : (bsoncore_readValue.j0 k l0 t147 (decide ((wrap64 (t147)) > (l0.length : Int)))) = some (r1, r2, r3) := by rw [if_pos rfl] at H; exact H
      clear H; have H := H1; clear H1
      as_aux_lemma =>
        have H' := Aside0.mk H; clear H
        go_wp2
        repeat (go_quiet (fail); try go_wp2)
        go_meet
        case rel => exact ⟨_, (decide ((wrap64 (t147)) > (l0.length : Int))), HW.rs, H', ⟨by first | omega | exact Nat.le_refl _⟩, ⟨HW.zV HO0.out⟩, ⟨HW.zb⟩⟩
    replace c6 := Bool.eq_false_iff.mpr c6; subst c6
    have H1 : (bsoncore_readValue.j0 k l0 t147 true) = some (r1, r2, r3) := by rw [if_neg (show ¬ (false = true) by decide)] at H; exact H
    clear H; have H := H1; clear H1
    as_aux_lemma =>
      have H' := Aside0.mk H; clear H
      go_wp2
      repeat (go_quiet (fail); try go_wp2)
      go_meet
      case rel => exact ⟨_, (true), HW.rs, H', ⟨by first | omega | exact Nat.le_refl _⟩, ⟨HW.zV HO0.out⟩, ⟨HW.zb⟩⟩
  case rest =>
    clear HC4
    (try clear c1); (try clear p2); (try clear c6); (try clear p6)
    obtain ⟨kq, x23_3, rfl, HA, HJ3, HO_0, HB⟩ := hcut
    cases kq with
    | zero => exact absurd HA.out (by simp [bsoncore_readValue.j0])
    | succ kj3 =>
      have H := HA.out; clear HA
      simp only [bsoncore_readValue.j0] at H
      by_cases c7 : x23_3 = true
      · subst c7
        have H1 : (some (([] : List Int), l0, false)) = some (r1, r2, r3) := by rw [if_pos rfl] at H; exact H
        clear H; have H := H1; clear H1
        as_aux_lemma =>
          simp only [Option.some.injEq, Prod.mk.injEq] at H
          obtain ⟨rfl, rfl, rfl⟩ := H
          go_wp2
          repeat (go_quiet (fail); try go_wp2)
          go_ret3
          exact ⟨_, _, rfl, Kd.V_nil _ _ _ _ _, HW.zV HO_0.out, HW.zb⟩
      replace c7 := Bool.eq_false_iff.mpr c7; subst c7
      have H1 : (if 0 ≤ t147 then (if t147 ≤ (l0.length : Int) then (some ((l0.take (t147 : Int).toNat), (l0.drop (t147 : Int).toNat), true)) else (none)) else (none)) = some (r1, r2, r3) := by rw [if_neg (show ¬ (false = true) by decide)] at H; exact H
      clear H; have H := H1; clear H1
      by_cases c8 : 0 ≤ t147
      rotate_left
      · rw [if_neg c8] at H
        exact absurd H (by simp)
      rw [if_pos c8] at H; have c8b0 := eq_true c8; have c8b1 : decide (0 ≤ t147) = true := decide_eq_true c8; clear c8
      by_cases c9 : t147 ≤ (l0.length : Int)
      rotate_left
      · rw [if_neg c9] at H
        exact absurd H (by simp)
      rw [if_pos c9] at H; have c9b0 := eq_true c9; have c9b1 : decide (t147 ≤ (l0.length : Int)) = true := decide_eq_true c9; clear c9; obtain ⟨y149, hy149⟩ : ∃ y_ : List Int, y_ = (l0.take (t147 : Int).toNat) := ⟨_, rfl⟩
      replace H : (some (y149, (l0.drop (t147 : Int).toNat), true)) = some (r1, r2, r3) := by (try rw [hy149]); exact HW.rp
      have Ny149 := Aside0.mk hy149; clear hy149
      have c10b0 := eq_true (HW.od : 0 ≤ t147)
      have c11b0 := eq_true (HW.od : t147 ≤ (l0.length : Int))
      obtain ⟨y154, hy154⟩ : ∃ y_ : List Int, y_ = (l0.drop (t147 : Int).toNat) := ⟨_, rfl⟩
      replace H : (some (y149, y154, true)) = some (r1, r2, r3) := by (try rw [hy154]); exact HW.rp
      have Ny154 := Aside0.mk hy154; clear hy154
      as_aux_lemma =>
        simp only [Option.some.injEq, Prod.mk.injEq] at H
        obtain ⟨rfl, rfl, rfl⟩ := H
        have q12 : (t147 : Int) ≤ ((l0.length : Int) : Int) := HW.od
        obtain ⟨i012, hi012, _, hsz12, _⟩ := info_parts info5; have hroom12 : l0.length ≤ c0 := (Kd.V_reads' HO_0.out).2.1; have hC12 : Kd.F (Kd.int .u8) _ _ A0 l0.length l0 := (Kd.V_at (base := w.heap.size) HO_0.out).2.2
        have hcut12 := cut_to (P := Tryz.prog) 22 5 .i32 Tryz.underlying22 hi012 A0 l0.length c0 t147 (HW.od) q12 hroom12
        have hr12 := Kd.F_take (m := (t147 : Int).toNat) hC12 (by omega)
        have hy12 : y149.length = (t147 : Int).toNat := (by rw [Ny149.out, List.length_take]; omega)
        rw [← Ny149.out] at hr12; rw [← hy12] at hcut12
        have HO153 := Aside0.mk (show Kd.V (Kd.int .u8) 5 _ w.heap.size _ (.slice A0 y149.length c0) y149 from Kd.V_mk (by omega) hr12)
        have HC153 := Aside0.mk (show y149.length ≤ c0 from by omega)
        clear hr12 hC12 hroom12 hi012 hsz12; have KY12 := Aside0.mk hy12; clear hy12; replace q12 := eq_true q12
        have q13 : (t147 : Int) ≤ ((l0.length : Int) : Int) := HW.od
        obtain ⟨i013, hi013, _, hsz13, _⟩ := info_parts info5; have hroom13 : l0.length ≤ c0 := (Kd.V_reads' HO_0.out).2.1; have hC13 : Kd.F (Kd.int .u8) _ _ A0 l0.length l0 := (Kd.V_at (base := w.heap.size) HO_0.out).2.2
        have q013 : (0 : Int) ≤ (t147 : Int) := HW.od
        have hcut13 := cut_from (P := Tryz.prog) 22 5 .i32 Tryz.underlying22 hi013 1 hsz13 A0 l0.length c0 t147 q013 q13
        have hr13 := Kd.F_cut (m := (t147 : Int).toNat) (c := c0) hC13 (by omega) hroom13
        obtain ⟨A13, hA13⟩ : ∃ A1, A1 = (if c0 = (t147 : Int).toNat then A0 else (A0 : Option Addr).map (·.add ((t147 : Int).toNat * 1))) := ⟨_, rfl⟩; obtain ⟨c13, hc13⟩ : ∃ c1, c1 = c0 - (t147 : Int).toNat := ⟨_, rfl⟩
        have hy13 : y154.length = l0.length - (t147 : Int).toNat := (by rw [Ny154.out, List.length_drop] <;> omega)
        rw [show (l0).drop (t147 : Int).toNat = y154 from Ny154.out.symm] at hr13
        replace hr13 : Kd.F (Kd.int .u8) _ _ A13 y154.length y154 := (by rw [hA13]; exact hr13)
        rw [← hy13, ← hA13, ← hc13] at hcut13
        have HO158 := Aside0.mk (show Kd.V (Kd.int .u8) 5 _ w.heap.size _ (.slice A13 y154.length c13) y154 from Kd.V_mk (by rw [hy13, hc13]; exact Nat.sub_le_sub_right hroom13 _) hr13)
        have HC158 := Aside0.mk (show y154.length ≤ c13 from by rw [hy13, hc13]; exact Nat.sub_le_sub_right hroom13 _)
        clear hr13 hC13 hroom13 hi013 hsz13 hc13; have KY13 := Aside0.mk hy13; have KA13 := Aside0.mk hA13; clear hy13 hA13; replace q13 := eq_true q13
        go_wp2
        repeat (go_quiet (fail); try go_wp2)
        go_ret3
        exact ⟨_, _, rfl, HW.zV HO153.out, HW.zV HO158.out, HW.zb⟩
def bsoncore_ReadValue.f (k : Nat) (l0 : List Int) (a1 : Int) : Option (Int × List Int × List Int × Bool) := (bsoncore_readValue.f k l0 a1).bind fun bt160 => (if bt160.2.2 = true then (some (a1, bt160.1, bt160.2.1, true)) else (some (0, ([] : List Int), l0, false)))
theorem bsoncore_ReadValue.mono : ∀ a0 a1 k, LeO (bsoncore_ReadValue.f k a0 a1) (bsoncore_ReadValue.f (k + 1) a0 a1) := by
  intro a0 a1 k
  unfold bsoncore_ReadValue.f
  have m0_ := @bsoncore_readValue.mono; exact HW.mo
theorem bsoncore_ReadValue.calls (k : Nat) (P0_ : Nat → Prop) (A0 : Option Addr) (c0 : Nat) (l0 : List Int) (a1 : Int) (r1 : Int) (r2 : List Int) (r3 : List Int) (r4 : Bool) (w : World) (hs0 : Kd.V (Kd.int .u8) 5 w w.heap.size (fun k_ => P0_ k_) (.slice A0 l0.length c0) l0) (h : bsoncore_ReadValue.f k l0 a1 = some (r1, r2, r3, r4)) :
    Calls Tryz.prog 67 #[.slice A0 l0.length c0, .int .u8 a1] w fun e w' => ∃ v1_ v2_ : Value, e = .returned (.tuple #[.agg #[.int .u8 r1, v1_], v2_, .bool r4]) ∧ Kd.V (Kd.int .u8) 5 w' w.heap.size (fun k_ => (P0_ k_ ∨ w.heap.size ≤ k_)) v1_ r2 ∧ Kd.V (Kd.int .u8) 5 w' w.heap.size (fun k_ => (P0_ k_ ∨ w.heap.size ≤ k_)) v2_ r3 ∧ Below w.heap.size w w' := by
  have hu67 := Tryz.underlying67; have HO0 := Aside0.mk (show Kd.V (Kd.int .u8) 5 w w.heap.size (fun k_ => (P0_ k_ ∨ w.heap.size ≤ k_)) (.slice A0 l0.length c0) l0 from Kd.V_mono hs0 (fun k_ hk => .inl hk)); have HB := Aside0.mk (Below.refl w.heap.size w); have H : ((bsoncore_readValue.f k l0 a1).bind fun bt160 => (if bt160.2.2 = true then (some (a1, bt160.1, bt160.2.1, true)) else (some (0, ([] : List Int), l0, false)))) = some (r1, r2, r3, r4) := h; clear h; replace H := Option.bind_eq_some_iff.mp H; obtain ⟨⟨t160, t163, t166⟩, A30, H⟩ := H; replace H : (if t166 = true then (some (a1, t160, t163, true)) else (some (0, ([] : List Int), l0, false))) = some (r1, r2, r3, r4) := H; have A3 := Aside0.mk A30; clear A30
  by_cases c4 : t166 = true
  · subst c4
    have H1 : (some (a1, t160, t163, true)) = some (r1, r2, r3, r4) := by rw [if_pos rfl] at H; exact H
    clear H; have H := H1; clear H1
    as_aux_lemma =>
      simp only [Option.some.injEq, Prod.mk.injEq] at H
      obtain ⟨rfl, rfl, rfl, rfl⟩ := H
      go_enter Tryz.func67, Tryz.ntmps67
      go_wp2_with (first | ((with_reducible refine gate_dst (N := 4) rfl ?_); refine box_event ?hg (N := 4) ?hd (cs := #[.int .u8 0, .slice none 0 0]) (t := 67) ?hr ?_; (case hd => rfl); (case hg => rfl); (case hr => first | (go_simp; done) | (go_simp; rfl)); intro gb159 hg w5 hbox hb; replace HO0 := Aside0.mk (Kd.V_below (Kd.V_elderB (HW.zV HO0.out) gb159 (Nat.le_of_eq hg.symm)) hb); have BK159 := Aside0.mk (hbox); have GE159 := Aside0.mk ((by rw [hg]; exact (below_size HW.zb) : w.heap.size ≤ gb159)); replace HB := Aside0.mk (below_step HW.zb hb); clear hb hbox hg) | ((with_reducible refine gate_callee (f := 120) rfl ?_); refine HW.gz (some 13) rfl rfl Tryz.func120 (by kernel_rfl) rfl #[.slice A0 l0.length c0, .int .u8 a1] rfl ?_; (with_reducible refine (bsoncore_readValue.calls k (fun k_ => ((P0_ k_ ∨ w.heap.size ≤ k_) ∧ k_ ≠ gb159)) _ _ l0 a1 t160 t163 true _ ?side1 A3.out).mono ?_); (case side1 => exact HO0.out); rintro e w6 ⟨v161, v164, rfl, ho0, ho1, hb⟩; refine ⟨_, rfl, ?_⟩; replace HO0 := Aside0.mk (Kd.V_below (HW.zV HO0.out) hb); have HO162 := Aside0.mk (Kd.V_lower (Kd.V_mono (ok' := fun k_ => (P0_ k_ ∨ w.heap.size ≤ k_) ∧ k_ ≠ gb159) ho0 (fun k_ hk_ => ⟨Or.elim hk_ (fun hs_ => hs_.1) (fun hn_ => (.inr (Nat.le_trans (below_size HW.zb) hn_))), Or.elim hk_ (fun hs_ => hs_.2) (fun hn_ => (Kd.freshB (g := gb159) (o := .cells #[.int .u8 0, .slice none 0 0] 67 (0, 0)) (HW.zB BK159.out) k_ hn_))⟩)) (below_size HW.zb)); have HO165 := Aside0.mk (Kd.V_lower (Kd.V_mono (ok' := fun k_ => (P0_ k_ ∨ w.heap.size ≤ k_) ∧ k_ ≠ gb159) ho1 (fun k_ hk_ => ⟨Or.elim hk_ (fun hs_ => hs_.1) (fun hn_ => (.inr (Nat.le_trans (below_size HW.zb) hn_))), Or.elim hk_ (fun hs_ => hs_.2) (fun hn_ => (Kd.freshB (g := gb159) (o := .cells #[.int .u8 0, .slice none 0 0] 67 (0, 0)) (HW.zB BK159.out) k_ hn_))⟩)) (below_size HW.zb)); replace BK159 := Aside0.mk (blk_below (HW.zB BK159.out) hb); replace HB := Aside0.mk (below_step HW.zb hb); (try clear hb); (try clear ho0); (try clear ho1); obtain ⟨Ao7, co7, eo7⟩ := Kd.V_slice HO162.out; subst eo7; obtain ⟨hcz8_0, hcz8_1, hfz9_0, hfz9_1⟩ := HW.k2f BK159.out))
      refine bodyPost_ret (results_ctt rfl _ _ gb159 67 #[.int .u8 a1, .slice Ao7 t160.length co7] (0, 0) _ rfl (by (with_reducible repeat (first | refine blk_drewN ?_ _ | refine blk_drew ?_ | refine blk_alloc ?_ _)); refine blk_put (cs := #[.int .u8 a1, .slice none 0 0]) ?_ 1 _ rfl; (with_reducible repeat (first | refine blk_drewN ?_ _ | refine blk_drew ?_ | refine blk_alloc ?_ _)); refine blk_put (cs := #[.int .u8 0, .slice none 0 0]) ?_ 0 _ rfl; exact HW.zB BK159.out) Tryz.underlying67 rfl (by kernel_rfl)) rfl ?_
      exact ⟨_, _, rfl, by (with_reducible repeat (first | apply Kd.V_alloc | apply Kd.V_drewN | apply Kd.V_drew)); exact Kd.V_mono (Kd.V_far (p := ⟨gb159, 1, none⟩) (Kd.V_far (p := ⟨gb159, 0, none⟩) (Kd.V_mono HO162.out (fun k_ hk => (⟨hk, hk.2⟩ : _ ∧ k_ ≠ gb159))) (fun _ hk => hk.2) (.int .u8 a1)) (fun _ hk => hk.2) (.slice Ao7 t160.length co7)) (fun _ hk => hk.1.1), by (with_reducible repeat (first | apply Kd.V_alloc | apply Kd.V_drewN | apply Kd.V_drew)); exact Kd.V_mono (Kd.V_far (p := ⟨gb159, 1, none⟩) (Kd.V_far (p := ⟨gb159, 0, none⟩) (Kd.V_mono HO165.out (fun k_ hk => (⟨hk, hk.2⟩ : _ ∧ k_ ≠ gb159))) (fun _ hk => hk.2) (.int .u8 a1)) (fun _ hk => hk.2) (.slice Ao7 t160.length co7)) (fun _ hk => hk.1.1), HW.zb⟩
  replace c4 := Bool.eq_false_iff.mpr c4; subst c4
  have H1 : (some (0, ([] : List Int), l0, false)) = some (r1, r2, r3, r4) := by rw [if_neg (show ¬ (false = true) by decide)] at H; exact H
  clear H; have H := H1; clear H1
  as_aux_lemma =>
    simp only [Option.some.injEq, Prod.mk.injEq] at H
    obtain ⟨rfl, rfl, rfl, rfl⟩ := H
    go_enter Tryz.func67, Tryz.ntmps67
    go_wp2_with (first | ((with_reducible refine gate_dst (N := 4) rfl ?_); refine box_event ?hg (N := 4) ?hd (cs := #[.int .u8 0, .slice none 0 0]) (t := 67) ?hr ?_; (case hd => rfl); (case hg => rfl); (case hr => first | (go_simp; done) | (go_simp; rfl)); intro gb159 hg w10 hbox hb; replace HO0 := Aside0.mk (Kd.V_below (Kd.V_elderB (HW.zV HO0.out) gb159 (Nat.le_of_eq hg.symm)) hb); have BK159 := Aside0.mk (hbox); have GE159 := Aside0.mk ((by rw [hg]; exact (below_size HW.zb) : w.heap.size ≤ gb159)); replace HB := Aside0.mk (below_step HW.zb hb); clear hb hbox hg) | ((with_reducible refine gate_callee (f := 120) rfl ?_); refine HW.gz (some 13) rfl rfl Tryz.func120 (by kernel_rfl) rfl #[.slice A0 l0.length c0, .int .u8 a1] rfl ?_; (with_reducible refine (bsoncore_readValue.calls k (fun k_ => ((P0_ k_ ∨ w.heap.size ≤ k_) ∧ k_ ≠ gb159)) _ _ l0 a1 t160 t163 false _ ?side1 A3.out).mono ?_); (case side1 => exact HO0.out); rintro e w11 ⟨v161, v164, rfl, ho0, ho1, hb⟩; refine ⟨_, rfl, ?_⟩; replace HO0 := Aside0.mk (Kd.V_below (HW.zV HO0.out) hb); replace BK159 := Aside0.mk (blk_below (HW.zB BK159.out) hb); replace HB := Aside0.mk (below_step HW.zb hb); (try clear hb); (try clear ho0); (try clear ho1); obtain ⟨hcz12_0, hcz12_1, hfz13_0, hfz13_1⟩ := HW.k2f BK159.out))
    refine bodyPost_ret (results_ctt rfl _ _ gb159 67 #[.int .u8 0, .slice none 0 0] (0, 0) _ rfl (by (with_reducible repeat (first | refine blk_drewN ?_ _ | refine blk_drew ?_ | refine blk_alloc ?_ _)); refine blk_put (cs := #[.int .u8 0, .slice none 0 0]) ?_ 1 _ rfl; (with_reducible repeat (first | refine blk_drewN ?_ _ | refine blk_drew ?_ | refine blk_alloc ?_ _)); refine blk_put (cs := #[.int .u8 0, .slice none 0 0]) ?_ 0 _ rfl; exact HW.zB BK159.out) Tryz.underlying67 rfl (by kernel_rfl)) rfl ?_
    exact ⟨_, _, rfl, Kd.V_nil _ _ _ _ _, by (with_reducible repeat (first | apply Kd.V_alloc | apply Kd.V_drewN | apply Kd.V_drew)); exact Kd.V_mono (Kd.V_far (p := ⟨gb159, 1, none⟩) (Kd.V_far (p := ⟨gb159, 0, none⟩) (Kd.V_mono HO0.out (fun k_ hk => (⟨hk, hk.2⟩ : _ ∧ k_ ≠ gb159))) (fun _ hk => hk.2) (.int .u8 0)) (fun _ hk => hk.2) (.slice none 0 0)) (fun _ hk => hk.1.1), HW.zb⟩
def bsoncore_Element_ValueErr.f (k : Nat) (l0 : List Int) : Option (Int × List Int × Option (Int × ByteArray)) := if (l0.length : Int) = 0 then (none) else (if 1 ≤ (l0.length : Int) then ((bytes_IndexByte.f (l0.drop 1) 0).bind fun t174 => (if t174 = (-1) then (none) else (if 0 ≤ (wrap64 (t174 + 2)) then (if (wrap64 (t174 + 2)) ≤ (l0.length : Int) then (if 0 < (l0.length : Int) then ((bsoncore_ReadValue.f k (l0.drop ((wrap64 (t174 + 2)) : Int).toNat) (rd l0 0)).bind fun bt181 => (if bt181.2.2.2 = true then (some (bt181.1, bt181.2.1, none)) else (none))) else (none)) else (none)) else (none)))) else (none))
theorem bsoncore_Element_ValueErr.mono : ∀ a0 k, LeO (bsoncore_Element_ValueErr.f k a0) (bsoncore_Element_ValueErr.f (k + 1) a0) := by
  intro a0 k
  unfold bsoncore_Element_ValueErr.f
  have m0_ := @bsoncore_ReadValue.mono; exact HW.mo
def bsoncore_Element_ValueErr.T6 : Bool × List (List Nat × List Nat) := (true, [([], []), ([], []), ([1], [1]), ([0, 2], [0, 2]), ([], []), ([4], [4]), ([5], [5]), ([3, 6], [3, 6]), ([7], [7]), ([8], [8]), ([8], [8]), ([8], [8]), ([], []), ([12, 9, 7, 0, 1, 2, 3, 4, 5, 6, 7, 8, 9, 12], [9, 12]), ([10, 13, 0, 1, 2, 3, 4, 5, 6, 7, 8, 9, 10, 12, 13], [10]), ([11, 14, 0, 1, 2, 3, 4, 5, 6, 7, 8, 9, 10, 11, 12, 13, 14], [11])])
def bsoncore_Element_ValueErr.B6 : List Nat := [0, 0, 2, 7, 0, 16, 48, 127, 255, 511, 511, 511, 0, 5119, 14335, 32767]
theorem bsoncore_Element_ValueErr.tab6 : rtab .any (opsOf Tryz.f81 6) = bsoncore_Element_ValueErr.T6 := by kernel_rfl
theorem bsoncore_Element_ValueErr.bits6 : waitsOk bsoncore_Element_ValueErr.T6.2 bsoncore_Element_ValueErr.B6 = true := by kernel_rfl
theorem bsoncore_Element_ValueErr.calls (ρ : Nat → Addr) (k : Nat) (P0_ : Nat → Prop) (A0 : Option Addr) (c0 : Nat) (l0 : List Int) (r1 : Int) (r2 : List Int) (r3 : Option (Int × ByteArray)) (w : World) (hs0 : Kd.V (Kd.int .u8) 5 w w.heap.size (fun k_ => P0_ k_) (.slice A0 l0.length c0) l0) (h : bsoncore_Element_ValueErr.f k l0 = some (r1, r2, r3)) :
    Calls Tryz.prog 81 #[.slice A0 l0.length c0] w fun e w' => ∃ v1_ v2_ : Value, e = .returned (.tuple #[.agg #[.int .u8 r1, v1_], v2_]) ∧ Er.ErrR ρ v2_ r3 ∧ Kd.V (Kd.int .u8) 5 w' w.heap.size (fun k_ => (P0_ k_ ∨ w.heap.size ≤ k_)) v1_ r2 ∧ Below w.heap.size w w' := by
  have hu67 := Tryz.underlying67; have hu59 := Tryz.underlying59; have HO0 := Aside0.mk (show Kd.V (Kd.int .u8) 5 w w.heap.size (fun k_ => (P0_ k_ ∨ w.heap.size ≤ k_)) (.slice A0 l0.length c0) l0 from Kd.V_mono hs0 (fun k_ hk => .inl hk)); have HB := Aside0.mk (Below.refl w.heap.size w); have H : (if (l0.length : Int) = 0 then (none) else (if 1 ≤ (l0.length : Int) then ((bytes_IndexByte.f (l0.drop 1) 0).bind fun t174 => (if t174 = (-1) then (none) else (if 0 ≤ (wrap64 (t174 + 2)) then (if (wrap64 (t174 + 2)) ≤ (l0.length : Int) then (if 0 < (l0.length : Int) then ((bsoncore_ReadValue.f k (l0.drop ((wrap64 (t174 + 2)) : Int).toNat) (rd l0 0)).bind fun bt181 => (if bt181.2.2.2 = true then (some (bt181.1, bt181.2.1, none)) else (none))) else (none)) else (none)) else (none)))) else (none))) = some (r1, r2, r3) := h; clear h
  by_cases c2 : (l0.length : Int) = 0
  · rw [if_pos c2] at H
    exact absurd H (by simp)
  rw [if_neg c2] at H; have c2b0 : ((l0.length : Int) == 0) = false := beq_eq_false_iff_ne.mpr c2; have c2b1 : ((l0.length : Int) != 0) = true := bne_iff_ne.mpr c2
  have c2b2 : ¬ (l0 = []) := fun h_ => c2 (by rw [h_]; rfl)
  by_cases c3 : 1 ≤ (l0.length : Int)
  rotate_left
  · rw [if_neg c3] at H
    exact absurd H (by simp)
  rw [if_pos c3] at H; have c3b0 := eq_true c3; have c3b1 : decide (1 ≤ (l0.length : Int)) = true := decide_eq_true c3; clear c3; obtain ⟨y169, hy169⟩ : ∃ y_ : List Int, y_ = (l0.drop 1) := ⟨_, rfl⟩
  replace H : ((bytes_IndexByte.f y169 0).bind fun t174 => (if t174 = (-1) then (none) else (if 0 ≤ (wrap64 (t174 + 2)) then (if (wrap64 (t174 + 2)) ≤ (l0.length : Int) then (if 0 < (l0.length : Int) then ((bsoncore_ReadValue.f k (l0.drop ((wrap64 (t174 + 2)) : Int).toNat) (rd l0 0)).bind fun bt181 => (if bt181.2.2.2 = true then (some (bt181.1, bt181.2.1, none)) else (none))) else (none)) else (none)) else (none)))) = some (r1, r2, r3) := by (try rw [hy169]); exact HW.rp
  have Ny169 := Aside0.mk hy169; clear hy169; replace H := Option.bind_eq_some_iff.mp H; obtain ⟨t174, A40, H⟩ := H; replace H : (if t174 = (-1) then (none) else (if 0 ≤ (wrap64 (t174 + 2)) then (if (wrap64 (t174 + 2)) ≤ (l0.length : Int) then (if 0 < (l0.length : Int) then ((bsoncore_ReadValue.f k (l0.drop ((wrap64 (t174 + 2)) : Int).toNat) (rd l0 0)).bind fun bt181 => (if bt181.2.2.2 = true then (some (bt181.1, bt181.2.1, none)) else (none))) else (none)) else (none)) else (none))) = some (r1, r2, r3) := H; have A4 := Aside0.mk A40; clear A40
  by_cases c5 : t174 = (-1)
  · rw [if_pos c5] at H
    exact absurd H (by simp)
  rw [if_neg c5] at H; have c5b0 : (t174 == (-1)) = false := beq_eq_false_iff_ne.mpr c5; have c5b1 : (t174 != (-1)) = true := bne_iff_ne.mpr c5; obtain ⟨ji6, hji6⟩ : ∃ j_ : Int, (wrap64 (t174 + 2)) = j_ := ⟨_, rfl⟩
  replace H : (if 0 ≤ (ji6) then (if (ji6) ≤ (l0.length : Int) then (if 0 < (l0.length : Int) then ((bsoncore_ReadValue.f k (l0.drop ((ji6) : Int).toNat) (rd l0 0)).bind fun bt181 => (if bt181.2.2.2 = true then (some (bt181.1, bt181.2.1, none)) else (none))) else (none)) else (none)) else (none)) = some (r1, r2, r3) := by first | (rw [hji6] at H; exact H) | (simp only [hji6] at H ⊢; exact H)
  (try rw [hji6] at A4)
  have hji6w : (IntKind.i64.wrap (t174 + 2)) = ji6 := (i64_w _).trans hji6
  by_cases c7 : 0 ≤ (ji6)
  rotate_left
  · rw [if_neg c7] at H
    exact absurd H (by simp)
  rw [if_pos c7] at H; have c7b0 := eq_true c7; have c7b1 : decide (0 ≤ (ji6)) = true := decide_eq_true c7; clear c7
  by_cases c8 : (ji6) ≤ (l0.length : Int)
  rotate_left
  · rw [if_neg c8] at H
    exact absurd H (by simp)
  rw [if_pos c8] at H; have c8b0 := eq_true c8; have c8b1 : decide ((ji6) ≤ (l0.length : Int)) = true := decide_eq_true c8; clear c8; obtain ⟨y175, hy175⟩ : ∃ y_ : List Int, y_ = (l0.drop ((ji6) : Int).toNat) := ⟨_, rfl⟩
  replace H : (if 0 < (l0.length : Int) then ((bsoncore_ReadValue.f k y175 (rd l0 0)).bind fun bt181 => (if bt181.2.2.2 = true then (some (bt181.1, bt181.2.1, none)) else (none))) else (none)) = some (r1, r2, r3) := by (try rw [hy175]); exact HW.rp
  have Ny175 := Aside0.mk hy175; clear hy175
  by_cases c9 : 0 < (l0.length : Int)
  rotate_left
  · rw [if_neg c9] at H
    exact absurd H (by simp)
  rw [if_pos c9] at H; have c9b0 : decide (0 < (l0.length : Int)) = true := decide_eq_true c9
  have c9b1 : decide (0 < l0.length) = true := decide_eq_true (by omega)
  clear c9; replace H := Option.bind_eq_some_iff.mp H; obtain ⟨⟨t181, t182, t185, t188⟩, A100, H⟩ := H; replace H : (if t188 = true then (some (t181, t182, none)) else (none)) = some (r1, r2, r3) := H; have A10 := Aside0.mk A100; clear A100
  by_cases c11 : t188 = true
  rotate_left
  · replace c11 := Bool.eq_false_iff.mpr c11
    subst c11
    have H1 : (none) = some (r1, r2, r3) := by rw [if_neg (show ¬ (false = true) by decide)] at H; exact H
    clear H; have H := H1; clear H1
    exact absurd H (by simp)
  subst c11
  have H1 : (some (t181, t182, none)) = some (r1, r2, r3) := by rw [if_pos rfl] at H; exact H
  clear H; have H := H1; clear H1
  as_aux_lemma =>
    simp only [Option.some.injEq, Prod.mk.injEq] at H
    obtain ⟨rfl, rfl, rfl⟩ := H
    go_enter Tryz.func81, Tryz.ntmps81
    try go_wp2_with (first | ((with_reducible refine gate_dst (N := 2) rfl ?_); refine box_event ?hg (N := 2) ?hd (cs := #[.int .u8 0, .slice none 0 0]) (t := 67) ?hr ?_; (case hd => rfl); (case hg => rfl); (case hr => first | (go_simp; done) | (go_simp; rfl)); intro gb168 hg w12 hbox hb; replace HO0 := Aside0.mk (Kd.V_below (Kd.V_elderB (HW.zV HO0.out) gb168 (Nat.le_of_eq hg.symm)) hb); have BK168 := Aside0.mk (hbox); have GE168 := Aside0.mk ((by rw [hg]; exact (below_size HW.zb) : w.heap.size ≤ gb168)); replace HB := Aside0.mk (below_step HW.zb hb); clear hb hbox hg; have q13 : (1 : Int) ≤ ((l0.length : Int) : Int) := HW.od; obtain ⟨i013, hi013, _, hsz13, _⟩ := info_parts info5; have hroom13 : l0.length ≤ c0 := (Kd.V_reads' HO0.out).2.1; have hC13 : Kd.F (Kd.int .u8) _ _ A0 l0.length l0 := (Kd.V_at (base := w.heap.size) HO0.out).2.2; have hcut13 := cut_from (P := Tryz.prog) 57 5 .i64 Tryz.underlying57 hi013 1 hsz13 A0 l0.length c0 1 (by omega) q13; have hr13 := Kd.F_cut (m := (1 : Int).toNat) (c := c0) hC13 (by omega) hroom13; obtain ⟨A13, hA13⟩ : ∃ A1, A1 = (if c0 = (1 : Int).toNat then A0 else (A0 : Option Addr).map (·.add ((1 : Int).toNat * 1))) := ⟨_, rfl⟩; obtain ⟨c13, hc13⟩ : ∃ c1, c1 = c0 - (1 : Int).toNat := ⟨_, rfl⟩; have hy13 : y169.length = l0.length - (1 : Int).toNat := (by rw [Ny169.out, List.length_drop] <;> omega); rw [show (l0).drop (1 : Int).toNat = y169 from Ny169.out.symm] at hr13; replace hr13 : Kd.F (Kd.int .u8) _ _ A13 y169.length y169 := (by rw [hA13]; exact hr13); rw [← hy13, ← hA13, ← hc13] at hcut13; have HO173 := Aside0.mk (show Kd.V (Kd.int .u8) 5 _ w.heap.size _ (.slice A13 y169.length c13) y169 from Kd.V_mk (by rw [hy13, hc13]; exact Nat.sub_le_sub_right hroom13 _) hr13); have HC173 := Aside0.mk (show y169.length ≤ c13 from by rw [hy13, hc13]; exact Nat.sub_le_sub_right hroom13 _); clear hr13 hC13 hroom13 hi013 hsz13 hc13; have KY13 := Aside0.mk hy13; have KA13 := Aside0.mk hA13; clear hy13 hA13; replace q13 := eq_true q13) | ((with_reducible refine gate_callee (f := 127) rfl ?_); refine HW.gz (some 15) rfl rfl Tryz.func127 (by kernel_rfl) rfl #[.slice A13 y169.length c13, .int .u8 0] rfl ?_; (with_reducible refine (bytes_IndexByte.calls _ _ y169 0 t174 _ ?side1 ?side2 A4.out).mono ?_); (case side1 => repeat (first | exact (Kd.V_reads' HO173.out).2.2 | (with_reducible refine Kd.C_alloc ?_ _) | (with_reducible refine Kd.C_drewN ?_ _) | (with_reducible refine Kd.C_drew ?_))); (case side2 => exact (Kd.V_reads' HO173.out).2.1); rintro e w' ⟨rfl, ⟨nd, rfl⟩⟩; refine ⟨_, rfl, ?_⟩; (try (rw [drewN_self w12]; generalize hq_ : World.drewN w12 _ = w12; have n0_ : Aside0 (Kd.V (Kd.int .u8) 5 w12 w.heap.size (fun k_ => (P0_ k_ ∨ w.heap.size ≤ k_) ∧ k_ ≠ gb168) (.slice A0 l0.length c0) l0) := ⟨by rw [← hq_]; exact (HW.zV HO0.out)⟩; have n1_ : Aside0 (Kd.V (Kd.int .u8) 5 w12 w.heap.size (fun k_ => (P0_ k_ ∨ w.heap.size ≤ k_) ∧ k_ ≠ gb168) (.slice A13 y169.length c13) y169) := ⟨by rw [← hq_]; exact (HW.zV HO173.out)⟩; have n2_ : Aside0 (w12.heap[gb168]? = some (.cells #[.int .u8 0, .slice none 0 0] 67 (0, 0))) := ⟨by rw [← hq_]; exact (HW.zB BK168.out)⟩; have n3_ : Aside0 (Below w.heap.size w w12) := ⟨by rw [← hq_]; exact HW.zb⟩; clear HO0 HO173 BK168 HB hq_; have HO0 := n0_; have HO173 := n1_; have BK168 := n2_; have HB := n3_; clear n0_ n1_ n2_ n3_))))
    replace HO0 := Aside0.mk (Kd.V_drew HO0.out); replace HO173 := Aside0.mk (Kd.V_drew HO173.out); replace BK168 := Aside0.mk (blk_drew BK168.out); replace HB := Aside0.mk (below_drew1 HB.out)
    have q15 : ((ji6) : Int) ≤ ((l0.length : Int) : Int) := HW.od
    obtain ⟨i015, hi015, _, hsz15, _⟩ := info_parts info5; have hroom15 : l0.length ≤ c0 := (Kd.V_reads' HO0.out).2.1; have hC15 : Kd.F (Kd.int .u8) _ _ A0 l0.length l0 := (Kd.V_at (base := w.heap.size) HO0.out).2.2
    have q015 : (0 : Int) ≤ ((ji6) : Int) := HW.od
    have hcut15 := cut_from (P := Tryz.prog) 57 5 .i64 Tryz.underlying57 hi015 1 hsz15 A0 l0.length c0 (ji6) q015 q15
    have hr15 := Kd.F_cut (m := ((ji6) : Int).toNat) (c := c0) hC15 (by omega) hroom15
    obtain ⟨A15, hA15⟩ : ∃ A1, A1 = (if c0 = ((ji6) : Int).toNat then A0 else (A0 : Option Addr).map (·.add (((ji6) : Int).toNat * 1))) := ⟨_, rfl⟩; obtain ⟨c15, hc15⟩ : ∃ c1, c1 = c0 - ((ji6) : Int).toNat := ⟨_, rfl⟩
    have hy15 : y175.length = l0.length - ((ji6) : Int).toNat := (by rw [Ny175.out, List.length_drop] <;> omega)
    rw [show (l0).drop ((ji6) : Int).toNat = y175 from Ny175.out.symm] at hr15
    replace hr15 : Kd.F (Kd.int .u8) _ _ A15 y175.length y175 := (by rw [hA15]; exact hr15)
    rw [← hy15, ← hA15, ← hc15] at hcut15
    have HO179 := Aside0.mk (show Kd.V (Kd.int .u8) 5 _ w.heap.size _ (.slice A15 y175.length c15) y175 from Kd.V_mk (by rw [hy15, hc15]; exact Nat.sub_le_sub_right hroom15 _) hr15)
    have HC179 := Aside0.mk (show y175.length ≤ c15 from by rw [hy15, hc15]; exact Nat.sub_le_sub_right hroom15 _)
    clear hr15 hC15 hroom15 hi015 hsz15 hc15; have KY15 := Aside0.mk hy15; have KA15 := Aside0.mk hA15; clear hy15 hA15; replace q15 := eq_true q15
    have p180 : 0 ≤ (0 : Int) := (by omega)
    have q180 : 0 < (l0.length : Int) := HW.od
    obtain ⟨ad180, e180, hx180_0⟩ := Kd.at_int (Kd.V_reads' HO0.out).2.2 0 p180 q180
    cases e180
    have qi180 : (0 < l0.length) = True := eq_true (by omega)
    (try rw [show ((0 : Int)).toNat = 0 from rfl] at hx180_0)
    (try rw [Addr.add_zero'] at hx180_0)
    replace p180 := eq_true p180; replace q180 := eq_true q180
    refine start_ (n := 16) (S := fun w' => w'.cell? ad180 = some (.int .u8 (rd l0 0))) (ds := []) #[ff,ff,ff,ff,ff,ff,ff,ff,ff,ff,ff,ff,ff,ff,ff,ff] (by kernel_rfl) rfl rfl (hx180_0) (fun hHeld => ?_); refine with_tabW bsoncore_Element_ValueErr.tab6 bsoncore_Element_ValueErr.bits6 (fun HT_ HW_ => ?_)
    generalize w12.drew = w14 at HO0 HO173 BK168 HB HO179 hx180_0 hHeld ⊢
    refine HW.pz (i := 0) (N := some 21) #[tt,ff,ff,ff,ff,ff,ff,ff,ff,ff,ff,ff,ff,ff,ff,ff] ?_ (hc := any_of HT_.out (by kernel_rfl))
    refine HW.pz (i := 1) (N := some 22) #[tt,tt,ff,ff,ff,ff,ff,ff,ff,ff,ff,ff,ff,ff,ff,ff] ?_ (hc := any_of HT_.out (by kernel_rfl))
    refine HW.pz (i := 2) (N := some 23) #[tt,tt,tt,ff,ff,ff,ff,ff,ff,ff,ff,ff,ff,ff,ff,ff] ?_ (hc := any_of HT_.out (by kernel_rfl))
    refine HW.pz (i := 3) (N := some 24) #[tt,tt,tt,tt,ff,ff,ff,ff,ff,ff,ff,ff,ff,ff,ff,ff] ?_ (hc := any_of HT_.out (by kernel_rfl))
    refine HW.pz (i := 4) (N := some 25) #[tt,tt,tt,tt,tt,ff,ff,ff,ff,ff,ff,ff,ff,ff,ff,ff] ?_ (hc := any_of HT_.out (by kernel_rfl))
    refine HW.pz (i := 5) (N := some 26) #[tt,tt,tt,tt,tt,tt,ff,ff,ff,ff,ff,ff,ff,ff,ff,ff] ?_ (hc := any_of HT_.out (by kernel_rfl))
    refine take_ (i := 6) (N := some 27) (v := ?_) (a' := ?_) #[tt,tt,tt,tt,tt,tt,tt,ff,ff,ff,ff,ff,ff,ff,ff,ff] rfl rfl (take_ofW HT_.out HW_.out (by kernel_rfl)) (fun _ _ _ h => h) (Or.inl ⟨by rfl, ?_⟩) hHeld ?_ ?_
    rotate_left
    · intro w' s0
      go_simp
      with_reducible rfl
    rotate_left
    · exact HW.pt
    refine join_ (σ := Value × Value × Nat) 3 #[tt,tt,tt,tt,tt,tt,tt,tt,tt,tt,tt,tt,tt,ff,ff,ff] (fun s_ => [(28, .tuple #[.agg #[.int .u8 t181, s_.1], s_.2.1, .bool true]), (5, .pointer (some ⟨s_.2.2, 0, none⟩)), (20, .tuple #[.agg #[.int .u8 t181, s_.1], s_.2.1, .bool true]), (29, .agg #[.int .u8 t181, s_.1]), (30, s_.2.1), (31, .bool true)]) (fun s_ w' => (w'.cell? ad180 = some (.int .u8 (rd l0 0))) ∧ (Kd.V (Kd.int .u8) 5 w' w.heap.size (fun k_ => (P0_ k_ ∨ w.heap.size ≤ k_) ∧ k_ ≠ gb168 ∧ k_ ≠ s_.2.2) (.slice (some ad180) l0.length c0) l0) ∧ (Kd.V (Kd.int .u8) 5 w' w.heap.size (fun k_ => (P0_ k_ ∨ w.heap.size ≤ k_) ∧ k_ ≠ gb168 ∧ k_ ≠ s_.2.2) (.slice A13 y169.length c13) y169) ∧ (Kd.V (Kd.int .u8) 5 w' w.heap.size (fun k_ => (P0_ k_ ∨ w.heap.size ≤ k_) ∧ k_ ≠ gb168 ∧ k_ ≠ s_.2.2) (.slice A15 y175.length c15) y175) ∧ (Kd.V (Kd.int .u8) 5 w' w.heap.size (fun k_ => (P0_ k_ ∨ w.heap.size ≤ k_) ∧ k_ ≠ gb168 ∧ k_ ≠ s_.2.2) s_.1 t182) ∧ (Kd.V (Kd.int .u8) 5 w' w.heap.size (fun k_ => (P0_ k_ ∨ w.heap.size ≤ k_) ∧ k_ ≠ gb168 ∧ k_ ≠ s_.2.2) s_.2.1 t185) ∧ (w'.heap[gb168]? = some (.cells #[.int .u8 0, .slice none 0 0] 67 (0, 0))) ∧ (w'.heap[s_.2.2]? = some (.cells #[.int .u8 0, .slice none 0 0] 67 (0, 0))) ∧ (w.heap.size ≤ s_.2.2) ∧ (w.heap.size ≤ s_.2.2) ∧ (gb168 ≠ s_.2.2) ∧ (s_.2.2 ≠ gb168) ∧ (Below w.heap.size w w')) ?_ ?_
    rotate_left
    · intro hCont
      refine two_ (i := 7) (j := 12) (Ni := some 28) (Nj := some 5) #[tt,tt,tt,tt,tt,tt,tt,tt,ff,ff,ff,ff,ff,ff,ff,ff] #[tt,tt,tt,tt,tt,tt,tt,ff,ff,ff,ff,ff,tt,ff,ff,ff] rfl rfl rfl rfl (two_of HT_.out (by kernel_rfl)) (by decide) (by decide) (fun K hK => ?_) (fun K hK => ?_)
      · skip
        refine goes_ Tryz.func67 (by kernel_rfl) rfl #[.slice A15 y175.length c15, .int .u8 (rd l0 0)] (by rfl) rfl rfl HW.mt ?_
        with_reducible refine (bsoncore_ReadValue.calls k (fun k_ => ((P0_ k_ ∨ w.heap.size ≤ k_) ∧ k_ ≠ gb168)) _ _ y175 (rd l0 0) t181 t182 t185 true _ ?side1 A10.out).mono ?_
        (case side1 => exact HO179.out)
        rintro e w16 ⟨v183, v186, rfl, ho0, ho1, hb⟩
        have HS0_ := (hb.cell (World.block_lt_of_cell? _ _ (hHeld))).trans (hHeld)
        refine ⟨_, rfl, ?_⟩
        replace HO0 := Aside0.mk (Kd.V_below (HW.zV HO0.out) hb); replace HO173 := Aside0.mk (Kd.V_below (HW.zV HO173.out) hb); replace HO179 := Aside0.mk (Kd.V_below (HW.zV HO179.out) hb); have HO184 := Aside0.mk (Kd.V_lower (Kd.V_mono (ok' := fun k_ => (P0_ k_ ∨ w.heap.size ≤ k_) ∧ k_ ≠ gb168) ho0 (fun k_ hk_ => ⟨Or.elim hk_ (fun hs_ => hs_.1) (fun hn_ => (.inr (Nat.le_trans (below_size HW.zb) hn_))), Or.elim hk_ (fun hs_ => hs_.2) (fun hn_ => (Kd.freshB (g := gb168) (o := .cells #[.int .u8 0, .slice none 0 0] 67 (0, 0)) (HW.zB BK168.out) k_ hn_))⟩)) (below_size HW.zb)); have HO187 := Aside0.mk (Kd.V_lower (Kd.V_mono (ok' := fun k_ => (P0_ k_ ∨ w.heap.size ≤ k_) ∧ k_ ≠ gb168) ho1 (fun k_ hk_ => ⟨Or.elim hk_ (fun hs_ => hs_.1) (fun hn_ => (.inr (Nat.le_trans (below_size HW.zb) hn_))), Or.elim hk_ (fun hs_ => hs_.2) (fun hn_ => (Kd.freshB (g := gb168) (o := .cells #[.int .u8 0, .slice none 0 0] 67 (0, 0)) (HW.zB BK168.out) k_ hn_))⟩)) (below_size HW.zb)); replace BK168 := Aside0.mk (blk_below (HW.zB BK168.out) hb); replace HB := Aside0.mk (below_step HW.zb hb)
        (try clear hb)
        (try clear hk)
        (try clear ho0)
        (try clear ho1)
        refine hK.out _ _ (HS0_) (fun hHeld => ?_)
        clear hK K
        refine HW.nz (N := (some 28)) ?_
        refine HW.pz (i := 8) (N := some 20) #[tt,tt,tt,tt,tt,tt,tt,tt,tt,ff,ff,ff,ff,ff,ff,ff] ?_ (hc := any_of HT_.out (by kernel_rfl))
        refine HW.pz (i := 9) (N := some 29) #[tt,tt,tt,tt,tt,tt,tt,tt,tt,tt,ff,ff,ff,ff,ff,ff] ?_ (hc := any_of HT_.out (by kernel_rfl))
        refine HW.pz (i := 10) (N := some 30) #[tt,tt,tt,tt,tt,tt,tt,tt,tt,tt,tt,ff,ff,ff,ff,ff] ?_ (hc := any_of HT_.out (by kernel_rfl))
        refine HW.pz (i := 11) (N := some 31) #[tt,tt,tt,tt,tt,tt,tt,tt,tt,tt,tt,tt,ff,ff,ff,ff] ?_ (hc := any_of HT_.out (by kernel_rfl))
        refine one_ (i := 12) (N := some 5) #[tt,tt,tt,tt,tt,tt,tt,tt,tt,tt,tt,tt,tt,ff,ff,ff] rfl rfl (one_of HT_.out (by kernel_rfl)) (by decide) (fun K hK => ?_)
        refine box_step ?hg (N := 5) ?hd (cs := #[.int .u8 0, .slice none 0 0]) (t := 67) ?hr ?_; (case hd => rfl); (case hg => rfl); (case hr => first | (go_simp; done) | (go_simp; rfl))
        intro gb189 hg w17 hbox hb
        have HS0_ := (hb.cell (World.block_lt_of_cell? _ _ (hHeld))).trans (hHeld); have n0_ := Aside0.mk (Kd.V_below (Kd.V_elderB (HW.zV HO0.out) gb189 (Nat.le_of_eq hg.symm)) hb); have n1_ := Aside0.mk (Kd.V_below (Kd.V_elderB (HW.zV HO173.out) gb189 (Nat.le_of_eq hg.symm)) hb); have n2_ := Aside0.mk (Kd.V_below (Kd.V_elderB (HW.zV HO179.out) gb189 (Nat.le_of_eq hg.symm)) hb); have n3_ := Aside0.mk (Kd.V_below (Kd.V_elderB (HW.zV HO184.out) gb189 (Nat.le_of_eq hg.symm)) hb); have n4_ := Aside0.mk (Kd.V_below (Kd.V_elderB (HW.zV HO187.out) gb189 (Nat.le_of_eq hg.symm)) hb); have n5_ := Aside0.mk (blk_below (HW.zB BK168.out) hb); have n6_ := Aside0.mk (below_step HW.zb hb); have n7_ := Aside0.mk (hbox)
        have n8_ := Aside0.mk ((by rw [hg]; exact (below_size HW.zb) : w.heap.size ≤ gb189))
        have n9_ := Aside0.mk ((by rw [hg]; exact (below_size HW.zb) : w.heap.size ≤ gb189))
        have n10_ := Aside0.mk ((by rw [hg]; exact Nat.ne_of_lt (blk_lt (g := gb168) (o := .cells #[.int .u8 0, .slice none 0 0] 67 (0, 0)) (HW.zB BK168.out)) : gb168 ≠ gb189))
        have n11_ := Aside0.mk ((by rw [hg]; exact Nat.ne_of_gt (blk_lt (g := gb168) (o := .cells #[.int .u8 0, .slice none 0 0] 67 (0, 0)) (HW.zB BK168.out)) : gb189 ≠ gb168))
        clear HO0; clear HO173; clear HO179; clear HO184; clear HO187; clear BK168; clear HB; have HO0 := n0_; have HO173 := n1_; have HO179 := n2_; have HO184 := n3_; have HO187 := n4_; have BK168 := n5_; have HB := n6_; have BK189 := n7_; have GW189 := n8_; have GE189 := n9_; have NB168_189 := n10_; have NB189_168 := n11_; clear n0_ n1_ n2_ n3_ n4_ n5_ n6_ n7_ n8_ n9_ n10_ n11_; clear hb hbox hg
        refine hK.out _ _ (HS0_) (fun hHeld => ?_)
        clear hK K
        refine HW.nz (N := (some 5)) ?_
        exact norm_ (by simp only [putAll, Act.put, List.setIfInBounds_toArray, List.set_cons_zero, List.set_cons_succ, errW_none]) (hCont (v183, v186, gb189) _ ⟨hHeld, (HW.zV (Kd.V_mono HO0.out (fun _ hk => ⟨hk.1.1, ⟨hk.1.2, hk.2⟩⟩))), (HW.zV (Kd.V_mono HO173.out (fun _ hk => ⟨hk.1.1, ⟨hk.1.2, hk.2⟩⟩))), (HW.zV (Kd.V_mono HO179.out (fun _ hk => ⟨hk.1.1, ⟨hk.1.2, hk.2⟩⟩))), (HW.zV (Kd.V_mono HO184.out (fun _ hk => ⟨hk.1.1, ⟨hk.1.2, hk.2⟩⟩))), (HW.zV (Kd.V_mono HO187.out (fun _ hk => ⟨hk.1.1, ⟨hk.1.2, hk.2⟩⟩))), (HW.zB BK168.out), (HW.zB BK189.out), GW189.out, GE189.out, NB168_189.out, NB189_168.out, HW.zb⟩)
      skip
      refine box_step ?hg (N := 5) ?hd (cs := #[.int .u8 0, .slice none 0 0]) (t := 67) ?hr ?_; (case hd => rfl); (case hg => rfl); (case hr => first | (go_simp; done) | (go_simp; rfl))
      intro gb189 hg w16 hbox hb
      have HS0_ := (hb.cell (World.block_lt_of_cell? _ _ (hHeld))).trans (hHeld); have n0_ := Aside0.mk (Kd.V_below (Kd.V_elderB (HW.zV HO0.out) gb189 (Nat.le_of_eq hg.symm)) hb); have n1_ := Aside0.mk (Kd.V_below (Kd.V_elderB (HW.zV HO173.out) gb189 (Nat.le_of_eq hg.symm)) hb); have n2_ := Aside0.mk (Kd.V_below (Kd.V_elderB (HW.zV HO179.out) gb189 (Nat.le_of_eq hg.symm)) hb); have n3_ := Aside0.mk (blk_below (HW.zB BK168.out) hb); have n4_ := Aside0.mk (below_step HW.zb hb); have n5_ := Aside0.mk (hbox)
      have n6_ := Aside0.mk ((by rw [hg]; exact (below_size HW.zb) : w.heap.size ≤ gb189))
      have n7_ := Aside0.mk ((by rw [hg]; exact (below_size HW.zb) : w.heap.size ≤ gb189))
      have n8_ := Aside0.mk ((by rw [hg]; exact Nat.ne_of_lt (blk_lt (g := gb168) (o := .cells #[.int .u8 0, .slice none 0 0] 67 (0, 0)) (HW.zB BK168.out)) : gb168 ≠ gb189))
      have n9_ := Aside0.mk ((by rw [hg]; exact Nat.ne_of_gt (blk_lt (g := gb168) (o := .cells #[.int .u8 0, .slice none 0 0] 67 (0, 0)) (HW.zB BK168.out)) : gb189 ≠ gb168))
      clear HO0; clear HO173; clear HO179; clear BK168; clear HB; have HO0 := n0_; have HO173 := n1_; have HO179 := n2_; have BK168 := n3_; have HB := n4_; have BK189 := n5_; have GW189 := n6_; have GE189 := n7_; have NB168_189 := n8_; have NB189_168 := n9_; clear n0_ n1_ n2_ n3_ n4_ n5_ n6_ n7_ n8_ n9_; clear hb hbox hg
      refine hK.out _ _ (HS0_) (fun hHeld => ?_)
      clear hK K
      refine HW.nz (N := (some 5)) ?_
      refine one_ (i := 7) (N := some 28) #[tt,tt,tt,tt,tt,tt,tt,tt,ff,ff,ff,ff,tt,ff,ff,ff] rfl rfl (one_of HT_.out (by kernel_rfl)) (by decide) (fun K hK => ?_)
      refine goes_ Tryz.func67 (by kernel_rfl) rfl #[.slice A15 y175.length c15, .int .u8 (rd l0 0)] (by rfl) rfl rfl HW.mt ?_
      with_reducible refine (bsoncore_ReadValue.calls k (fun k_ => (((P0_ k_ ∨ w.heap.size ≤ k_) ∧ k_ ≠ gb168) ∧ k_ ≠ gb189)) _ _ y175 (rd l0 0) t181 t182 t185 true _ ?side1 A10.out).mono ?_
      (case side1 => exact HO179.out)
      rintro e w17 ⟨v183, v186, rfl, ho0, ho1, hb⟩
      have HS0_ := (hb.cell (World.block_lt_of_cell? _ _ (hHeld))).trans (hHeld)
      refine ⟨_, rfl, ?_⟩
      have n0_ := Aside0.mk (Kd.V_below (HW.zV HO0.out) hb); have n1_ := Aside0.mk (Kd.V_below (HW.zV HO173.out) hb); have n2_ := Aside0.mk (Kd.V_below (HW.zV HO179.out) hb); have n3_ := Aside0.mk (Kd.V_lower (Kd.V_mono (ok' := fun k_ => (P0_ k_ ∨ w.heap.size ≤ k_) ∧ k_ ≠ gb168 ∧ k_ ≠ gb189) ho0 (fun k_ hk_ => ⟨Or.elim hk_ (fun hs_ => hs_.1.1) (fun hn_ => (.inr (Nat.le_trans (below_size HW.zb) hn_))), Or.elim hk_ (fun hs_ => hs_.1.2) (fun hn_ => (Kd.freshB (g := gb168) (o := .cells #[.int .u8 0, .slice none 0 0] 67 (0, 0)) (HW.zB BK168.out) k_ hn_)), Or.elim hk_ (fun hs_ => hs_.2) (fun hn_ => (Kd.freshB (g := gb189) (o := .cells #[.int .u8 0, .slice none 0 0] 67 (0, 0)) (HW.zB BK189.out) k_ hn_))⟩)) (below_size HW.zb)); have n4_ := Aside0.mk (Kd.V_lower (Kd.V_mono (ok' := fun k_ => (P0_ k_ ∨ w.heap.size ≤ k_) ∧ k_ ≠ gb168 ∧ k_ ≠ gb189) ho1 (fun k_ hk_ => ⟨Or.elim hk_ (fun hs_ => hs_.1.1) (fun hn_ => (.inr (Nat.le_trans (below_size HW.zb) hn_))), Or.elim hk_ (fun hs_ => hs_.1.2) (fun hn_ => (Kd.freshB (g := gb168) (o := .cells #[.int .u8 0, .slice none 0 0] 67 (0, 0)) (HW.zB BK168.out) k_ hn_)), Or.elim hk_ (fun hs_ => hs_.2) (fun hn_ => (Kd.freshB (g := gb189) (o := .cells #[.int .u8 0, .slice none 0 0] 67 (0, 0)) (HW.zB BK189.out) k_ hn_))⟩)) (below_size HW.zb)); have n5_ := Aside0.mk (blk_below (HW.zB BK168.out) hb)
      have n6_ := Aside0.mk (blk_below (HW.zB BK189.out) hb); have n7_ := Aside0.mk (below_step HW.zb hb); clear HO0; clear HO173; clear HO179; clear BK168; clear BK189; clear HB; have HO0 := n0_; have HO173 := n1_; have HO179 := n2_; have HO184 := n3_; have HO187 := n4_; have BK168 := n5_; have BK189 := n6_; have HB := n7_; clear n0_ n1_ n2_ n3_ n4_ n5_ n6_ n7_
      (try clear hb)
      (try clear hk)
      (try clear ho0)
      (try clear ho1)
      refine hK.out _ _ (HS0_) (fun hHeld => ?_)
      clear hK K
      refine HW.nz (N := (some 28)) ?_
      refine HW.pz (i := 8) (N := some 20) #[tt,tt,tt,tt,tt,tt,tt,tt,tt,ff,ff,ff,tt,ff,ff,ff] ?_ (hc := any_of HT_.out (by kernel_rfl))
      refine HW.pz (i := 9) (N := some 29) #[tt,tt,tt,tt,tt,tt,tt,tt,tt,tt,ff,ff,tt,ff,ff,ff] ?_ (hc := any_of HT_.out (by kernel_rfl))
      refine HW.pz (i := 10) (N := some 30) #[tt,tt,tt,tt,tt,tt,tt,tt,tt,tt,tt,ff,tt,ff,ff,ff] ?_ (hc := any_of HT_.out (by kernel_rfl))
      refine HW.pz (i := 11) (N := some 31) #[tt,tt,tt,tt,tt,tt,tt,tt,tt,tt,tt,tt,tt,ff,ff,ff] ?_ (hc := any_of HT_.out (by kernel_rfl))
      exact norm_ (by simp only [putAll, Act.put, List.setIfInBounds_toArray, List.set_cons_zero, List.set_cons_succ, errW_none]) (hCont (v183, v186, gb189) _ ⟨hHeld, (HW.zV (Kd.V_mono HO0.out (fun _ hk => ⟨hk.1.1, ⟨hk.1.2, hk.2⟩⟩))), (HW.zV (Kd.V_mono HO173.out (fun _ hk => ⟨hk.1.1, ⟨hk.1.2, hk.2⟩⟩))), (HW.zV (Kd.V_mono HO179.out (fun _ hk => ⟨hk.1.1, ⟨hk.1.2, hk.2⟩⟩))), (HW.zV HO184.out), (HW.zV HO187.out), (HW.zB BK168.out), (HW.zB BK189.out), GW189.out, GE189.out, NB168_189.out, NB189_168.out, HW.zb⟩)
    rintro ⟨v183, v186, gb189⟩ w18 ⟨hS_, h0_, h1_, h2_, h3_, h4_, h5_, h6_, h7_, h8_, h9_, h10_, h11_⟩
    have n0_ : Aside0 (Kd.V (Kd.int .u8) 5 w18 w.heap.size (fun k_ => (P0_ k_ ∨ w.heap.size ≤ k_) ∧ k_ ≠ gb168 ∧ k_ ≠ gb189) (.slice (some ad180) l0.length c0) l0) := ⟨h0_⟩; have n1_ : Aside0 (Kd.V (Kd.int .u8) 5 w18 w.heap.size (fun k_ => (P0_ k_ ∨ w.heap.size ≤ k_) ∧ k_ ≠ gb168 ∧ k_ ≠ gb189) (.slice A13 y169.length c13) y169) := ⟨h1_⟩; have n2_ : Aside0 (Kd.V (Kd.int .u8) 5 w18 w.heap.size (fun k_ => (P0_ k_ ∨ w.heap.size ≤ k_) ∧ k_ ≠ gb168 ∧ k_ ≠ gb189) (.slice A15 y175.length c15) y175) := ⟨h2_⟩; have n3_ : Aside0 (Kd.V (Kd.int .u8) 5 w18 w.heap.size (fun k_ => (P0_ k_ ∨ w.heap.size ≤ k_) ∧ k_ ≠ gb168 ∧ k_ ≠ gb189) v183 t182) := ⟨h3_⟩; have n4_ : Aside0 (Kd.V (Kd.int .u8) 5 w18 w.heap.size (fun k_ => (P0_ k_ ∨ w.heap.size ≤ k_) ∧ k_ ≠ gb168 ∧ k_ ≠ gb189) v186 t185) := ⟨h4_⟩; have n5_ : Aside0 (w18.heap[gb168]? = some (.cells #[.int .u8 0, .slice none 0 0] 67 (0, 0))) := ⟨h5_⟩; have n6_ : Aside0 (w18.heap[gb189]? = some (.cells #[.int .u8 0, .slice none 0 0] 67 (0, 0))) := ⟨h6_⟩; have n7_ : Aside0 (w.heap.size ≤ gb189) := ⟨h7_⟩; have n8_ : Aside0 (w.heap.size ≤ gb189) := ⟨h8_⟩; have n9_ : Aside0 (gb168 ≠ gb189) := ⟨h9_⟩; have n10_ : Aside0 (gb189 ≠ gb168) := ⟨h10_⟩; have n11_ : Aside0 (Below w.heap.size w w18) := ⟨h11_⟩; clear HO0; clear HO173; clear BK168; clear HB; clear h0_ h1_ h2_ h3_ h4_ h5_ h6_ h7_ h8_ h9_ h10_ h11_; have HO0 := n0_; have HO173 := n1_; have HO179 := n2_; have HO184 := n3_; have HO187 := n4_; have BK168 := n5_; have BK189 := n6_; have GW189 := n7_
    have GE189 := n8_; have NB168_189 := n9_; have NB189_168 := n10_; have HB := n11_; clear n0_ n1_ n2_ n3_ n4_ n5_ n6_ n7_ n8_ n9_ n10_ n11_; have hHeld : w18.cell? ad180 = some (.int .u8 (rd l0 0)) := hS_; obtain ⟨Ao20, co20, eo20⟩ := Kd.V_slice HO184.out
    (first | subst eo20 | (injection eo20 with f1_ f2_ f3_; have f4_ := f1_.symm; have f5_ := f3_.symm; clear f1_ f2_ f3_; subst f4_; subst f5_))
    refine norm_ (a' := ?_) ?_ ?_
    rotate_left
    · simp only [putAll, Act.put, List.setIfInBounds_toArray, List.set_cons_zero, List.set_cons_succ, errW_none]
      rfl
    refine one_ (i := 13) (N := none) #[tt,tt,tt,tt,tt,tt,tt,tt,tt,tt,tt,tt,tt,tt,ff,ff] rfl rfl (one_of HT_.out (by kernel_rfl)) (by decide) (fun K hK => ?_)
    have hs19 : w18.cell? ⟨gb189, 0, none⟩ = some (.int .u8 0) := (blk_cell BK189.out 0).trans rfl; have hfs19 := blk_frozen BK189.out 0; have hns19_0 := NB168_189.out; have hms19_0 := NB189_168.out; have hs21 : w18.cell? ⟨gb189, 1, none⟩ = some (.slice none 0 0) := (blk_cell BK189.out 1).trans rfl; have hfs21 := blk_frozen BK189.out 1; have hns21_0 := NB168_189.out; have hms21_0 := NB189_168.out
    refine skip_ (w1 := ?_) (by rfl) rfl ?_ ?_
    rotate_left
    · go_simp
      rfl
    refine hK.out _ _ (((cell_far (p := ⟨gb189, _, none⟩) (by first | exact Kd.own_blk (Kd.V_away HO0.out (fun _ hk => hk.2.2)) | (rw [add_block]; exact Kd.own_blk (Kd.V_away HO0.out (fun _ hk => hk.2.2))) | (show (Addr.add _ _).block ≠ _; rw [add_block]; exact Kd.own_blk (Kd.V_away HO0.out (fun _ hk => hk.2.2))) | (dsimp only; exact Kd.own_blk (Kd.V_away HO0.out (fun _ hk => hk.2.2)))) _).trans (((cell_far (p := ⟨gb189, _, none⟩) (by first | exact Kd.own_blk (Kd.V_away HO0.out (fun _ hk => hk.2.2)) | (rw [add_block]; exact Kd.own_blk (Kd.V_away HO0.out (fun _ hk => hk.2.2))) | (show (Addr.add _ _).block ≠ _; rw [add_block]; exact Kd.own_blk (Kd.V_away HO0.out (fun _ hk => hk.2.2))) | (dsimp only; exact Kd.own_blk (Kd.V_away HO0.out (fun _ hk => hk.2.2)))) _).trans (hHeld))))) (fun hHeld => ?_)
    clear hK K
    refine HW.pz (i := 14) (N := some 6) #[tt,tt,tt,tt,tt,tt,tt,tt,tt,tt,tt,tt,tt,tt,tt,ff] ?_ (hc := any_of HT_.out (by kernel_rfl))
    refine HW.pz (i := 15) (N := some 7) #[tt,tt,tt,tt,tt,tt,tt,tt,tt,tt,tt,tt,tt,tt,tt,tt] ?_ (hc := any_of HT_.out (by kernel_rfl))
    refine done_ (done_of HT_.out (by kernel_rfl)) ?_
    have hnb22 := NB189_168.out; have hnc22 := NB168_189.out; obtain ⟨hcz23_0, hcz23_1, hfz24_0, hfz24_1⟩ := HW.k2f BK189.out; obtain ⟨hcz25_0, hcz25_1, hfz26_0, hfz26_1⟩ := HW.k2f BK168.out
    try go_wp2
    refine bodyPost_ret (results_ct rfl _ _ gb168 67 #[.int .u8 t181, .slice Ao20 t182.length co20] (0, 0) _ rfl (by (with_reducible repeat (first | refine blk_drewN ?_ _ | refine blk_drew ?_ | refine blk_alloc ?_ _)); refine blk_put (cs := #[.int .u8 t181, .slice none 0 0]) ?_ 1 _ rfl; (with_reducible repeat (first | refine blk_drewN ?_ _ | refine blk_drew ?_ | refine blk_alloc ?_ _)); refine blk_put (cs := #[.int .u8 0, .slice none 0 0]) ?_ 0 _ rfl; (with_reducible repeat (first | refine blk_drewN ?_ _ | refine blk_drew ?_ | refine blk_alloc ?_ _)); refine blk_far ?_ NB168_189.out _; (with_reducible repeat (first | refine blk_drewN ?_ _ | refine blk_drew ?_ | refine blk_alloc ?_ _)); refine blk_far ?_ NB168_189.out _; exact HW.zB BK168.out) Tryz.underlying67 rfl (by kernel_rfl)) rfl ?_
    exact ⟨_, _, by first | rfl | (simp [errW_none, errW_some] <;> rfl) | (simp only [← hji6]; first | rfl | (simp [errW_none, errW_some] <;> rfl)) | (simp [*, errW_none, errW_some] <;> rfl), (by first | exact Er.ErrR.nil | (refine Aside0.out ?_; first | with_reducible assumption | assumption) | exact Er.ErrR.val _ | exact Er.ErrR.mal _ | exact Er.ErrR.dep _ _ | (refine Er.ErrR.few _ _ ?_ ?_ <;> first | exact ⟨_, _, _, rfl⟩ | (refine Er.isl_V (Aside0.out ?_); with_reducible assumption)) | (refine Er.ErrR.sent _ _ ?_ ?_ <;> decide)), by (with_reducible repeat (first | apply Kd.V_alloc | apply Kd.V_drewN | apply Kd.V_drew)); exact Kd.V_mono (Kd.V_far (p := ⟨gb168, 1, none⟩) (Kd.V_far (p := ⟨gb168, 0, none⟩) (Kd.V_far (p := ⟨gb189, 1, none⟩) (Kd.V_far (p := ⟨gb189, 0, none⟩) (Kd.V_mono (Kd.V_mono HO184.out (fun k_ hk => (⟨hk, hk.2.2⟩ : _ ∧ k_ ≠ gb189))) (fun k_ hk => (⟨hk, hk.1.2.1⟩ : _ ∧ k_ ≠ gb168))) (fun _ hk => hk.1.2) (.int .u8 t181)) (fun _ hk => hk.1.2) (.slice Ao20 t182.length co20)) (fun _ hk => hk.2) (.int .u8 t181)) (fun _ hk => hk.2) (.slice Ao20 t182.length co20)) (fun _ hk => hk.1.1.1), HW.zb⟩
def bsoncore_Element_Value.f (k : Nat) (l0 : List Int) : Option (Int × List Int) := (bsoncore_Element_ValueErr.f k l0).bind fun bt191 => (some (bt191.1, bt191.2.1))
theorem bsoncore_Element_Value.mono : ∀ a0 k, LeO (bsoncore_Element_Value.f k a0) (bsoncore_Element_Value.f (k + 1) a0) := by
  intro a0 k
  unfold bsoncore_Element_Value.f
  have m0_ := @bsoncore_Element_ValueErr.mono; exact HW.mo
theorem bsoncore_Element_Value.calls (k : Nat) (P0_ : Nat → Prop) (A0 : Option Addr) (c0 : Nat) (l0 : List Int) (r1 : Int) (r2 : List Int) (w : World) (hs0 : Kd.V (Kd.int .u8) 5 w w.heap.size (fun k_ => P0_ k_) (.slice A0 l0.length c0) l0) (h : bsoncore_Element_Value.f k l0 = some (r1, r2)) :
    Calls Tryz.prog 44 #[.slice A0 l0.length c0] w fun e w' => ∃ v1_ : Value, e = .returned (.agg #[.int .u8 r1, v1_]) ∧ Kd.V (Kd.int .u8) 5 w' w.heap.size (fun k_ => (P0_ k_ ∨ w.heap.size ≤ k_)) v1_ r2 ∧ Below w.heap.size w w' := by
  have hu67 := Tryz.underlying67; have HO0 := Aside0.mk (show Kd.V (Kd.int .u8) 5 w w.heap.size (fun k_ => (P0_ k_ ∨ w.heap.size ≤ k_)) (.slice A0 l0.length c0) l0 from Kd.V_mono hs0 (fun k_ hk => .inl hk)); have HB := Aside0.mk (Below.refl w.heap.size w); have H : ((bsoncore_Element_ValueErr.f k l0).bind fun bt191 => (some (bt191.1, bt191.2.1))) = some (r1, r2) := h; clear h; replace H := Option.bind_eq_some_iff.mp H; obtain ⟨⟨t191, t192, t195⟩, A20, H⟩ := H; replace H : (some (t191, t192)) = some (r1, r2) := H; have A2 := Aside0.mk A20; clear A20
  as_aux_lemma =>
    simp only [Option.some.injEq, Prod.mk.injEq] at H
    obtain ⟨rfl, rfl⟩ := H
    go_enter Tryz.func44, Tryz.ntmps44
    go_wp2_with (first | ((with_reducible refine gate_dst (N := 2) rfl ?_); refine box_event ?hg (N := 2) ?hd (cs := #[.int .u8 0, .slice none 0 0]) (t := 67) ?hr ?_; (case hd => rfl); (case hg => rfl); (case hr => first | (go_simp; done) | (go_simp; rfl)); intro gb190 hg w3 hbox hb; replace HO0 := Aside0.mk (Kd.V_below (Kd.V_elderB (HW.zV HO0.out) gb190 (Nat.le_of_eq hg.symm)) hb); have BK190 := Aside0.mk (hbox); have GE190 := Aside0.mk ((by rw [hg]; exact (below_size HW.zb) : w.heap.size ≤ gb190)); replace HB := Aside0.mk (below_step HW.zb hb); clear hb hbox hg) | ((with_reducible refine gate_callee (f := 81) rfl ?_); refine HW.gz (some 7) rfl rfl Tryz.func81 (by kernel_rfl) rfl #[.slice A0 l0.length c0] rfl ?_; (with_reducible refine (bsoncore_Element_ValueErr.calls Er.rho0 k (fun k_ => ((P0_ k_ ∨ w.heap.size ≤ k_) ∧ k_ ≠ gb190)) _ _ l0 t191 t192 t195 _ ?side1 A2.out).mono ?_); (case side1 => exact HO0.out); rintro e w4 ⟨v193, ve_t195, rfl, hE_t195, ho0, hb⟩; refine ⟨_, rfl, ?_⟩; have HO194 := Aside0.mk (Kd.V_lower (Kd.V_mono (ok' := fun k_ => (P0_ k_ ∨ w.heap.size ≤ k_) ∧ k_ ≠ gb190) ho0 (fun k_ hk_ => ⟨Or.elim hk_ (fun hs_ => hs_.1) (fun hn_ => (.inr (Nat.le_trans (below_size HW.zb) hn_))), Or.elim hk_ (fun hs_ => hs_.2) (fun hn_ => (Kd.freshB (g := gb190) (o := .cells #[.int .u8 0, .slice none 0 0] 67 (0, 0)) (HW.zB BK190.out) k_ hn_))⟩)) (below_size HW.zb)); replace BK190 := Aside0.mk (blk_below (HW.zB BK190.out) hb); replace HB := Aside0.mk (below_step HW.zb hb); (try clear hb); (try clear ho0); (first | (obtain rfl := Er.ErrR.nil_ hE_t195) | (refine (Er.ErrR.some_ hE_t195 (Aside0.out ?hsE)).elim ?_; (case hsE => with_reducible assumption); rintro T_hE_t195 ⟨X_hE_t195, rfl⟩) | skip); replace hE_t195 := Aside0.mk hE_t195) | ((with_reducible refine gate_dst (N := 3) rfl ?_); refine box_event ?hg (N := 3) ?hd (cs := #[.int .u8 0, .slice none 0 0]) (t := 67) ?hr ?_; (case hd => rfl); (case hg => rfl); (case hr => first | (go_simp; done) | (go_simp; rfl)); intro gb196 hg w5 hbox hb; replace HO194 := Aside0.mk (Kd.V_below (Kd.V_elderB (HW.zV HO194.out) gb196 (Nat.le_of_eq hg.symm)) hb); have BK196 := Aside0.mk (hbox); have GE196 := Aside0.mk ((by rw [hg]; exact (below_size HW.zb) : w.heap.size ≤ gb196)); have NB190_196 := Aside0.mk ((by rw [hg]; exact Nat.ne_of_lt (blk_lt (g := gb190) (o := .cells #[.int .u8 0, .slice none 0 0] 67 (0, 0)) (HW.zB BK190.out)) : gb190 ≠ gb196)); have NB196_190 := Aside0.mk ((by rw [hg]; exact Nat.ne_of_gt (blk_lt (g := gb190) (o := .cells #[.int .u8 0, .slice none 0 0] 67 (0, 0)) (HW.zB BK190.out)) : gb196 ≠ gb190)); replace BK190 := Aside0.mk (blk_below (HW.zB BK190.out) hb); replace HB := Aside0.mk (below_step HW.zb hb); clear hb hbox hg; have hnb6 := NB196_190.out; have hnc6 := NB190_196.out; obtain ⟨hcz7_0, hcz7_1, hfz8_0, hfz8_1⟩ := HW.k2f BK196.out; obtain ⟨Ao9, co9, eo9⟩ := Kd.V_slice HO194.out; subst eo9; obtain ⟨hcz10_0, hcz10_1, hfz11_0, hfz11_1⟩ := HW.k2f BK190.out))
    refine bodyPost_ret (results_cell_row rfl _ _ gb190 67 #[.int .u8 t191, .slice Ao9 t192.length co9] (0, 0) _ rfl (by (with_reducible repeat (first | refine blk_drewN ?_ _ | refine blk_drew ?_ | refine blk_alloc ?_ _)); refine blk_put (cs := #[.int .u8 t191, .slice none 0 0]) ?_ 1 _ rfl; (with_reducible repeat (first | refine blk_drewN ?_ _ | refine blk_drew ?_ | refine blk_alloc ?_ _)); refine blk_put (cs := #[.int .u8 0, .slice none 0 0]) ?_ 0 _ rfl; (with_reducible repeat (first | refine blk_drewN ?_ _ | refine blk_drew ?_ | refine blk_alloc ?_ _)); refine blk_far ?_ NB190_196.out _; (with_reducible repeat (first | refine blk_drewN ?_ _ | refine blk_drew ?_ | refine blk_alloc ?_ _)); refine blk_far ?_ NB190_196.out _; exact HW.zB BK190.out) Tryz.underlying67 rfl (by kernel_rfl)) rfl ?_
    exact ⟨_, rfl, by (with_reducible repeat (first | apply Kd.V_alloc | apply Kd.V_drewN | apply Kd.V_drew)); exact Kd.V_mono (Kd.V_far (p := ⟨gb190, 1, none⟩) (Kd.V_far (p := ⟨gb190, 0, none⟩) (Kd.V_far (p := ⟨gb196, 1, none⟩) (Kd.V_far (p := ⟨gb196, 0, none⟩) (Kd.V_mono (Kd.V_mono HO194.out (fun k_ hk => (⟨hk, hk.2⟩ : _ ∧ k_ ≠ gb196))) (fun k_ hk => (⟨hk, hk.1.1.2⟩ : _ ∧ k_ ≠ gb190))) (fun _ hk => hk.1.2) (.int .u8 t191)) (fun _ hk => hk.1.2) (.slice Ao9 t192.length co9)) (fun _ hk => hk.2) (.int .u8 t191)) (fun _ hk => hk.2) (.slice Ao9 t192.length co9)) (fun _ hk => hk.1.1.1.1), HW.zb⟩
end Go.Proofs.YtbfhpjkahobgnaaGreatDoor.PLo
