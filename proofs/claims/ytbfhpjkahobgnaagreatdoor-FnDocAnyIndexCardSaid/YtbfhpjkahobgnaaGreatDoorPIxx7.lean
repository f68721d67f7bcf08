import Derived.Test.YtbfhpjkahobgnaaGreatDoorPIxx0
import Derived.Test.YtbfhpjkahobgnaaGreatDoorPIxx4
import Derived.Test.YtbfhpjkahobgnaaGreatDoorPIxx5
import Derived.Test.YtbfhpjkahobgnaaGreatDoorPIxx6
namespace Go.Proofs.YtbfhpjkahobgnaaGreatDoor.PIx
open Go.Proofs.YtbfhpjkahobgnaaGreatDoor.HW (tt ff)
open Go.RowKit Go.Proofs.YtbfhpjkahobgnaaGreatDoorW.PrintWords Go.Proofs.YtbfhpjkahobgnaaGreatDoorW.PrintLast Go.Proofs.YtbfhpjkahobgnaaGreatDoorW.PrintMore
attribute [local go_sem] max2_int min2_int max_two min_two max_three min_three max_four min_four
set_option linter.unusedVariables false
set_option maxHeartbeats 8000000
set_option maxRecDepth 100000
set_option linter.unusedSimpArgs false
def bsoncore_readValue.j0 : Nat → List Int → Int → Bool → Option (List Int × List Int × Bool)
  | 0, _, _, _ => none
  | k + 1, x0, x7, x23 => if x23 = true then (some (([] : List Int), x0, false)) else (if 0 ≤ x7 then (if x7 ≤ (x0.length : Int) then (some ((x0.take (x7 : Int).toNat), (x0.drop (x7 : Int).toNat), true)) else (none)) else (none))
def bsoncore_readValue.f (k : Nat) (l0 : List Int) (a1 : Int) : Option (List Int × List Int × Bool) := (bsoncore_valueLength.f k l0 a1).bind fun bt256 => (if bt256.2 = true then (bsoncore_readValue.j0 k l0 bt256.1 (decide ((wrap64 (bt256.1)) > (l0.length : Int)))) else (bsoncore_readValue.j0 k l0 bt256.1 true))
theorem bsoncore_readValue.mono_l : ∀ k, (∀ y0 y1 y2, LeO (bsoncore_readValue.j0 k y0 y1 y2) (bsoncore_readValue.j0 (k + 1) y0 y1 y2))
  | 0 => fun _ _ _ r h => by simp [bsoncore_readValue.j0] at h
  | k + 1 => by
    have ih0 := bsoncore_readValue.mono_l k
    · intro y0 y1 y2
      unfold bsoncore_readValue.j0
      have m0_ := @ih0; have m1_ := @bsoncore_valueLength.mono; exact HW.mo
theorem bsoncore_readValue.mono : ∀ a0 a1 k, LeO (bsoncore_readValue.f k a0 a1) (bsoncore_readValue.f (k + 1) a0 a1) := by
  intro a0 a1 k
  have ih0 := bsoncore_readValue.mono_l k
  unfold bsoncore_readValue.f
  have m0_ := @ih0; have m1_ := @bsoncore_valueLength.mono; exact HW.mo
theorem bsoncore_readValue.calls (k : Nat) (P0_ : Nat → Prop) (A0 : Option Addr) (c0 : Nat) (l0 : List Int) (a1 : Int) (r1 : List Int) (r2 : List Int) (r3 : Bool) (w : World) (hs0 : Kd.V (Kd.int .u8) 5 w w.heap.size (fun k_ => P0_ k_) (.slice A0 l0.length c0) l0) (h : bsoncore_readValue.f k l0 a1 = some (r1, r2, r3)) :
    Calls Tryz.prog 120 #[.slice A0 l0.length c0, .int .u8 a1] w fun e w' => ∃ v0_ v1_ : Value, e = .returned (.tuple #[v0_, v1_, .bool r3]) ∧ Kd.V (Kd.int .u8) 5 w' w.heap.size (fun k_ => (P0_ k_ ∨ w.heap.size ≤ k_)) v0_ r1 ∧ Kd.V (Kd.int .u8) 5 w' w.heap.size (fun k_ => (P0_ k_ ∨ w.heap.size ≤ k_)) v1_ r2 ∧ Below w.heap.size w w' := by
  have HO0 := Aside0.mk (show Kd.V (Kd.int .u8) 5 w w.heap.size (fun k_ => (P0_ k_ ∨ w.heap.size ≤ k_)) (.slice A0 l0.length c0) l0 from Kd.V_mono hs0 (fun k_ hk => .inl hk)); have HB := Aside0.mk (Below.refl w.heap.size w); have H : ((bsoncore_valueLength.f k l0 a1).bind fun bt256 => (if bt256.2 = true then (bsoncore_readValue.j0 k l0 bt256.1 (decide ((wrap64 (bt256.1)) > (l0.length : Int)))) else (bsoncore_readValue.j0 k l0 bt256.1 true))) = some (r1, r2, r3) := h; clear h; replace H := Option.bind_eq_some_iff.mp H; obtain ⟨⟨t256, t257⟩, A30, H⟩ := H; replace H : (if t257 = true then (bsoncore_readValue.j0 k l0 t256 (decide ((wrap64 (t256)) > (l0.length : Int)))) else (bsoncore_readValue.j0 k l0 t256 true)) = some (r1, r2, r3) := H; have A3 := Aside0.mk A30; clear A30; have HC4 := Aside0.mk H; clear H
  go_enter Tryz.func120, Tryz.ntmps120
  go_upto_region 2 with (first | (go_at_call 124; (with_reducible refine (bsoncore_valueLength.calls k _ _ l0 a1 t256 t257 _ ?side1 ?side2 A3.out).mono ?_); (case side1 => repeat (first | exact (Kd.V_reads' HO0.out).2.2 | (with_reducible refine Kd.C_alloc ?_ _) | (with_reducible refine Kd.C_drewN ?_ _) | (with_reducible refine Kd.C_drew ?_))); (case side2 => exact (Kd.V_reads' HO0.out).2.1); rintro e w5 ⟨rfl, hb⟩; replace HO0 := Aside0.mk (Kd.V_below (HW.zV HO0.out) hb); replace HB := Aside0.mk (below_step HW.zb hb); (try clear hb)))
  repeat (go_quiet (fail); try go_wp2)
  (try simp only [Act.put, List.setIfInBounds_toArray, List.set_cons_zero, List.set_cons_succ])
  go_cut [23] (fun v23 wc => ∃ (kq : Nat) (x23_3 : Bool), v23 = .bool x23_3 ∧ Aside0 (bsoncore_readValue.j0 kq l0 t256 x23_3 = some (r1, r2, r3)) ∧ Aside0 (kq ≤ k) ∧ Aside0 (Kd.V (Kd.int .u8) 5 wc w.heap.size (fun k_ => (P0_ k_ ∨ w.heap.size ≤ k_)) (.slice A0 l0.length c0) l0) ∧ Aside0 (Below w.heap.size w wc))
  case first =>
    have H := HC4.out; clear HC4
    by_cases c6 : t257 = true
    · subst c6
      have H1 : (bsoncore_readValue.j0 k l0 t256 (decide ((wrap64 (t256)) > (l0.length : Int)))) = some (r1, r2, r3) := by rw [if_pos rfl] at H; exact H
      clear H; have H := H1; clear H1
      as_aux_lemma =>
        have H' := Aside0.mk H; clear H
        go_wp2
        repeat (go_quiet (fail); try go_wp2)
        go_meet
        case rel => exact ⟨_, (decide ((wrap64 (t256)) > (l0.length : Int))), HW.rs, H', ⟨by first | omega | exact Nat.le_refl _⟩, ⟨HW.zV HO0.out⟩, ⟨HW.zb⟩⟩
    replace c6 := Bool.eq_false_iff.mpr c6; subst c6
    have H1 : (bsoncore_readValue.j0 k l0 t256 true) = some (r1, r2, r3) := by rw [if_neg (show ¬ (false = true) by decide)] at H; exact H
    clear H; have H := H1; clear H1
    as_aux_lemma =>
      have H' := Aside0.mk H; clear H
      go_wp2
      repeat (go_quiet (fail); try go_wp2)
      go_meet
      case rel => exact ⟨_, (true), HW.rs, H', ⟨by first | omega | exact Nat.le_refl _⟩, ⟨HW.zV HO0.out⟩, ⟨HW.zb⟩⟩
  case rest =>
    clear HC4
    (try clear c1); (try clear p2); (try clear c6); (try clear p6)
    obtain ⟨kq, x23_3, rfl, HA, HJ3, HO_0, HB⟩ := hcut
    cases kq with
    | zero => exact absurd HA.out (by simp [bsoncore_readValue.j0])
    | succ kj3 =>
      have H := HA.out; clear HA
      simp only [bsoncore_readValue.j0] at H
      by_cases c7 : x23_3 = true
      · subst c7
        have H1 : (some (([] : List Int), l0, false)) = some (r1, r2, r3) := by rw [if_pos rfl] at H; exact H
        clear H; have H := H1; clear H1
        as_aux_lemma =>
          simp only [Option.some.injEq, Prod.mk.injEq] at H
          obtain ⟨rfl, rfl, rfl⟩ := H
          go_wp2
          repeat (go_quiet (fail); try go_wp2)
          go_ret3
          exact ⟨_, _, rfl, Kd.V_nil _ _ _ _ _, HW.zV HO_0.out, HW.zb⟩
      replace c7 := Bool.eq_false_iff.mpr c7; subst c7
      have H1 : (if 0 ≤ t256 then (if t256 ≤ (l0.length : Int) then (some ((l0.take (t256 : Int).toNat), (l0.drop (t256 : Int).toNat), true)) else (none)) else (none)) = some (r1, r2, r3) := by rw [if_neg (show ¬ (false = true) by decide)] at H; exact H
      clear H; have H := H1; clear H1
      by_cases c8 : 0 ≤ t256
      rotate_left
      · rw [if_neg c8] at H
        exact absurd H (by simp)
      rw [if_pos c8] at H; have c8b0 := eq_true c8; have c8b1 : decide (0 ≤ t256) = true := decide_eq_true c8; clear c8
      by_cases c9 : t256 ≤ (l0.length : Int)
      rotate_left
      · rw [if_neg c9] at H
        exact absurd H (by simp)
      rw [if_pos c9] at H; have c9b0 := eq_true c9; have c9b1 : decide (t256 ≤ (l0.length : Int)) = true := decide_eq_true c9; clear c9; obtain ⟨y258, hy258⟩ : ∃ y_ : List Int, y_ = (l0.take (t256 : Int).toNat) := ⟨_, rfl⟩
      replace H : (some (y258, (l0.drop (t256 : Int).toNat), true)) = some (r1, r2, r3) := by (try rw [hy258]); exact HW.rp
      have Ny258 := Aside0.mk hy258; clear hy258
      have c10b0 := eq_true (HW.od : 0 ≤ t256)
      have c11b0 := eq_true (HW.od : t256 ≤ (l0.length : Int))
      obtain ⟨y263, hy263⟩ : ∃ y_ : List Int, y_ = (l0.drop (t256 : Int).toNat) := ⟨_, rfl⟩
      replace H : (some (y258, y263, true)) = some (r1, r2, r3) := by (try rw [hy263]); exact HW.rp
      have Ny263 := Aside0.mk hy263; clear hy263
      as_aux_lemma =>
        simp only [Option.some.injEq, Prod.mk.injEq] at H
        obtain ⟨rfl, rfl, rfl⟩ := H
        have q12 : (t256 : Int) ≤ ((l0.length : Int) : Int) := HW.od
        obtain ⟨i012, hi012, _, hsz12, _⟩ := info_parts info5; have hroom12 : l0.length ≤ c0 := (Kd.V_reads' HO_0.out).2.1; have hC12 : Kd.F (Kd.int .u8) _ _ A0 l0.length l0 := (Kd.V_at (base := w.heap.size) HO_0.out).2.2
        have hcut12 := cut_to (P := Tryz.prog) 22 5 .i32 Tryz.underlying22 hi012 A0 l0.length c0 t256 (HW.od) q12 hroom12
        have hr12 := Kd.F_take (m := (t256 : Int).toNat) hC12 (by omega)
        have hy12 : y258.length = (t256 : Int).toNat := (by rw [Ny258.out, List.length_take]; omega)
        rw [← Ny258.out] at hr12; rw [← hy12] at hcut12
        have HO262 := Aside0.mk (show Kd.V (Kd.int .u8) 5 _ w.heap.size _ (.slice A0 y258.length c0) y258 from Kd.V_mk (by omega) hr12)
        have HC262 := Aside0.mk (show y258.length ≤ c0 from by omega)
        clear hr12 hC12 hroom12 hi012 hsz12; have KY12 := Aside0.mk hy12; clear hy12; replace q12 := eq_true q12
        have q13 : (t256 : Int) ≤ ((l0.length : Int) : Int) := HW.od
        obtain ⟨i013, hi013, _, hsz13, _⟩ := info_parts info5; have hroom13 : l0.length ≤ c0 := (Kd.V_reads' HO_0.out).2.1; have hC13 : Kd.F (Kd.int .u8) _ _ A0 l0.length l0 := (Kd.V_at (base := w.heap.size) HO_0.out).2.2
        have q013 : (0 : Int) ≤ (t256 : Int) := HW.od
        have hcut13 := cut_from (P := Tryz.prog) 22 5 .i32 Tryz.underlying22 hi013 1 hsz13 A0 l0.length c0 t256 q013 q13
        have hr13 := Kd.F_cut (m := (t256 : Int).toNat) (c := c0) hC13 (by omega) hroom13
        obtain ⟨A13, hA13⟩ : ∃ A1, A1 = (if c0 = (t256 : Int).toNat then A0 else (A0 : Option Addr).map (·.add ((t256 : Int).toNat * 1))) := ⟨_, rfl⟩; obtain ⟨c13, hc13⟩ : ∃ c1, c1 = c0 - (t256 : Int).toNat := ⟨_, rfl⟩
        have hy13 : y263.length = l0.length - (t256 : Int).toNat := (by rw [Ny263.out, List.length_drop] <;> omega)
        rw [show (l0).drop (t256 : Int).toNat = y263 from Ny263.out.symm] at hr13
        replace hr13 : Kd.F (Kd.int .u8) _ _ A13 y263.length y263 := (by rw [hA13]; exact hr13)
        rw [← hy13, ← hA13, ← hc13] at hcut13
        have HO267 := Aside0.mk (show Kd.V (Kd.int .u8) 5 _ w.heap.size _ (.slice A13 y263.length c13) y263 from Kd.V_mk (by rw [hy13, hc13]; exact Nat.sub_le_sub_right hroom13 _) hr13)
        have HC267 := Aside0.mk (show y263.length ≤ c13 from by rw [hy13, hc13]; exact Nat.sub_le_sub_right hroom13 _)
        clear hr13 hC13 hroom13 hi013 hsz13 hc13; have KY13 := Aside0.mk hy13; have KA13 := Aside0.mk hA13; clear hy13 hA13; replace q13 := eq_true q13
        go_wp2
        repeat (go_quiet (fail); try go_wp2)
        go_ret3
        exact ⟨_, _, rfl, HW.zV HO262.out, HW.zV HO267.out, HW.zb⟩
def bsoncore_ReadValue.f (k : Nat) (l0 : List Int) (a1 : Int) : Option (Int × List Int × List Int × Bool) := (bsoncore_readValue.f k l0 a1).bind fun bt269 => (if bt269.2.2 = true then (some (a1, bt269.1, bt269.2.1, true)) else (some (0, ([] : List Int), l0, false)))
theorem bsoncore_ReadValue.mono : ∀ a0 a1 k, LeO (bsoncore_ReadValue.f k a0 a1) (bsoncore_ReadValue.f (k + 1) a0 a1) := by
  intro a0 a1 k
  unfold bsoncore_ReadValue.f
  have m0_ := @bsoncore_readValue.mono; exact HW.mo
theorem bsoncore_ReadValue.calls (k : Nat) (P0_ : Nat → Prop) (A0 : Option Addr) (c0 : Nat) (l0 : List Int) (a1 : Int) (r1 : Int) (r2 : List Int) (r3 : List Int) (r4 : Bool) (w : World) (hs0 : Kd.V (Kd.int .u8) 5 w w.heap.size (fun k_ => P0_ k_) (.slice A0 l0.length c0) l0) (h : bsoncore_ReadValue.f k l0 a1 = some (r1, r2, r3, r4)) :
    Calls Tryz.prog 67 #[.slice A0 l0.length c0, .int .u8 a1] w fun e w' => ∃ v1_ v2_ : Value, e = .returned (.tuple #[.agg #[.int .u8 r1, v1_], v2_, .bool r4]) ∧ Kd.V (Kd.int .u8) 5 w' w.heap.size (fun k_ => (P0_ k_ ∨ w.heap.size ≤ k_)) v1_ r2 ∧ Kd.V (Kd.int .u8) 5 w' w.heap.size (fun k_ => (P0_ k_ ∨ w.heap.size ≤ k_)) v2_ r3 ∧ Below w.heap.size w w' := by
  have hu67 := Tryz.underlying67; have HO0 := Aside0.mk (show Kd.V (Kd.int .u8) 5 w w.heap.size (fun k_ => (P0_ k_ ∨ w.heap.size ≤ k_)) (.slice A0 l0.length c0) l0 from Kd.V_mono hs0 (fun k_ hk => .inl hk)); have HB := Aside0.mk (Below.refl w.heap.size w); have H : ((bsoncore_readValue.f k l0 a1).bind fun bt269 => (if bt269.2.2 = true then (some (a1, bt269.1, bt269.2.1, true)) else (some (0, ([] : List Int), l0, false)))) = some (r1, r2, r3, r4) := h; clear h; replace H := Option.bind_eq_some_iff.mp H; obtain ⟨⟨t269, t272, t275⟩, A30, H⟩ := H; replace H : (if t275 = true then (some (a1, t269, t272, true)) else (some (0, ([] : List Int), l0, false))) = some (r1, r2, r3, r4) := H; have A3 := Aside0.mk A30; clear A30
  by_cases c4 : t275 = true
  · subst c4
    have H1 : (some (a1, t269, t272, true)) = some (r1, r2, r3, r4) := by rw [if_pos rfl] at H; exact H
    clear H; have H := H1; clear H1
    as_aux_lemma =>
      simp only [Option.some.injEq, Prod.mk.injEq] at H
      obtain ⟨rfl, rfl, rfl, rfl⟩ := H
      go_enter Tryz.func67, Tryz.ntmps67
      go_wp2_with (first | ((with_reducible refine gate_dst (N := 4) rfl ?_); refine box_event ?hg (N := 4) ?hd (cs := #[.int .u8 0, .slice none 0 0]) (t := 67) ?hr ?_; (case hd => rfl); (case hg => rfl); (case hr => first | (go_simp; done) | (go_simp; rfl)); intro gb268 hg w5 hbox hb; have n0_ := Aside0.mk (Kd.V_below (Kd.V_elderB (HW.zV HO0.out) gb268 (Nat.le_of_eq hg.symm)) hb); have n1_ := Aside0.mk (below_step HW.zb hb); have n2_ := Aside0.mk (hbox); have n4_ := Aside0.mk ((by rw [hg]; exact (below_size HW.zb) : w.heap.size ≤ gb268)); clear HO0; clear HB; have HO0 := n0_; have HB := n1_; have BK268 := n2_; have GE268 := n4_; clear n0_ n1_ n2_ n4_; clear hb hbox hg) | ((with_reducible refine gate_callee (f := 120) rfl ?_); refine HW.gz (some 13) rfl rfl Tryz.func120 (by kernel_rfl) rfl #[.slice A0 l0.length c0, .int .u8 a1] rfl ?_; (with_reducible refine (bsoncore_readValue.calls k (fun k_ => ((P0_ k_ ∨ w.heap.size ≤ k_) ∧ k_ ≠ gb268)) _ _ l0 a1 t269 t272 true _ ?side1 A3.out).mono ?_); (case side1 => exact HO0.out); rintro e w6 ⟨v270, v273, rfl, ho0, ho1, hb⟩; refine ⟨_, rfl, ?_⟩; replace HO0 := Aside0.mk (Kd.V_below (HW.zV HO0.out) hb); have HO271 := Aside0.mk (Kd.V_lower (Kd.V_mono (ok' := fun k_ => (P0_ k_ ∨ w.heap.size ≤ k_) ∧ k_ ≠ gb268) ho0 (fun k_ hk_ => ⟨Or.elim hk_ (fun hs_ => hs_.1) (fun hn_ => (.inr (Nat.le_trans (below_size HW.zb) hn_))), Or.elim hk_ (fun hs_ => hs_.2) (fun hn_ => (Kd.freshB (g := gb268) (o := .cells #[.int .u8 0, .slice none 0 0] 67 (0, 0)) (HW.zB BK268.out) k_ hn_))⟩)) (below_size HW.zb)); have HO274 := Aside0.mk (Kd.V_lower (Kd.V_mono (ok' := fun k_ => (P0_ k_ ∨ w.heap.size ≤ k_) ∧ k_ ≠ gb268) ho1 (fun k_ hk_ => ⟨Or.elim hk_ (fun hs_ => hs_.1) (fun hn_ => (.inr (Nat.le_trans (below_size HW.zb) hn_))), Or.elim hk_ (fun hs_ => hs_.2) (fun hn_ => (Kd.freshB (g := gb268) (o := .cells #[.int .u8 0, .slice none 0 0] 67 (0, 0)) (HW.zB BK268.out) k_ hn_))⟩)) (below_size HW.zb)); replace BK268 := Aside0.mk (blk_below (HW.zB BK268.out) hb); replace HB := Aside0.mk (below_step HW.zb hb); (try clear hb); (try clear ho0); (try clear ho1); obtain ⟨Ao7, co7, eo7⟩ := Kd.V_slice HO271.out; subst eo7; obtain ⟨hcz8_0, hcz8_1, hfz9_0, hfz9_1⟩ := HW.k2f BK268.out))
      refine bodyPost_ret (results_ctt rfl _ _ gb268 67 #[.int .u8 a1, .slice Ao7 t269.length co7] (0, 0) _ rfl (by (with_reducible repeat (first | refine blk_drewN ?_ _ | refine blk_drew ?_ | refine blk_alloc ?_ _)); refine blk_put (cs := #[.int .u8 a1, .slice none 0 0]) ?_ 1 _ rfl; (with_reducible repeat (first | refine blk_drewN ?_ _ | refine blk_drew ?_ | refine blk_alloc ?_ _)); refine blk_put (cs := #[.int .u8 0, .slice none 0 0]) ?_ 0 _ rfl; exact HW.zB BK268.out) Tryz.underlying67 rfl (by kernel_rfl)) rfl ?_
      exact ⟨_, _, rfl, by (with_reducible repeat (first | apply Kd.V_alloc | apply Kd.V_drewN | apply Kd.V_drew)); exact Kd.V_mono (Kd.V_far (p := ⟨gb268, 1, none⟩) (Kd.V_far (p := ⟨gb268, 0, none⟩) (Kd.V_mono HO271.out (fun k_ hk => (⟨hk, hk.2⟩ : _ ∧ k_ ≠ gb268))) (fun _ hk => hk.2) (.int .u8 a1)) (fun _ hk => hk.2) (.slice Ao7 t269.length co7)) (fun _ hk => hk.1.1), by (with_reducible repeat (first | apply Kd.V_alloc | apply Kd.V_drewN | apply Kd.V_drew)); exact Kd.V_mono (Kd.V_far (p := ⟨gb268, 1, none⟩) (Kd.V_far (p := ⟨gb268, 0, none⟩) (Kd.V_mono HO274.out (fun k_ hk => (⟨hk, hk.2⟩ : _ ∧ k_ ≠ gb268))) (fun _ hk => hk.2) (.int .u8 a1)) (fun _ hk => hk.2) (.slice Ao7 t269.length co7)) (fun _ hk => hk.1.1), HW.zb⟩
  replace c4 := Bool.eq_false_iff.mpr c4; subst c4
  have H1 : (some (0, ([] : List Int), l0, false)) = some (r1, r2, r3, r4) := by rw [if_neg (show ¬ (false = true) by decide)] at H; exact H
  clear H; have H := H1; clear H1
  as_aux_lemma =>
    simp only [Option.some.injEq, Prod.mk.injEq] at H
    obtain ⟨rfl, rfl, rfl, rfl⟩ := H
    go_enter Tryz.func67, Tryz.ntmps67
    go_wp2_with (first | ((with_reducible refine gate_dst (N := 4) rfl ?_); refine box_event ?hg (N := 4) ?hd (cs := #[.int .u8 0, .slice none 0 0]) (t := 67) ?hr ?_; (case hd => rfl); (case hg => rfl); (case hr => first | (go_simp; done) | (go_simp; rfl)); intro gb268 hg w10 hbox hb; have n0_ := Aside0.mk (Kd.V_below (Kd.V_elderB (HW.zV HO0.out) gb268 (Nat.le_of_eq hg.symm)) hb); have n1_ := Aside0.mk (below_step HW.zb hb); have n2_ := Aside0.mk (hbox); have n4_ := Aside0.mk ((by rw [hg]; exact (below_size HW.zb) : w.heap.size ≤ gb268)); clear HO0; clear HB; have HO0 := n0_; have HB := n1_; have BK268 := n2_; have GE268 := n4_; clear n0_ n1_ n2_ n4_; clear hb hbox hg) | ((with_reducible refine gate_callee (f := 120) rfl ?_); refine HW.gz (some 13) rfl rfl Tryz.func120 (by kernel_rfl) rfl #[.slice A0 l0.length c0, .int .u8 a1] rfl ?_; (with_reducible refine (bsoncore_readValue.calls k (fun k_ => ((P0_ k_ ∨ w.heap.size ≤ k_) ∧ k_ ≠ gb268)) _ _ l0 a1 t269 t272 false _ ?side1 A3.out).mono ?_); (case side1 => exact HO0.out); rintro e w11 ⟨v270, v273, rfl, ho0, ho1, hb⟩; refine ⟨_, rfl, ?_⟩; replace HO0 := Aside0.mk (Kd.V_below (HW.zV HO0.out) hb); replace BK268 := Aside0.mk (blk_below (HW.zB BK268.out) hb); replace HB := Aside0.mk (below_step HW.zb hb); (try clear hb); (try clear ho0); (try clear ho1); obtain ⟨hcz12_0, hcz12_1, hfz13_0, hfz13_1⟩ := HW.k2f BK268.out))
    refine bodyPost_ret (results_ctt rfl _ _ gb268 67 #[.int .u8 0, .slice none 0 0] (0, 0) _ rfl (by (with_reducible repeat (first | refine blk_drewN ?_ _ | refine blk_drew ?_ | refine blk_alloc ?_ _)); refine blk_put (cs := #[.int .u8 0, .slice none 0 0]) ?_ 1 _ rfl; (with_reducible repeat (first | refine blk_drewN ?_ _ | refine blk_drew ?_ | refine blk_alloc ?_ _)); refine blk_put (cs := #[.int .u8 0, .slice none 0 0]) ?_ 0 _ rfl; exact HW.zB BK268.out) Tryz.underlying67 rfl (by kernel_rfl)) rfl ?_
    exact ⟨_, _, rfl, Kd.V_nil _ _ _ _ _, by (with_reducible repeat (first | apply Kd.V_alloc | apply Kd.V_drewN | apply Kd.V_drew)); exact Kd.V_mono (Kd.V_far (p := ⟨gb268, 1, none⟩) (Kd.V_far (p := ⟨gb268, 0, none⟩) (Kd.V_mono HO0.out (fun k_ hk => (⟨hk, hk.2⟩ : _ ∧ k_ ≠ gb268))) (fun _ hk => hk.2) (.int .u8 0)) (fun _ hk => hk.2) (.slice none 0 0)) (fun _ hk => hk.1.1), HW.zb⟩
def elemOk (l : List Int) : Bool := decide (l.length ≤ 1000000) && decide (0 ≤ Lib.indexByte (Lib.bytesOf (l.drop 1)) 0) && decide (Lib.indexByte (Lib.bytesOf (l.drop 1)) 0 + 1 < (l.length : Int))
def elemName (l : List Int) : List Int := (l.take ((Lib.indexByte (Lib.bytesOf (l.drop 1)) 0).toNat + 1)).drop 1
theorem elem_ok {l : List Int} (h : elemOk l = true) : ∃ i : Nat, l.length ≤ 1000000 ∧ Lib.indexByte (Lib.bytesOf (l.drop 1)) 0 = (i : Int) ∧ i + 1 < l.length ∧ elemName l = (l.take (i + 1)).drop 1 := by
  simp only [elemOk, Bool.and_eq_true, decide_eq_true_eq] at h
  obtain ⟨⟨h0, h1⟩, h2⟩ := h; obtain ⟨i, hi⟩ := Int.eq_ofNat_of_zero_le h1
  refine ⟨i, h0, hi, by omega, ?_⟩
  unfold elemName
  rw [hi]
  rfl
theorem vb_calls (A : Option Addr) (c : Nat) (l : List Int) (w : World) (P0 : Nat → Prop) (hP : ∀ k, w.heap.size ≤ k → P0 k) (hF : Kd.F (Kd.int .u8) w P0 A l.length l) (hc : l.length ≤ c) (hbig : l.length ≤ 1000000) (i : Nat) (hidx : Lib.indexByte (Lib.bytesOf (l.drop 1)) 0 = (i : Int)) (h1 : i + 1 < l.length) (x : Int) (hx : rd l 0 = x) (bs : List Int) (hbs : l.drop (i + 2) = bs) (k : Nat) (y : Int) (vb rm : List Int) (ok : Bool) (hno : ok = false → y = 0 ∧ vb = []) (hrv : bsoncore_ReadValue.f k bs x = some (y, vb, rm, ok)) :
    Calls Tryz.prog 81 #[.slice A l.length c] w fun e w' => ∃ A3 c3 ve, e = .returned (.tuple #[.agg #[.int .u8 y, .slice A3 vb.length c3], ve]) ∧ Kd.F (Kd.int .u8) w' P0 A3 vb.length vb ∧ vb.length ≤ c3 ∧ Below w.heap.size w w' := by
  have hC := Kd.F_now hF; have hFb := Kd.F_bound hF; obtain ⟨i0, hi0, hz0⟩ := Option.map_eq_some_iff.1 info5
  simp only [Prod.mk.injEq] at hz0
  have hcut1 := cut_from (P := Tryz.prog) 57 5 .i64 Tryz.underlying57 hi0 1 hz0.2.1 A l.length c 1 (by omega) (by omega)
  have hcut2 := cut_from (P := Tryz.prog) 57 5 .i64 Tryz.underlying57 hi0 1 hz0.2.1 A l.length c ((i : Int) + 2) (by omega) (by omega)
  have hC1 := Kd.C_drop (m := (1 : Int).toNat) hC (by show 1 ≤ l.length; omega) hc
  have hC2 := Kd.F_cut (m := ((i : Int) + 2).toNat) hFb (by omega) hc
  have e1 : ((i : Int) + 2).toNat = i + 2 := by omega
  have y1 : (l.drop (1 : Int).toNat).length = l.length - (1 : Int).toNat := List.length_drop; have y2 : (l.drop ((i : Int) + 2).toNat).length = l.length - ((i : Int) + 2).toNat := List.length_drop; rw [← y1] at hcut1; rw [← y2] at hcut2; obtain ⟨A1, hA1⟩ : ∃ A1, A1 = (if c = (1 : Int).toNat then A else A.map (·.add ((1 : Int).toNat * 1))) := ⟨_, rfl⟩; obtain ⟨c1, hc1⟩ : ∃ c1, c1 = c - (1 : Int).toNat := ⟨_, rfl⟩; obtain ⟨A2, hA2⟩ : ∃ A2, A2 = (if c = ((i : Int) + 2).toNat then A else A.map (·.add (((i : Int) + 2).toNat * 1))) := ⟨_, rfl⟩; obtain ⟨c2, hc2⟩ : ∃ c2, c2 = c - ((i : Int) + 2).toNat := ⟨_, rfl⟩
  have hC1' : Kd.C (Kd.int .u8) w A1 (l.drop (1 : Int).toNat).length (l.drop (1 : Int).toNat) := by rw [hA1]; exact hC1
  have hC2' : Kd.F (Kd.int .u8) w (fun k => P0 k ∧ k < w.heap.size) A2 (l.drop ((i : Int) + 2).toNat).length (l.drop ((i : Int) + 2).toNat) := by rw [hA2]; exact hC2
  have hc1' : (l.drop (1 : Int).toNat).length ≤ c1 := by rw [y1, hc1]; exact Nat.sub_le_sub_right hc _
  have hc2' : (l.drop ((i : Int) + 2).toNat).length ≤ c2 := by rw [y2, hc2]; exact Nat.sub_le_sub_right hc _
  rw [← hA1, ← hc1] at hcut1; rw [← hA2, ← hc2, e1, hbs] at hcut2; rw [e1, hbs] at hC2' hc2'; have hidx' : bytes_IndexByte.f (l.drop (1 : Int).toNat) 0 = some (i : Int) := congrArg some hidx
  change (∀ W, _ = Result.ok (Value.slice A1 (List.drop 1 l).length c1) W) at hcut1
  change Kd.C (Kd.int .u8) w A1 (l.drop 1).length (l.drop 1) at hC1'
  change (l.drop 1).length ≤ c1 at hc1'
  change bytes_IndexByte.f (l.drop 1) 0 = some (i : Int) at hidx'
  generalize hL1 : l.drop 1 = L1 at hcut1 hC1' hc1' hidx'
  obtain ⟨a, hA, hcell⟩ := Kd.at_int hC 0 (by omega) (by omega)
  rw [hx, show (0 : Int).toNat = 0 from rfl, Addr.add_zero'] at hcell; subst hA
  have qi : (0 < l.length) = True := eq_true (by omega)
  clear hL1 hbs hA1 hA2 hc1 hc2 y1 y2 hC1 hC2 e1 hz0 hi0 hidx
  have d0 : decide ((l.length : Int) = 0) = false := decide_eq_false (by omega)
  have d0' : decide (l.length = 0) = false := decide_eq_false (by omega)
  have hne0 : l ≠ [] := by intro h; subst h; simp at h1
  have d1 : decide ((i : Int) = -1) = false := decide_eq_false (by omega)
  have hw : wrap64 ((i : Int) + 2) = (i : Int) + 2 := by unfold wrap64; omega
  have hw' : IntKind.i64.wrap ((i : Int) + 2) = (i : Int) + 2 := by rw [IntKind.wrap_i64]; omega
  go_enter Tryz.func81, Tryz.ntmps81
  go_wp2_with (go_at_call 127; refine (bytes_IndexByte.calls A1 c1 L1 0 i _ (Kd.C_alloc hC1' _) hc1' hidx').mono ?_; rintro e w1 ⟨rfl, hD⟩)
  have B0 : Below w.heap.size w w1 := below_step (below_alloc (Below.refl _ _) _) hD.below; have hz1 : w1.heap[w.heap.size]? = some (.cells #[.int .u8 0, .slice none 0 0] 67 (0, 0)) := blk_below (blk_new w _) hD.below; have hV1 : Kd.V (Kd.int .u8) 5 w1 w.heap.size (fun k => P0 k ∧ k < w.heap.size) (.slice A2 bs.length c2) bs := Kd.V_mk hc2' (Kd.F_below hC2' B0); have ha1 : w1.cell? a = some (.int .u8 x) := pw_cell_below B0 hcell; have hla : a.block < w.heap.size := World.block_lt_of_cell? w _ hcell
  refine start_ (n := 16) (S := fun W => W.cell? a = some (.int .u8 x)) (ds := []) #[ff,ff,ff,ff,ff,ff,ff,ff,ff,ff,ff,ff,ff,ff,ff,ff] (by kernel_rfl) rfl rfl ((pw_cell_below (below_drew1 (Below.refl _ w1)) ha1)) (fun hHeld => ?_)
  have B1 : Below w.heap.size w w1.drew := below_drew1 B0; have hz2 : w1.drew.heap[w.heap.size]? = some (.cells #[.int .u8 0, .slice none 0 0] 67 (0, 0)) := hz1; have hV2 : Kd.V (Kd.int .u8) 5 w1.drew w.heap.size (fun k => P0 k ∧ k < w.heap.size) (.slice A2 bs.length c2) bs := Kd.V_drew hV1; have hs1 : w.heap.size < w1.drew.heap.size := (Array.getElem?_eq_some_iff.1 hz2).1; generalize w1.drew = wd at B1 hz2 hV2 hs1 hHeld ⊢; clear hz1 hV1 ha1 B0 hD
  refine HW.pz (i := 0) (N := (some 21)) #[tt,ff,ff,ff,ff,ff,ff,ff,ff,ff,ff,ff,ff,ff,ff,ff] ?_
  refine HW.pz (i := 1) (N := (some 22)) #[tt,tt,ff,ff,ff,ff,ff,ff,ff,ff,ff,ff,ff,ff,ff,ff] ?_
  refine HW.pz (i := 2) (N := (some 23)) #[tt,tt,tt,ff,ff,ff,ff,ff,ff,ff,ff,ff,ff,ff,ff,ff] ?_
  refine pure_ (i := 3) (N := some 24) (v := .slice A2 bs.length c2) (a' := ?_) #[tt,tt,tt,tt,ff,ff,ff,ff,ff,ff,ff,ff,ff,ff,ff,ff] rfl rfl (by kernel_rfl) (fun _ _ _ h => h) (Or.inl ⟨by rfl, ?_⟩) ?_ ?_
  · intro w'
    simp [execOp, Act.eval, Sem.run_bind]
    have hx : (Tryz.prog).underlying 57 = some (.slice ((Tryz.prog).elem 57)) := by kernel_rfl
    rw [(run_sliceAt_slice (P := Tryz.prog) (w := w') 57 (.slice (some a) l.length c) (some (.int .i64 ((i : Int) + 2))) none none hx).trans (hcut2 w')]
    rfl
  rotate_left
  · exact HW.pt
  refine HW.pz (i := 4) (N := (some 25)) #[tt,tt,tt,tt,tt,ff,ff,ff,ff,ff,ff,ff,ff,ff,ff,ff] ?_
  refine HW.pz (i := 5) (N := (some 26)) #[tt,tt,tt,tt,tt,tt,ff,ff,ff,ff,ff,ff,ff,ff,ff,ff] ?_
  refine take_ (i := 6) (N := some 27) (v := ?_) (a' := ?_) #[tt,tt,tt,tt,tt,tt,tt,ff,ff,ff,ff,ff,ff,ff,ff,ff] rfl rfl (by kernel_rfl) (fun _ _ _ h => h) (Or.inl ⟨by rfl, ?_⟩) hHeld ?_ ?_
  rotate_left
  · rintro w' h0
    go_simp
    with_reducible rfl
  rotate_left
  · exact HW.pt
  refine join_ (σ := Nat × (Option Addr × Nat) × Value) 3 #[tt,tt,tt,tt,tt,tt,tt,tt,tt,tt,tt,tt,tt,ff,ff,ff] (fun s => [(28, .tuple #[.agg #[.int .u8 y, .slice s.2.1.1 vb.length s.2.1.2], s.2.2, .bool ok]), (20, .tuple #[.agg #[.int .u8 y, .slice s.2.1.1 vb.length s.2.1.2], s.2.2, .bool ok]), (29, .agg #[.int .u8 y, .slice s.2.1.1 vb.length s.2.1.2]), (30, s.2.2), (31, .bool ok), (5, .pointer (some ⟨s.1, 0, none⟩))]) (fun s W => W.cell? a = some (.int .u8 x) ∧ Below w.heap.size w W ∧ W.heap[w.heap.size]? = some (.cells #[.int .u8 0, .slice none 0 0] 67 (0, 0)) ∧ W.heap[s.1]? = some (.cells #[.int .u8 0, .slice none 0 0] 67 (0, 0)) ∧ w.heap.size < s.1 ∧ Kd.V (Kd.int .u8) 5 W w.heap.size (fun k => P0 k ∧ k ≠ s.1 ∧ k ≠ w.heap.size) (.slice s.2.1.1 vb.length s.2.1.2) vb ∧ ∃ A4 n4 c4, s.2.2 = .slice A4 n4 c4) (fun s W hF => ?_) (fun hj => ?_)
  rotate_left
  · refine two_ (i := 7) (j := 12) (Ni := some 28) (Nj := some 5) #[tt,tt,tt,tt,tt,tt,tt,tt,ff,ff,ff,ff,ff,ff,ff,ff] #[tt,tt,tt,tt,tt,tt,tt,ff,ff,ff,ff,ff,tt,ff,ff,ff] rfl rfl rfl rfl (by kernel_rfl) (by decide) (by decide) (fun K_ hK => ?_) (fun K_ hK => ?_)
    · refine goes_ Tryz.func67 (by kernel_rfl) rfl #[.slice A2 bs.length c2, .int .u8 x] (by rfl) rfl rfl (by (try simp only [List.map_toArray, List.map_cons, List.map_nil]); first | done | rfl) ?_
      refine (bsoncore_ReadValue.calls k (fun k => P0 k ∧ k < w.heap.size) A2 c2 bs x y vb rm ok wd (Kd.V_mk (Kd.V_reads' hV2).2.1 (Kd.V_F hV2)) hrv).mono ?_
      rintro e w2 ⟨v1, v2, rfl, hv1, hv2, hb2⟩
      obtain ⟨A3, c3, rfl⟩ := Kd.V_slice hv1; obtain ⟨A4, c4, rfl⟩ := Kd.V_slice hv2
      refine ⟨_, rfl, ?_⟩
      refine hK.out _ _ (pw_cell_below hb2 hHeld) (fun hHeld2 => ?_)
      clear hK K_
      refine HW.nz (N := (some 28)) ?_
      refine HW.pz (i := 8) (N := (some 20)) #[tt,tt,tt,tt,tt,tt,tt,tt,tt,ff,ff,ff,ff,ff,ff,ff] ?_
      refine HW.pz (i := 9) (N := (some 29)) #[tt,tt,tt,tt,tt,tt,tt,tt,tt,tt,ff,ff,ff,ff,ff,ff] ?_
      refine HW.pz (i := 10) (N := (some 30)) #[tt,tt,tt,tt,tt,tt,tt,tt,tt,tt,tt,ff,ff,ff,ff,ff] ?_
      refine HW.pz (i := 11) (N := (some 31)) #[tt,tt,tt,tt,tt,tt,tt,tt,tt,tt,tt,tt,ff,ff,ff,ff] ?_
      refine one_ (i := 12) (N := some 5) #[tt,tt,tt,tt,tt,tt,tt,tt,tt,tt,tt,tt,tt,ff,ff,ff] rfl rfl (by kernel_rfl) (by decide) (fun K_ hK => ?_)
      refine value_ (v := .pointer (some ⟨w2.heap.size, 0, none⟩)) (w1 := w2.alloc (.cells #[.int .u8 0, .slice none 0 0] 67)) (by rfl) rfl ?_ ?_
      · go_simp
      refine hK.out _ _ (pw_cell_below (below_alloc (Below.refl _ _) _) hHeld2) (fun hHeld3 => ?_)
      refine norm_ rfl (hj (w2.heap.size, (A3, c3), .slice A4 rm.length c4) _ ⟨hHeld3, below_alloc (below_step B1 hb2) _, blk_alloc (blk_below hz2 hb2) _, blk_new w2 _, Nat.lt_of_lt_of_le hs1 hb2.size, Kd.V_alloc (Kd.V_mono (Kd.V_bound hv1) (fun k hk => ⟨hk.1.elim (fun h => h.1) (fun h => hP k (by omega)), by have := hk.2; omega, by have := hk.1; rcases this with h | h <;> omega⟩)) _, _, _, _, rfl⟩)
    refine value_ (v := .pointer (some ⟨wd.heap.size, 0, none⟩)) (w1 := wd.alloc (.cells #[.int .u8 0, .slice none 0 0] 67)) (by rfl) rfl ?_ ?_
    · go_simp
    refine hK.out _ _ (pw_cell_below (below_alloc (Below.refl _ _) _) hHeld) (fun hHeld2 => ?_)
    clear hK K_
    refine one_ (i := 7) (N := some 28) #[tt,tt,tt,tt,tt,tt,tt,tt,ff,ff,ff,ff,tt,ff,ff,ff] rfl rfl (by kernel_rfl) (by decide) (fun K_ hK => ?_)
    refine goes_ Tryz.func67 (by kernel_rfl) rfl #[.slice A2 bs.length c2, .int .u8 x] (by rfl) rfl rfl (by (try simp only [List.map_toArray, List.map_cons, List.map_nil]); first | done | rfl) ?_
    refine (bsoncore_ReadValue.calls k (fun k => P0 k ∧ k < w.heap.size) A2 c2 bs x y vb rm ok (wd.alloc (.cells #[.int .u8 0, .slice none 0 0] 67)) (Kd.V_mk (Kd.V_reads' hV2).2.1 (Kd.F_alloc (Kd.V_F hV2) _)) hrv).mono ?_
    rintro e w2 ⟨v1, v2, rfl, hv1, hv2, hb2⟩
    obtain ⟨A3, c3, rfl⟩ := Kd.V_slice hv1; obtain ⟨A4, c4, rfl⟩ := Kd.V_slice hv2
    refine ⟨_, rfl, ?_⟩
    have hsa : (wd.alloc (.cells #[.int .u8 0, .slice none 0 0] 67)).heap.size = wd.heap.size + 1 := by simp
    refine hK.out _ _ (pw_cell_below hb2 hHeld2) (fun hHeld3 => ?_)
    refine HW.nz (N := (some 28)) ?_
    refine HW.pz (i := 8) (N := (some 20)) #[tt,tt,tt,tt,tt,tt,tt,tt,tt,ff,ff,ff,tt,ff,ff,ff] ?_
    refine HW.pz (i := 9) (N := (some 29)) #[tt,tt,tt,tt,tt,tt,tt,tt,tt,tt,ff,ff,tt,ff,ff,ff] ?_
    refine HW.pz (i := 10) (N := (some 30)) #[tt,tt,tt,tt,tt,tt,tt,tt,tt,tt,tt,ff,tt,ff,ff,ff] ?_
    refine HW.pz (i := 11) (N := (some 31)) #[tt,tt,tt,tt,tt,tt,tt,tt,tt,tt,tt,tt,tt,ff,ff,ff] ?_
    refine norm_ rfl (hj (wd.heap.size, (A3, c3), .slice A4 rm.length c4) _ ⟨hHeld3, below_step (below_alloc B1 _) hb2, blk_below (blk_alloc hz2 _) hb2, blk_below (blk_new wd _) hb2, hs1, Kd.V_mono (Kd.V_bound hv1) (fun k hk => ⟨hk.1.elim (fun h => h.1) (fun h => hP k (by omega)), by have := hk.1; rcases this with h | h <;> omega, by have := hk.1; rcases this with h | h <;> omega⟩), _, _, _, rfl⟩)
  obtain ⟨hHeld2, B2, hz3, hg3, hlt, hv, hv4⟩ := hF; obtain ⟨g, ⟨A3, c3⟩, v2⟩ := s; obtain ⟨A4, n4, c4, hv4⟩ := hv4
  change v2 = _ at hv4
  subst hv4
  change W.heap[g]? = _ at hg3
  change w.heap.size < g at hlt
  refine norm_ (a' := ?_) ?_ ?_
  rotate_left
  · simp only [putAll, Act.put, List.setIfInBounds_toArray, List.set_cons_zero, List.set_cons_succ, errW_none]
    rfl
  refine one_ (i := 13) (N := none) #[tt,tt,tt,tt,tt,tt,tt,tt,tt,tt,tt,tt,tt,tt,ff,ff] rfl rfl (by kernel_rfl) (by decide) (fun K_ hK => ?_)
  have x0 : W.cell? ⟨g, 0, none⟩ = some (.int .u8 0) := (blk_cell hg3 0).trans rfl; have f0 := blk_frozen hg3 0; have x1 : W.cell? ⟨g, 1, none⟩ = some (.slice none 0 0) := (blk_cell hg3 1).trans rfl; have f1 := blk_frozen hg3 1
  refine skip_ (w1 := ?_) (by rfl) rfl ?_ ?_
  rotate_left
  · go_simp
    rfl
  refine hK.out _ _ ((cell_far (p := ⟨g, _, none⟩) (by simp; omega) _).trans ((cell_far (p := ⟨g, _, none⟩) (by simp; omega) _).trans hHeld2)) (fun hHeld3 => ?_)
  clear hK K_; have hg5 : ((W.setCell ⟨g, 0, none⟩ (.int .u8 y)).setCell ⟨g, 1, none⟩ (.slice A3 vb.length c3)).heap[g]? = some (.cells #[.int .u8 y, .slice A3 vb.length c3] 67 (0, 0)) := blk_put (blk_put hg3 0 _ rfl) 1 _ rfl
  have hz5 : ((W.setCell ⟨g, 0, none⟩ (.int .u8 y)).setCell ⟨g, 1, none⟩ (.slice A3 vb.length c3)).heap[w.heap.size]? = some (.cells #[.int .u8 0, .slice none 0 0] 67 (0, 0)) := by rw [Below.heap_setCell _ _ _ _ (by simp; omega), Below.heap_setCell _ _ _ _ (by simp; omega)]; exact hz3
  have B5 := below_set (g := g) (j := 1) (v := .slice A3 vb.length c3) (below_set (g := g) (j := 0) (v := .int .u8 y) B2 (Nat.le_of_lt hlt)) (Nat.le_of_lt hlt); have hv5 : Kd.V (Kd.int .u8) 5 ((W.setCell ⟨g, 0, none⟩ (.int .u8 y)).setCell ⟨g, 1, none⟩ (.slice A3 vb.length c3)) w.heap.size (fun k => P0 k ∧ k ≠ g ∧ k ≠ w.heap.size) (.slice A3 vb.length c3) vb := Kd.V_far (p := ⟨g, 1, none⟩) (Kd.V_far (p := ⟨g, 0, none⟩) hv (fun _ hk => hk.2.1) _) (fun _ hk => hk.2.1) _; generalize (W.setCell ⟨g, 0, none⟩ (.int .u8 y)).setCell ⟨g, 1, none⟩ (.slice A3 vb.length c3) = W5 at hg5 hz5 B5 hv5 hHeld3 ⊢; clear hg3 hz3 B2 hv hHeld2 hHeld x0 x1 f0 f1
  refine HW.pz (i := 14) (N := (some 6)) #[tt,tt,tt,tt,tt,tt,tt,tt,tt,tt,tt,tt,tt,tt,tt,ff] ?_
  refine HW.pz (i := 15) (N := (some 7)) #[tt,tt,tt,tt,tt,tt,tt,tt,tt,tt,tt,tt,tt,tt,tt,tt] ?_
  refine done_ (by kernel_rfl) ?_
  have x0 : W5.cell? ⟨g, 0, none⟩ = some (.int .u8 y) := (blk_cell hg5 0).trans rfl; have x1 : W5.cell? ⟨g, 1, none⟩ = some (.slice A3 vb.length c3) := (blk_cell hg5 1).trans rfl; have y0 : W5.cell? ⟨w.heap.size, 0, none⟩ = some (.int .u8 0) := (blk_cell hz5 0).trans rfl; have y1 : W5.cell? ⟨w.heap.size, 1, none⟩ = some (.slice none 0 0) := (blk_cell hz5 1).trans rfl; have g0 := blk_frozen hz5 0; have g1 := blk_frozen hz5 1; have hu64 := Tryz.underlying67
  cases ok
  · obtain ⟨rfl, rfl⟩ := hno rfl
    go_wp2_with (go_at_call 75; refine (few_new _ _ _ _ _ _ _).mono ?_; rintro e w19 ⟨rfl, hb9⟩; have z5 := blk_below hz5 hb9; have y0 : w19.cell? ⟨w.heap.size, 0, none⟩ = some (.int .u8 0) := (blk_cell z5 0).trans rfl; have y1 : w19.cell? ⟨w.heap.size, 1, none⟩ = some (.slice none 0 0) := (blk_cell z5 1).trans rfl; have g0 := blk_frozen z5 0; have g1 := blk_frozen z5 1)
    refine bodyPost_ret (results_ct rfl _ _ w.heap.size 67 #[.int .u8 0, .slice none 0 0] (0, 0) _ rfl (blk_put (blk_put z5 0 _ rfl) 1 _ rfl) Tryz.underlying67 rfl (by kernel_rfl)) rfl ?_
    exact ⟨none, 0, _, rfl, Kd.V_F (Kd.V_nil (Kd.int .u8) 5 _ w.heap.size P0), Nat.le_refl _, below_set (below_set (below_step B5 hb9) (Nat.le_refl _)) (Nat.le_refl _)⟩
  go_wp2
  have hv6 := Kd.V_far (p := ⟨w.heap.size, 1, none⟩) (Kd.V_far (p := ⟨w.heap.size, 0, none⟩) hv5 (fun _ hk => hk.2.2) (.int .u8 y)) (fun _ hk => hk.2.2) (.slice A3 vb.length c3)
  refine bodyPost_ret (results_ct rfl _ _ w.heap.size 67 #[.int .u8 y, .slice A3 vb.length c3] (0, 0) _ rfl (blk_put (blk_put hz5 0 _ rfl) 1 _ rfl) Tryz.underlying67 rfl (by kernel_rfl)) rfl ?_
  exact ⟨A3, c3, _, rfl, Kd.F_mono (Kd.V_F hv6) (fun _ hk => hk.1), (Kd.V_reads' hv6).2.1, below_set (below_set B5 (Nat.le_refl _)) (Nat.le_refl _)⟩
theorem val_calls (A : Option Addr) (c : Nat) (l : List Int) (w : World) (P0 : Nat → Prop) (hP : ∀ k, w.heap.size ≤ k → P0 k) (hF : Kd.F (Kd.int .u8) w P0 A l.length l) (hc : l.length ≤ c) (hbig : l.length ≤ 1000000) (i : Nat) (hidx : Lib.indexByte (Lib.bytesOf (l.drop 1)) 0 = (i : Int)) (h1 : i + 1 < l.length) (x : Int) (hx : rd l 0 = x) (bs : List Int) (hbs : l.drop (i + 2) = bs) (k : Nat) (y : Int) (vb rm : List Int) (ok : Bool) (hno : ok = false → y = 0 ∧ vb = []) (hrv : bsoncore_ReadValue.f k bs x = some (y, vb, rm, ok)) :
    Calls Tryz.prog 44 #[.slice A l.length c] w fun e w' => ∃ A3 c3, e = .returned (.agg #[.int .u8 y, .slice A3 vb.length c3]) ∧ Kd.F (Kd.int .u8) w' P0 A3 vb.length vb ∧ vb.length ≤ c3 ∧ Below w.heap.size w w' := by
  have B0 : ∀ o, Below w.heap.size w (w.alloc o) := fun o => below_alloc (Below.refl _ _) o; have hF0 := Kd.F_elderB hF w.heap.size (Nat.le_refl _)
  go_enter Tryz.func44, Tryz.ntmps44
  go_wp2_with (go_at_call 81; refine (vb_calls A c l _ (fun k => P0 k ∧ k ≠ w.heap.size) (fun k hk => by simp at hk; exact ⟨hP k (by omega), by omega⟩) (Kd.F_alloc hF0 _) hc hbig i hidx h1 x hx bs hbs k y vb rm ok hno hrv).mono ?_; rintro e w1 ⟨A3, c3, ve, rfl, hC3, hc3, hb⟩; have hz1 := blk_below (blk_new w _) hb; have B1 := below_step (B0 _) hb; clear hb; have y0 := (blk_cell hz1 0).trans rfl; have y1 := (blk_cell hz1 1).trans rfl; have g0 := blk_frozen hz1 0; have g1 := blk_frozen hz1 1; have hl1 := (Array.getElem?_eq_some_iff.1 hz1).1)
  have hC4 := Kd.F_far (p := ⟨w.heap.size, 1, none⟩) (Kd.F_far (p := ⟨w.heap.size, 0, none⟩) hC3 (fun _ hk => hk.2) (.int .u8 y)) (fun _ hk => hk.2) (.slice A3 vb.length c3)
  refine bodyPost_ret (results_cell_row rfl _ _ w.heap.size 67 #[.int .u8 y, .slice A3 vb.length c3] (0, 0) _ rfl (blk_alloc (blk_put (blk_put hz1 0 _ rfl) 1 _ rfl) _) Tryz.underlying67 rfl (by kernel_rfl)) rfl ?_
  exact ⟨A3, c3, rfl, Kd.F_alloc (Kd.F_mono hC4 (fun _ hk => hk.1)) _, hc3, below_alloc (below_set (below_set B1 (Nat.le_refl _)) (Nat.le_refl _)) _⟩
def val.f (k : Nat) (l : List Int) : Option (Int × List Int) := if elemOk l = true then (bsoncore_ReadValue.f k (l.drop ((Lib.indexByte (Lib.bytesOf (l.drop 1)) 0).toNat + 2)) (rd l 0)).bind fun t => if t.2.2.2 = true then some (t.1, t.2.1) else if t.1 = 0 ∧ t.2.1 = [] then some (0, []) else none else none
theorem val.mono : ∀ a0 k, LeO (val.f k a0) (val.f (k + 1) a0) := by
  intro a0 k
  unfold val.f
  exact LeO.ite (LeO.bind (bsoncore_ReadValue.mono _ _ _) (fun _ => LeO.refl _)) (LeO.refl _)
theorem val.calls (k : Nat) (A : Option Addr) (c : Nat) (l : List Int) (y : Int) (vb : List Int) (w : World) (P0 : Nat → Prop) (hP : ∀ k, w.heap.size ≤ k → P0 k) (hF : Kd.F (Kd.int .u8) w P0 A l.length l) (hc : l.length ≤ c) (h : val.f k l = some (y, vb)) :
    Calls Tryz.prog 44 #[.slice A l.length c] w fun e w' => ∃ A3 c3, e = .returned (.agg #[.int .u8 y, .slice A3 vb.length c3]) ∧ Kd.F (Kd.int .u8) w' P0 A3 vb.length vb ∧ vb.length ≤ c3 ∧ Below w.heap.size w w' := by
  unfold val.f at h
  by_cases he : elemOk l = true
  rotate_left
  · rw [if_neg he] at h; cases h
  rw [if_pos he] at h; obtain ⟨⟨t1, t2, t3, ok⟩, hrv, h⟩ := Option.bind_eq_some_iff.mp h; obtain ⟨i, hbig, hidx, h1, _⟩ := elem_ok he; rw [hidx] at hrv
  cases ok
  · simp only [Bool.false_eq_true, if_false] at h
    by_cases h0 : t1 = 0 ∧ t2 = []
    · rw [if_pos h0] at h
      obtain ⟨rfl, rfl⟩ := h0; obtain ⟨rfl, rfl⟩ := Prod.mk.inj (Option.some.inj h)
      exact val_calls A c l w P0 hP hF hc hbig i hidx h1 _ rfl _ rfl k 0 [] t3 false (fun _ => ⟨rfl, rfl⟩) hrv
    rw [if_neg h0] at h; cases h
  simp only [if_true] at h
  obtain ⟨rfl, rfl⟩ := Prod.mk.inj (Option.some.inj h)
  exact val_calls A c l w P0 hP hF hc hbig i hidx h1 _ rfl _ rfl k _ _ t3 true (fun h => by cases h) hrv
theorem ErrV.nil {b : Addr} {v : Value} (h : ErrV b 0 v) : v = .nilIface := by
  rcases h with ⟨_, h⟩ | ⟨h, _⟩ | ⟨h, _⟩
  · exact h
  · cases h
  cases h
theorem ErrV.few {b : Addr} {v : Value} (h : ErrV b 1 v) : ∃ A n d A' n' d', v = .iface 91 (.agg #[.slice A n d, .slice A' n' d']) := by
  rcases h with ⟨h, _⟩ | ⟨_, h⟩ | ⟨h, _⟩
  · cases h
  · exact h
  cases h
theorem ErrV.out {b : Addr} {v : Value} (h : ErrV b 7 v) : v = .iface 260 (.pointer (some b)) := by
  rcases h with ⟨h, _⟩ | ⟨h, _⟩ | ⟨_, h⟩
  · cases h
  · cases h
  exact h
def aix.f (k : Nat) (l0 : List Int) (a1 : Int) : Option (Int × List Int × Int) := (idx.f k l0 a1).bind fun bt => if bt.2 = 0 then (val.f k bt.1).bind fun v => some (v.1, v.2, 0) else if bt.2 = 1 then some (0, [], 1) else if bt.2 = 7 then some (0, [], 7) else none
theorem aix.mono : ∀ a0 a1 k, LeO (aix.f k a0 a1) (aix.f (k + 1) a0 a1) := by
  intro a0 a1 k
  unfold aix.f
  exact LeO.bind (idx.mono _ _ _) (fun _ => LeO.ite (LeO.bind (val.mono _ _) (fun _ => LeO.refl _)) (LeO.refl _))
theorem aix.calls (k : Nat) (P0_ : Nat → Prop) (A0 : Option Addr) (c0 : Nat) (l0 : List Int) (a1 : Int) (r1 : Int) (r2 : List Int) (cd : Int) (w : World) (b : Addr) (hS : w.cell? ⟨0, 0, none⟩ = some (.iface 260 (.pointer (some b)))) (hs1 : 0 < w.heap.size) (hs0 : Kd.V (Kd.int .u8) 5 w w.heap.size (fun k_ => P0_ k_) (.slice A0 l0.length c0) l0) (h : aix.f k l0 a1 = some (r1, r2, cd)) :
    Calls Tryz.prog 25 #[.slice A0 l0.length c0, .int .u64 a1] w fun e w' => ∃ v1_ ve : Value, e = .returned (.tuple #[.agg #[.int .u8 r1, v1_], ve]) ∧ ErrV b cd ve ∧ Kd.V (Kd.int .u8) 5 w' w.heap.size (fun k_ => (P0_ k_ ∨ w.heap.size ≤ k_)) v1_ r2 ∧ Below w.heap.size w w' := by
  have B0 : ∀ o, Below w.heap.size w (w.alloc o) := fun o => below_alloc (Below.refl _ _) o; obtain ⟨⟨e0, c⟩, h0, h⟩ := Option.bind_eq_some_iff.mp h; have hS' : (w.alloc (.cells #[.int .u8 0, .slice none 0 0] 67)).cell? ⟨0, 0, none⟩ = some (.iface 260 (.pointer (some b))) := ((B0 _).cell (p := ⟨0, 0, none⟩) hs1).trans hS; have hs1' : 0 < (w.alloc (.cells #[.int .u8 0, .slice none 0 0] 67)).heap.size := Nat.lt_of_lt_of_le hs1 (below_size (B0 _)); have hs0' : Kd.V (Kd.int .u8) 5 (w.alloc (.cells #[.int .u8 0, .slice none 0 0] 67)) (w.alloc (.cells #[.int .u8 0, .slice none 0 0] 67)).heap.size (fun k_ => P0_ k_ ∧ k_ ≠ w.heap.size) (.slice A0 l0.length c0) l0 := Kd.V_mk (Kd.V_reads' hs0).2.1 (Kd.F_alloc (Kd.F_elderB (Kd.V_F hs0) w.heap.size (Nat.le_refl _)) _)
  have hsz : (w.alloc (.cells #[.int .u8 0, .slice none 0 0] 67)).heap.size = w.heap.size + 1 := by simp
  have hu := Tryz.underlying67; clear hS hs1
  by_cases q0 : c = 0
  · subst q0
    simp only [if_true] at h
    obtain ⟨⟨y, vb⟩, h2, h⟩ := Option.bind_eq_some_iff.mp h
    simp only [Option.some.injEq, Prod.mk.injEq] at h
    obtain ⟨rfl, rfl, rfl⟩ := h
    go_enter Tryz.func25, Tryz.ntmps25
    go_wp2_with (first | (go_at_call 42; refine (idx.calls k _ A0 c0 l0 a1 e0 0 _ b hS' hs1' hs0' h0).mono ?_; rintro e w1 ⟨v0, ve, rfl, hE, hv, hb⟩; have hE1 := hE.nil; subst hE1; clear hE; have hz1 := blk_below (blk_new w _) hb; have B1 := below_step (B0 _) hb; obtain ⟨A3, c3, rfl⟩ := Kd.V_slice hv) | (go_at_call 44; refine (val.calls k A3 c3 e0 y vb _ (fun k_ => (P0_ k_ ∨ w.heap.size ≤ k_) ∧ k_ ≠ w.heap.size) (fun k_ hk_ => ⟨.inr (Nat.le_trans (below_size B1) hk_), by have := (Array.getElem?_eq_some_iff.1 hz1).1; omega⟩) (Kd.F_mono (Kd.V_F hv) (fun k_ hk_ => by rcases hk_ with hk_ | hk_; exact ⟨.inl hk_.1, hk_.2⟩; exact ⟨.inr (by omega), by omega⟩)) (Kd.V_reads' hv).2.1 h2).mono ?_; rintro e w2 ⟨A5, c5, rfl, hF5, hc5, hb5⟩; have z5 := blk_below hz1 hb5; have y0 : w2.cell? ⟨w.heap.size, 0, none⟩ = some (.int .u8 0) := (blk_cell z5 0).trans rfl; have y1 : w2.cell? ⟨w.heap.size, 1, none⟩ = some (.slice none 0 0) := (blk_cell z5 1).trans rfl; have g0 := blk_frozen z5 0; have g1 := blk_frozen z5 1))
    refine bodyPost_ret (results_ct rfl _ _ w.heap.size 67 #[.int .u8 y, .slice A5 vb.length c5] (0, 0) _ rfl (blk_put (blk_put z5 0 _ rfl) 1 _ rfl) Tryz.underlying67 rfl (by kernel_rfl)) rfl ?_
    exact ⟨_, _, rfl, Or.inl ⟨rfl, rfl⟩, Kd.V_mono (Kd.V_far (p := ⟨w.heap.size, 1, none⟩) (Kd.V_far (p := ⟨w.heap.size, 0, none⟩) (Kd.V_mk hc5 hF5) (fun _ hk => hk.2) _) (fun _ hk => hk.2) _) (fun _ hk => hk.1), below_set (below_set (below_step B1 hb5) (Nat.le_refl _)) (Nat.le_refl _)⟩
  replace h : (if c = 1 then some ((0 : Int), ([] : List Int), (1 : Int)) else if c = 7 then some (0, [], 7) else none) = some (r1, r2, cd) := (if_neg q0).symm.trans h
  by_cases q1 : c = 1
  · subst q1
    simp only [if_true] at h
    simp only [Option.some.injEq, Prod.mk.injEq] at h
    obtain ⟨rfl, rfl, rfl⟩ := h
    go_enter Tryz.func25, Tryz.ntmps25
    go_wp2_with (first | (go_at_call 42; refine (idx.calls k _ A0 c0 l0 a1 e0 1 _ b hS' hs1' hs0' h0).mono ?_; rintro e w1 ⟨v0, ve, rfl, hE, hv, hb⟩; obtain ⟨f1, f2, f3, f4, f5, f6, hE1⟩ := hE.few; subst hE1; have hz1 := blk_below (blk_new w _) hb; have B1 := below_step (B0 _) hb; obtain ⟨A3, c3, rfl⟩ := Kd.V_slice hv; have y0 : w1.cell? ⟨w.heap.size, 0, none⟩ = some (.int .u8 0) := (blk_cell hz1 0).trans rfl; have y1 : w1.cell? ⟨w.heap.size, 1, none⟩ = some (.slice none 0 0) := (blk_cell hz1 1).trans rfl; have g0 := blk_frozen hz1 0; have g1 := blk_frozen hz1 1))
    refine bodyPost_ret (results_ct rfl _ _ w.heap.size 67 #[.int .u8 0, .slice none 0 0] (0, 0) _ rfl (blk_put (blk_put hz1 0 _ rfl) 1 _ rfl) Tryz.underlying67 rfl (by kernel_rfl)) rfl ?_
    exact ⟨_, _, rfl, hE, Kd.V_nil _ _ _ _ _, below_set (below_set B1 (Nat.le_refl _)) (Nat.le_refl _)⟩
  rw [if_neg q1] at h
  by_cases q7 : c = 7
  · subst q7
    simp only [if_true] at h
    simp only [Option.some.injEq, Prod.mk.injEq] at h
    obtain ⟨rfl, rfl, rfl⟩ := h
    go_enter Tryz.func25, Tryz.ntmps25
    go_wp2_with (first | (go_at_call 42; refine (idx.calls k _ A0 c0 l0 a1 e0 7 _ b hS' hs1' hs0' h0).mono ?_; rintro e w1 ⟨v0, ve, rfl, hE, hv, hb⟩; have hE1 := hE.out; subst hE1; have hz1 := blk_below (blk_new w _) hb; have B1 := below_step (B0 _) hb; obtain ⟨A3, c3, rfl⟩ := Kd.V_slice hv; have y0 : w1.cell? ⟨w.heap.size, 0, none⟩ = some (.int .u8 0) := (blk_cell hz1 0).trans rfl; have y1 : w1.cell? ⟨w.heap.size, 1, none⟩ = some (.slice none 0 0) := (blk_cell hz1 1).trans rfl; have g0 := blk_frozen hz1 0; have g1 := blk_frozen hz1 1))
    refine bodyPost_ret (results_ct rfl _ _ w.heap.size 67 #[.int .u8 0, .slice none 0 0] (0, 0) _ rfl (blk_put (blk_put hz1 0 _ rfl) 1 _ rfl) Tryz.underlying67 rfl (by kernel_rfl)) rfl ?_
    exact ⟨_, _, rfl, hE, Kd.V_nil _ _ _ _ _, below_set (below_set B1 (Nat.le_refl _)) (Nat.le_refl _)⟩
  rw [if_neg q7] at h
  cases h
def impl_ArrayIndex.f (k : Nat) (l0 : List Int) (a1 : Int) : Option (Int × List Int × Int) := (aix.f k l0 (IntKind.u64.wrap (a1))).bind fun bt854 => ((impl_raw.f bt854.1 bt854.2.1).bind fun bt860 => (some (bt860.1, bt860.2, bt854.2.2)))
theorem impl_ArrayIndex.mono : ∀ a0 a1 k, LeO (impl_ArrayIndex.f k a0 a1) (impl_ArrayIndex.f (k + 1) a0 a1) := by
  intro a0 a1 k
  unfold impl_ArrayIndex.f
  exact LeO.bind (aix.mono _ _ _) (fun _ => LeO.refl _)
theorem impl_ArrayIndex.calls (k : Nat) (A0 : Option Addr) (c0 : Nat) (l0 : List Int) (a1 : Int) (r1 : Int) (r2 : List Int) (r3 : Int) (w : World) (hS0 : Sent w) (hr0 : Kd.C (Kd.int .u8) w A0 l0.length l0) (hc0 : l0.length ≤ c0) (h : impl_ArrayIndex.f k l0 a1 = some (r1, r2, r3)) :
    Calls Tryz.prog 9 #[.slice A0 l0.length c0, .int .i64 a1] w fun e w' => ∃ v1_ : Value, e = .returned (.tuple #[.agg #[.int .i64 r1, v1_], .int .i64 r3]) ∧ Kd.R (Kd.int .u8) 5 w' w.heap.size (fun _ => True) v1_ r2 ∧ Below w.heap.size w w' := by
  have hu38 := Tryz.underlying25; have hu101 := Tryz.underlying67; have HR0 := Aside0.mk hr0; have HC0 := Aside0.mk hc0; clear hr0 hc0; have HB := Aside0.mk (Below.refl w.heap.size w); obtain ⟨b, hS, hs1⟩ := hS0; have HS := Aside0.mk hS; clear hS; have H : ((aix.f k l0 (IntKind.u64.wrap (a1))).bind fun bt854 => ((impl_raw.f bt854.1 bt854.2.1).bind fun bt860 => (some (bt860.1, bt860.2, bt854.2.2)))) = some (r1, r2, r3) := h; clear h; replace H := Option.bind_eq_some_iff.mp H; obtain ⟨⟨t854, t855, t858⟩, A30, H⟩ := H; replace H : ((impl_raw.f t854 t855).bind fun bt860 => (some (bt860.1, bt860.2, t858))) = some (r1, r2, r3) := H; have A3 := Aside0.mk A30; clear A30; replace H := Option.bind_eq_some_iff.mp H; obtain ⟨⟨t860, t861⟩, A40, H⟩ := H; replace H : (some (t860, t861, t858)) = some (r1, r2, r3) := H; have A4 := Aside0.mk A40; clear A40
  focus
    simp only [Option.some.injEq, Prod.mk.injEq] at H
    obtain ⟨rfl, rfl, rfl⟩ := H
    go_enter Tryz.func9, Tryz.ntmps9
    go_wp2_with (first | ((with_reducible refine gate_dst (N := 4) rfl ?_); refine box_event ?hg (N := 4) ?hd (cs := #[.int .i64 0, .slice none 0 0]) (t := 25) ?hr ?_; (case hd => rfl); (case hg => rfl); (case hr => first | (go_simp; done) | (go_simp; rfl)); intro gb853 hg w6 hbox hb; have qn0_ := Aside0.mk (below_step HW.zb hb); have qn1_ := Aside0.mk (hbox); have qn2_ := Aside0.mk ((by rw [hg]; exact (below_size HW.zb) : w.heap.size ≤ gb853)); have qn3_ := Aside0.mk ((by rw [hg]; exact (below_size HW.zb) : w.heap.size ≤ gb853)); clear HB; have HB := qn0_; have BK853 := qn1_; have GW853 := qn2_; have GE853 := qn3_; clear qn0_ qn1_ qn2_ qn3_; clear hb hbox hg) | ((with_reducible refine gate_callee (f := 25) rfl ?_); refine HW.gz (some 12) rfl rfl Tryz.func25 (by kernel_rfl) rfl #[.slice A0 l0.length c0, .int .u64 (IntKind.u64.wrap (a1))] rfl ?_; (with_reducible refine (aix.calls k (fun k_ => k_ < w.heap.size) _ _ l0 (IntKind.u64.wrap (a1)) t854 t855 t858 _ b ?sS ?sL ?side1 A3.out).mono ?_); (case sS => exact ((Below.cell (B := w.heap.size) (p := ⟨0, 0, none⟩) (by repeat (first | exact HB.out | apply below_alloc | apply pw_below_drewN | apply below_drew1)) hs1).trans HS.out)); (case sL => exact (Nat.lt_of_lt_of_le hs1 (below_size HW.zb))); (case side1 => exact Kd.V_mk HC0.out (Kd.F_below (Kd.C_F (Kd.heap_int .u8) HR0.out) HW.zb)); rintro e w7 ⟨v856, ve, rfl, hE, ho0, hb⟩; have HE := Aside0.mk hE; clear hE; refine ⟨_, rfl, ?_⟩; have qn0_ := Aside0.mk (Kd.V_lower (Kd.V_mono (ok' := fun k_ => k_ ≠ gb853) ho0 (fun k_ hk_ => Or.elim hk_ (fun hs_ => fun e_ => Nat.not_le.2 hs_ (by rw [e_]; exact GW853.out)) (fun hn_ => (Kd.freshB (g := gb853) (o := .cells #[.int .i64 0, .slice none 0 0] 25 (0, 0)) (HW.zB BK853.out) k_ hn_)))) (below_size HW.zb)); have qn1_ := Aside0.mk (blk_below (HW.zB BK853.out) hb); have qn2_ := Aside0.mk (below_step HW.zb hb); clear BK853; clear HB; have HO857 := qn0_; have BK853 := qn1_; have HB := qn2_; clear qn0_ qn1_ qn2_; (try clear hb); (try clear ho0)) | ((with_reducible refine gate_dst (N := 6) rfl ?_); refine box_event ?hg (N := 6) ?hd (cs := #[.int .u8 0, .slice none 0 0]) (t := 67) ?hr ?_; (case hd => rfl); (case hg => rfl); (case hr => first | (go_simp; done) | (go_simp; rfl)); intro gb859 hg w8 hbox hb; have qn0_ := Aside0.mk (Kd.V_below (Kd.V_elderB (HW.zV HO857.out) gb859 (Nat.le_of_eq hg.symm)) hb); have qn1_ := Aside0.mk (blk_below (HW.zB BK853.out) hb); have qn2_ := Aside0.mk (below_step HW.zb hb); have qn3_ := Aside0.mk (hbox); have qn5_ := Aside0.mk ((by rw [hg]; exact (below_size HW.zb) : w.heap.size ≤ gb859)); have qn6_ := Aside0.mk ((by rw [hg]; exact Nat.ne_of_lt (blk_lt (g := gb853) (o := .cells #[.int .i64 0, .slice none 0 0] 25 (0, 0)) (HW.zB BK853.out)) : gb853 ≠ gb859)); have qn7_ := Aside0.mk ((by rw [hg]; exact Nat.ne_of_gt (blk_lt (g := gb853) (o := .cells #[.int .i64 0, .slice none 0 0] 25 (0, 0)) (HW.zB BK853.out)) : gb859 ≠ gb853)); clear HO857; clear BK853; clear HB; have HO857 := qn0_; have BK853 := qn1_; have HB := qn2_; have BK859 := qn3_; have GE859 := qn5_; have NB853_859 := qn6_; have NB859_853 := qn7_; clear qn0_ qn1_ qn2_ qn3_ qn5_ qn6_ qn7_; clear hb hbox hg; have hnb9 := NB859_853.out; have hnc9 := NB853_859.out; obtain ⟨hcz10_0, hcz10_1, hfz11_0, hfz11_1⟩ := HW.k2f BK859.out; obtain ⟨Ao12, co12, eo12⟩ := Kd.V_slice HO857.out; subst eo12) | ((with_reducible refine gate_callee (f := 26) rfl ?_); refine HW.gz (some 16) rfl rfl Tryz.func26 (by kernel_rfl) rfl #[.agg #[.int .u8 t854, .slice Ao12 t855.length co12]] rfl ?_; (with_reducible refine (impl_raw.calls t854 _ _ t855 t860 t861 _ ?side1 ?side2 A4.out).mono ?_); (case side1 => refine (Kd.V_reads' (e := 5) (base := w.heap.size) (ok := fun k_ => (k_ ≠ gb853 ∧ k_ ≠ gb859)) (n := t855.length) (c := co12) ?_).2.2; exact (by (with_reducible repeat (first | apply Kd.V_alloc | apply Kd.V_drewN | apply Kd.V_drew)); exact (Kd.V_mono (Kd.V_far (p := ⟨gb859, 1, none⟩) (Kd.V_far (p := ⟨gb859, 0, none⟩) (Kd.V_mono HO857.out (fun k_ hk => (⟨hk, hk.2⟩ : _ ∧ k_ ≠ gb859))) (fun _ hk => hk.2) (.int .u8 t854)) (fun _ hk => hk.2) (.slice Ao12 t855.length co12)) (fun _ h_ => h_.1)))); (case side2 => exact (Kd.V_reads' HO857.out).2.1); rintro e w13 ⟨v862, rfl, ho0, hb⟩; refine ⟨_, rfl, ?_⟩; have qn1_ := Aside0.mk (Kd.R_lower ho0 (below_size HW.zb)); have qn2_ := Aside0.mk (blk_below (g := gb853) (o := .cells #[.int .i64 0, .slice none 0 0] 25 (0, 0)) (by (with_reducible repeat (first | refine blk_drewN ?_ _ | refine blk_drew ?_ | refine blk_alloc ?_ _)); refine blk_far ?_ NB853_859.out _; (with_reducible repeat (first | refine blk_drewN ?_ _ | refine blk_drew ?_ | refine blk_alloc ?_ _)); refine blk_far ?_ NB853_859.out _; exact HW.zB BK853.out) hb); have qn4_ := Aside0.mk (below_step HW.zb hb); clear BK853; clear HB; have HO863 := qn1_; have BK853 := qn2_; have HB := qn4_; clear qn1_ qn2_ qn4_; (try clear hb); (try clear ho0)) | (go_at_call 24; refine (code_err (b := b) _ ?sS HE.out).mono ?_; (case sS => exact ((Below.cell (B := w.heap.size) (p := ⟨0, 0, none⟩) (by repeat (first | exact HB.out | apply below_alloc | apply pw_below_drewN | apply below_drew1)) hs1).trans HS.out)); rintro e w14 ⟨rfl, hb⟩; have qn1_ := Aside0.mk (Kd.R_below (HW.zR HO863.out) hb); have qn2_ := Aside0.mk (blk_below (HW.zB BK853.out) hb); have qn4_ := Aside0.mk (below_step HW.zb hb); clear HO863; clear BK853; clear HB; have HO863 := qn1_; have BK853 := qn2_; have HB := qn4_; clear qn1_ qn2_ qn4_; (try clear hb); obtain ⟨hcz15_0, hcz15_1, hfz16_0, hfz16_1⟩ := HW.k2f BK853.out; obtain ⟨Ao17, co17, eo17⟩ := Kd.R_slice HO863.out; subst eo17))
    refine bodyPost_ret (results_ct rfl _ _ gb853 25 #[.int .i64 t860, .slice Ao17 t861.length co17] (0, 0) _ rfl (by (with_reducible repeat (first | refine blk_drewN ?_ _ | refine blk_drew ?_ | refine blk_alloc ?_ _)); refine blk_put (cs := #[.int .i64 t860, .slice none 0 0]) ?_ 1 _ rfl; (with_reducible repeat (first | refine blk_drewN ?_ _ | refine blk_drew ?_ | refine blk_alloc ?_ _)); refine blk_put (cs := #[.int .i64 0, .slice none 0 0]) ?_ 0 _ rfl; exact HW.zB BK853.out) Tryz.underlying25 rfl (by kernel_rfl)) rfl ?_
    exact ⟨_, rfl, by (with_reducible repeat (first | apply Kd.R_alloc | apply Kd.R_drewN | apply Kd.R_drew)); exact Kd.R_mono (Kd.R_far (p := ⟨gb853, 1, none⟩) (Kd.R_far (p := ⟨gb853, 0, none⟩) (Kd.R_types HO863.out BK853.out (by decide)) (fun _ hk => hk.2) (.int .i64 t860)) (fun _ hk => hk.2) (.slice Ao17 t861.length co17)) (fun _ hk => trivial), HW.zb⟩
def impl_code.f (a0 : Option Int) : Option (Int) := if a0.isNone = true then (some 0) else (none)
theorem impl_code.calls (a0 : Option Int) (r : Int) (w : World) (h : impl_code.f a0 = some r) :
    Calls Tryz.prog 24 #[errW a0] w fun e w' => e = .returned (.int .i64 r) ∧ Below w.heap.size w w' := by
  have hu91 := Tryz.underlying91; have hu95 := Tryz.underlying95; have hu59 := Tryz.underlying59; have HB := Aside0.mk (Below.refl w.heap.size w); have H : (if a0.isNone = true then (some 0) else (none)) = some r := h; clear h
  rcases a0 with _ | q276
  rotate_left
  · have H1 : (none) = some r := by rw [if_neg (show ¬ (some q276).isNone = true by simp)] at H; exact H
    clear H; have H := H1; clear H1
    simp only [errW_none, errW_some]
    exact absurd H (by simp)
  have H1 : (some 0) = some r := by rw [if_pos (show (none : Option Int).isNone = true by rfl)] at H; exact H
  clear H; have H := H1; clear H1
  simp only [errW_none, errW_some]
  as_aux_lemma =>
    obtain rfl := Option.some.inj H
    go_enter Tryz.func24, Tryz.ntmps24
    go_wp2
    go_ret
    exact ⟨rfl, HW.zb⟩
end Go.Proofs.YtbfhpjkahobgnaaGreatDoor.PIx
