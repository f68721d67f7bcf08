import Derived.Test.YtanecebppagakaaGreatDoorPRxx0
import Derived.Test.YtanecebppagakaaGreatDoorPRxx4
namespace Go.Proofs.YtanecebppagakaaGreatDoor.PRx
open Go.RowKit Go.Proofs.YtanecebppagakaaGreatDoorW.PrintWords Go.Proofs.YtanecebppagakaaGreatDoorW.PrintLast Go.Proofs.YtanecebppagakaaGreatDoorW.PrintMore
attribute [local go_sem] max2_int min2_int max_two min_two max_three min_three max_four min_four
set_option linter.unusedVariables false
set_option maxHeartbeats 8000000
set_option maxRecDepth 100000
set_option linter.unusedSimpArgs false
def bsoncore_readValue.j0 : Nat → List Int → Int → Bool → Option (List Int × List Int × Bool)
  | 0, _, _, _ => none
  | k + 1, x0, x7, x23 => if x23 = true then (some (([] : List Int), x0, false)) else (if 0 ≤ x7 then (if x7 ≤ (x0.length : Int) then (some ((x0.take (x7 : Int).toNat), (x0.drop (x7 : Int).toNat), true)) else (none)) else (none))
def bsoncore_readValue.f (k : Nat) (l0 : List Int) (a1 : Int) : Option (List Int × List Int × Bool) := (bsoncore_valueLength.f k l0 a1).bind fun bt342 => (if bt342.2 = true then (bsoncore_readValue.j0 k l0 bt342.1 (decide ((wrap64 (bt342.1)) > (l0.length : Int)))) else (bsoncore_readValue.j0 k l0 bt342.1 true))
theorem bsoncore_readValue.mono_l : ∀ k, (∀ y0 y1 y2, LeO (bsoncore_readValue.j0 k y0 y1 y2) (bsoncore_readValue.j0 (k + 1) y0 y1 y2))
  | 0 => fun _ _ _ r h => by simp [bsoncore_readValue.j0] at h
  | k + 1 => by
    have ih0 := bsoncore_readValue.mono_l k
    · intro y0 y1 y2
      unfold bsoncore_readValue.j0
      have m0_ := @ih0; have m1_ := @bsoncore_valueLength.mono; exact HW.mo
theorem bsoncore_readValue.mono : ∀ a0 a1 k, LeO (bsoncore_readValue.f k a0 a1) (bsoncore_readValue.f (k + 1) a0 a1) := by
  intro a0 a1 k
  have ih0 := bsoncore_readValue.mono_l k
  unfold bsoncore_readValue.f
  have m0_ := @ih0; have m1_ := @bsoncore_valueLength.mono; exact HW.mo
theorem bsoncore_readValue.calls (k : Nat) (P0_ : Nat → Prop) (A0 : Option Addr) (c0 : Nat) (l0 : List Int) (a1 : Int) (r1 : List Int) (r2 : List Int) (r3 : Bool) (w : World) (hs0 : Kd.V (Kd.int .u8) 5 w w.heap.size (fun k_ => P0_ k_) (.slice A0 l0.length c0) l0) (h : bsoncore_readValue.f k l0 a1 = some (r1, r2, r3)) :
    Calls Tryz.prog 117 #[.slice A0 l0.length c0, .int .u8 a1] w fun e w' => ∃ v0_ v1_ : Value, e = .returned (.tuple #[v0_, v1_, .bool r3]) ∧ Kd.V (Kd.int .u8) 5 w' w.heap.size (fun k_ => (P0_ k_ ∨ w.heap.size ≤ k_)) v0_ r1 ∧ Kd.V (Kd.int .u8) 5 w' w.heap.size (fun k_ => (P0_ k_ ∨ w.heap.size ≤ k_)) v1_ r2 ∧ Below w.heap.size w w' := by
  have HO0 := Aside0.mk (show Kd.V (Kd.int .u8) 5 w w.heap.size (fun k_ => (P0_ k_ ∨ w.heap.size ≤ k_)) (.slice A0 l0.length c0) l0 from Kd.V_mono hs0 (fun k_ hk => .inl hk)); have HB := Aside0.mk (Below.refl w.heap.size w); have H : ((bsoncore_valueLength.f k l0 a1).bind fun bt342 => (if bt342.2 = true then (bsoncore_readValue.j0 k l0 bt342.1 (decide ((wrap64 (bt342.1)) > (l0.length : Int)))) else (bsoncore_readValue.j0 k l0 bt342.1 true))) = some (r1, r2, r3) := h; clear h; replace H := Option.bind_eq_some_iff.mp H; obtain ⟨⟨t342, t343⟩, A30, H⟩ := H; replace H : (if t343 = true then (bsoncore_readValue.j0 k l0 t342 (decide ((wrap64 (t342)) > (l0.length : Int)))) else (bsoncore_readValue.j0 k l0 t342 true)) = some (r1, r2, r3) := H; have A3 := Aside0.mk A30; clear A30; have HC4 := Aside0.mk H; clear H
  go_enter Tryz.func117, Tryz.ntmps117
  go_upto_region 2 with (first | (go_at_call 107; (with_reducible refine (bsoncore_valueLength.calls k _ _ l0 a1 t342 t343 _ ?side1 ?side2 A3.out).mono ?_); (case side1 => repeat (first | exact (Kd.V_reads' HO0.out).2.2 | (with_reducible refine Kd.C_alloc ?_ _) | (with_reducible refine Kd.C_drewN ?_ _) | (with_reducible refine Kd.C_drew ?_))); (case side2 => exact (Kd.V_reads' HO0.out).2.1); rintro e w5 ⟨rfl, hb⟩; replace HO0 := Aside0.mk (Kd.V_below (HW.zV HO0.out) hb); replace HB := Aside0.mk (below_step HW.zb hb); (try clear hb)))
  repeat (go_quiet (fail); try go_wp2)
  (try simp only [Act.put, List.setIfInBounds_toArray, List.set_cons_zero, List.set_cons_succ])
  go_cut [23] (fun v23 wc => ∃ (kq : Nat) (x23_3 : Bool), v23 = .bool x23_3 ∧ Aside0 (bsoncore_readValue.j0 kq l0 t342 x23_3 = some (r1, r2, r3)) ∧ Aside0 (kq ≤ k) ∧ Aside0 (Kd.V (Kd.int .u8) 5 wc w.heap.size (fun k_ => (P0_ k_ ∨ w.heap.size ≤ k_)) (.slice A0 l0.length c0) l0) ∧ Aside0 (Below w.heap.size w wc))
  case first =>
    have H := HC4.out; clear HC4
    by_cases c6 : t343 = true
    · subst c6
      have H1 : (bsoncore_readValue.j0 k l0 t342 (decide ((wrap64 (t342)) > (l0.length : Int)))) = some (r1, r2, r3) := by rw [if_pos rfl] at H; exact H
      clear H; have H := H1; clear H1
      as_aux_lemma =>
        have H' := Aside0.mk H; clear H
        go_wp2
        repeat (go_quiet (fail); try go_wp2)
        go_meet
        case rel => exact ⟨_, (decide ((wrap64 (t342)) > (l0.length : Int))), HW.rs, H', ⟨by first | omega | exact Nat.le_refl _⟩, ⟨HW.zV HO0.out⟩, ⟨HW.zb⟩⟩
    replace c6 := Bool.eq_false_iff.mpr c6; subst c6
    have H1 : (bsoncore_readValue.j0 k l0 t342 true) = some (r1, r2, r3) := by rw [if_neg (show ¬ (false = true) by decide)] at H; exact H
    clear H; have H := H1; clear H1
    as_aux_lemma =>
      have H' := Aside0.mk H; clear H
      go_wp2
      repeat (go_quiet (fail); try go_wp2)
      go_meet
      case rel => exact ⟨_, (true), HW.rs, H', ⟨by first | omega | exact Nat.le_refl _⟩, ⟨HW.zV HO0.out⟩, ⟨HW.zb⟩⟩
  case rest =>
    clear HC4
    (try clear c1); (try clear p2); (try clear c6); (try clear p6)
    obtain ⟨kq, x23_3, rfl, HA, HJ3, HO_0, HB⟩ := hcut
    cases kq with
    | zero => exact absurd HA.out (by simp [bsoncore_readValue.j0])
    | succ kj3 =>
      have H := HA.out; clear HA
      simp only [bsoncore_readValue.j0] at H
      by_cases c7 : x23_3 = true
      · subst c7
        have H1 : (some (([] : List Int), l0, false)) = some (r1, r2, r3) := by rw [if_pos rfl] at H; exact H
        clear H; have H := H1; clear H1
        as_aux_lemma =>
          simp only [Option.some.injEq, Prod.mk.injEq] at H
          obtain ⟨rfl, rfl, rfl⟩ := H
          go_wp2
          repeat (go_quiet (fail); try go_wp2)
          go_ret3
          exact ⟨_, _, rfl, Kd.V_nil _ _ _ _ _, HW.zV HO_0.out, HW.zb⟩
      replace c7 := Bool.eq_false_iff.mpr c7; subst c7
      have H1 : (if 0 ≤ t342 then (if t342 ≤ (l0.length : Int) then (some ((l0.take (t342 : Int).toNat), (l0.drop (t342 : Int).toNat), true)) else (none)) else (none)) = some (r1, r2, r3) := by rw [if_neg (show ¬ (false = true) by decide)] at H; exact H
      clear H; have H := H1; clear H1
      by_cases c8 : 0 ≤ t342
      rotate_left
      · rw [if_neg c8] at H
        exact absurd H (by simp)
      rw [if_pos c8] at H; have c8b0 := eq_true c8; have c8b1 : decide (0 ≤ t342) = true := decide_eq_true c8; clear c8
      by_cases c9 : t342 ≤ (l0.length : Int)
      rotate_left
      · rw [if_neg c9] at H
        exact absurd H (by simp)
      rw [if_pos c9] at H; have c9b0 := eq_true c9; have c9b1 : decide (t342 ≤ (l0.length : Int)) = true := decide_eq_true c9; clear c9; obtain ⟨y344, hy344⟩ : ∃ y_ : List Int, y_ = (l0.take (t342 : Int).toNat) := ⟨_, rfl⟩
      replace H : (some (y344, (l0.drop (t342 : Int).toNat), true)) = some (r1, r2, r3) := by (try rw [hy344]); exact HW.rp
      have Ny344 := Aside0.mk hy344; clear hy344
      have c10b0 := eq_true (HW.od : 0 ≤ t342)
      have c11b0 := eq_true (HW.od : t342 ≤ (l0.length : Int))
      obtain ⟨y349, hy349⟩ : ∃ y_ : List Int, y_ = (l0.drop (t342 : Int).toNat) := ⟨_, rfl⟩
      replace H : (some (y344, y349, true)) = some (r1, r2, r3) := by (try rw [hy349]); exact HW.rp
      have Ny349 := Aside0.mk hy349; clear hy349
      as_aux_lemma =>
        simp only [Option.some.injEq, Prod.mk.injEq] at H
        obtain ⟨rfl, rfl, rfl⟩ := H
        have q12 : (t342 : Int) ≤ ((l0.length : Int) : Int) := HW.od
        obtain ⟨i012, hi012, _, hsz12, _⟩ := info_parts info5; have hroom12 : l0.length ≤ c0 := (Kd.V_reads' HO_0.out).2.1; have hC12 : Kd.F (Kd.int .u8) _ _ A0 l0.length l0 := (Kd.V_at (base := w.heap.size) HO_0.out).2.2
        have hcut12 := cut_to (P := Tryz.prog) 22 5 .i32 Tryz.underlying22 hi012 A0 l0.length c0 t342 (HW.od) q12 hroom12
        have hr12 := Kd.F_take (m := (t342 : Int).toNat) hC12 (by omega)
        have hy12 : y344.length = (t342 : Int).toNat := (by rw [Ny344.out, List.length_take]; omega)
        rw [← Ny344.out] at hr12; rw [← hy12] at hcut12
        have HO348 := Aside0.mk (show Kd.V (Kd.int .u8) 5 _ w.heap.size _ (.slice A0 y344.length c0) y344 from Kd.V_mk (by omega) hr12)
        have HC348 := Aside0.mk (show y344.length ≤ c0 from by omega)
        clear hr12 hC12 hroom12 hi012 hsz12; have KY12 := Aside0.mk hy12; clear hy12; replace q12 := eq_true q12
        have q13 : (t342 : Int) ≤ ((l0.length : Int) : Int) := HW.od
        obtain ⟨i013, hi013, _, hsz13, _⟩ := info_parts info5; have hroom13 : l0.length ≤ c0 := (Kd.V_reads' HO_0.out).2.1; have hC13 : Kd.F (Kd.int .u8) _ _ A0 l0.length l0 := (Kd.V_at (base := w.heap.size) HO_0.out).2.2
        have q013 : (0 : Int) ≤ (t342 : Int) := HW.od
        have hcut13 := cut_from (P := Tryz.prog) 22 5 .i32 Tryz.underlying22 hi013 1 hsz13 A0 l0.length c0 t342 q013 q13
        have hr13 := Kd.F_cut (m := (t342 : Int).toNat) (c := c0) hC13 (by omega) hroom13
        obtain ⟨A13, hA13⟩ : ∃ A1, A1 = (if c0 = (t342 : Int).toNat then A0 else (A0 : Option Addr).map (·.add ((t342 : Int).toNat * 1))) := ⟨_, rfl⟩; obtain ⟨c13, hc13⟩ : ∃ c1, c1 = c0 - (t342 : Int).toNat := ⟨_, rfl⟩
        have hy13 : y349.length = l0.length - (t342 : Int).toNat := (by rw [Ny349.out, List.length_drop] <;> omega)
        rw [show (l0).drop (t342 : Int).toNat = y349 from Ny349.out.symm] at hr13
        replace hr13 : Kd.F (Kd.int .u8) _ _ A13 y349.length y349 := (by rw [hA13]; exact hr13)
        rw [← hy13, ← hA13, ← hc13] at hcut13
        have HO353 := Aside0.mk (show Kd.V (Kd.int .u8) 5 _ w.heap.size _ (.slice A13 y349.length c13) y349 from Kd.V_mk (by rw [hy13, hc13]; exact Nat.sub_le_sub_right hroom13 _) hr13)
        have HC353 := Aside0.mk (show y349.length ≤ c13 from by rw [hy13, hc13]; exact Nat.sub_le_sub_right hroom13 _)
        clear hr13 hC13 hroom13 hi013 hsz13 hc13; have KY13 := Aside0.mk hy13; have KA13 := Aside0.mk hA13; clear hy13 hA13; replace q13 := eq_true q13
        go_wp2
        repeat (go_quiet (fail); try go_wp2)
        go_ret3
        exact ⟨_, _, rfl, HW.zV HO348.out, HW.zV HO353.out, HW.zb⟩
def bsoncore_ReadValue.f (k : Nat) (l0 : List Int) (a1 : Int) : Option (Int × List Int × List Int × Bool) := (bsoncore_readValue.f k l0 a1).bind fun bt355 => (if bt355.2.2 = true then (some (a1, bt355.1, bt355.2.1, true)) else (some (0, ([] : List Int), l0, false)))
theorem bsoncore_ReadValue.mono : ∀ a0 a1 k, LeO (bsoncore_ReadValue.f k a0 a1) (bsoncore_ReadValue.f (k + 1) a0 a1) := by
  intro a0 a1 k
  unfold bsoncore_ReadValue.f
  have m0_ := @bsoncore_readValue.mono; exact HW.mo
theorem bsoncore_ReadValue.calls (k : Nat) (P0_ : Nat → Prop) (A0 : Option Addr) (c0 : Nat) (l0 : List Int) (a1 : Int) (r1 : Int) (r2 : List Int) (r3 : List Int) (r4 : Bool) (w : World) (hs0 : Kd.V (Kd.int .u8) 5 w w.heap.size (fun k_ => P0_ k_) (.slice A0 l0.length c0) l0) (h : bsoncore_ReadValue.f k l0 a1 = some (r1, r2, r3, r4)) :
    Calls Tryz.prog 89 #[.slice A0 l0.length c0, .int .u8 a1] w fun e w' => ∃ v1_ v2_ : Value, e = .returned (.tuple #[.agg #[.int .u8 r1, v1_], v2_, .bool r4]) ∧ Kd.V (Kd.int .u8) 5 w' w.heap.size (fun k_ => (P0_ k_ ∨ w.heap.size ≤ k_)) v1_ r2 ∧ Kd.V (Kd.int .u8) 5 w' w.heap.size (fun k_ => (P0_ k_ ∨ w.heap.size ≤ k_)) v2_ r3 ∧ Below w.heap.size w w' := by
  have hu101 := Tryz.underlying101; have HO0 := Aside0.mk (show Kd.V (Kd.int .u8) 5 w w.heap.size (fun k_ => (P0_ k_ ∨ w.heap.size ≤ k_)) (.slice A0 l0.length c0) l0 from Kd.V_mono hs0 (fun k_ hk => .inl hk)); have HB := Aside0.mk (Below.refl w.heap.size w); have H : ((bsoncore_readValue.f k l0 a1).bind fun bt355 => (if bt355.2.2 = true then (some (a1, bt355.1, bt355.2.1, true)) else (some (0, ([] : List Int), l0, false)))) = some (r1, r2, r3, r4) := h; clear h; replace H := Option.bind_eq_some_iff.mp H; obtain ⟨⟨t355, t358, t361⟩, A30, H⟩ := H; replace H : (if t361 = true then (some (a1, t355, t358, true)) else (some (0, ([] : List Int), l0, false))) = some (r1, r2, r3, r4) := H; have A3 := Aside0.mk A30; clear A30
  by_cases c4 : t361 = true
  · subst c4
    have H1 : (some (a1, t355, t358, true)) = some (r1, r2, r3, r4) := by rw [if_pos rfl] at H; exact H
    clear H; have H := H1; clear H1
    as_aux_lemma =>
      simp only [Option.some.injEq, Prod.mk.injEq] at H
      obtain ⟨rfl, rfl, rfl, rfl⟩ := H
      go_enter Tryz.func89, Tryz.ntmps89
      go_wp2_with (first | ((with_reducible refine gate_dst (N := 4) rfl ?_); refine box_event ?hg (N := 4) ?hd (cs := #[.int .u8 0, .slice none 0 0]) (t := 101) ?hr ?_; (case hd => rfl); (case hg => rfl); (case hr => first | (go_simp; done) | (go_simp; rfl)); intro gb354 hg w5 hbox hb; have n0_ := Aside0.mk (Kd.V_below (Kd.V_elderB (HW.zV HO0.out) gb354 (Nat.le_of_eq hg.symm)) hb); have n1_ := Aside0.mk (below_step HW.zb hb); have n2_ := Aside0.mk (hbox); have n4_ := Aside0.mk ((by rw [hg]; exact (below_size HW.zb) : w.heap.size ≤ gb354)); clear HO0; clear HB; have HO0 := n0_; have HB := n1_; have BK354 := n2_; have GE354 := n4_; clear n0_ n1_ n2_ n4_; clear hb hbox hg) | ((with_reducible refine gate_callee (f := 117) rfl ?_); refine HW.gz (some 13) rfl rfl Tryz.func117 (by kernel_rfl) rfl #[.slice A0 l0.length c0, .int .u8 a1] rfl ?_; (with_reducible refine (bsoncore_readValue.calls k (fun k_ => ((P0_ k_ ∨ w.heap.size ≤ k_) ∧ k_ ≠ gb354)) _ _ l0 a1 t355 t358 true _ ?side1 A3.out).mono ?_); (case side1 => exact HO0.out); rintro e w6 ⟨v356, v359, rfl, ho0, ho1, hb⟩; refine ⟨_, rfl, ?_⟩; replace HO0 := Aside0.mk (Kd.V_below (HW.zV HO0.out) hb); have HO357 := Aside0.mk (Kd.V_lower (Kd.V_mono (ok' := fun k_ => (P0_ k_ ∨ w.heap.size ≤ k_) ∧ k_ ≠ gb354) ho0 (fun k_ hk_ => ⟨Or.elim hk_ (fun hs_ => hs_.1) (fun hn_ => (.inr (Nat.le_trans (below_size HW.zb) hn_))), Or.elim hk_ (fun hs_ => hs_.2) (fun hn_ => (Kd.freshB (g := gb354) (o := .cells #[.int .u8 0, .slice none 0 0] 101 (0, 0)) (HW.zB BK354.out) k_ hn_))⟩)) (below_size HW.zb)); have HO360 := Aside0.mk (Kd.V_lower (Kd.V_mono (ok' := fun k_ => (P0_ k_ ∨ w.heap.size ≤ k_) ∧ k_ ≠ gb354) ho1 (fun k_ hk_ => ⟨Or.elim hk_ (fun hs_ => hs_.1) (fun hn_ => (.inr (Nat.le_trans (below_size HW.zb) hn_))), Or.elim hk_ (fun hs_ => hs_.2) (fun hn_ => (Kd.freshB (g := gb354) (o := .cells #[.int .u8 0, .slice none 0 0] 101 (0, 0)) (HW.zB BK354.out) k_ hn_))⟩)) (below_size HW.zb)); replace BK354 := Aside0.mk (blk_below (HW.zB BK354.out) hb); replace HB := Aside0.mk (below_step HW.zb hb); (try clear hb); (try clear ho0); (try clear ho1); obtain ⟨Ao7, co7, eo7⟩ := Kd.V_slice HO357.out; subst eo7; obtain ⟨hcz8_0, hcz8_1, hfz9_0, hfz9_1⟩ := HW.k2f BK354.out))
      refine bodyPost_ret (results_ctt rfl _ _ gb354 101 #[.int .u8 a1, .slice Ao7 t355.length co7] (0, 0) _ rfl (by (with_reducible repeat (first | refine blk_drewN ?_ _ | refine blk_drew ?_ | refine blk_alloc ?_ _)); refine blk_put (cs := #[.int .u8 a1, .slice none 0 0]) ?_ 1 _ rfl; (with_reducible repeat (first | refine blk_drewN ?_ _ | refine blk_drew ?_ | refine blk_alloc ?_ _)); refine blk_put (cs := #[.int .u8 0, .slice none 0 0]) ?_ 0 _ rfl; exact HW.zB BK354.out) Tryz.underlying101 rfl (by kernel_rfl)) rfl ?_
      exact ⟨_, _, rfl, by (with_reducible repeat (first | apply Kd.V_alloc | apply Kd.V_drewN | apply Kd.V_drew)); exact Kd.V_mono (Kd.V_far (p := ⟨gb354, 1, none⟩) (Kd.V_far (p := ⟨gb354, 0, none⟩) (Kd.V_mono HO357.out (fun k_ hk => (⟨hk, hk.2⟩ : _ ∧ k_ ≠ gb354))) (fun _ hk => hk.2) (.int .u8 a1)) (fun _ hk => hk.2) (.slice Ao7 t355.length co7)) (fun _ hk => hk.1.1), by (with_reducible repeat (first | apply Kd.V_alloc | apply Kd.V_drewN | apply Kd.V_drew)); exact Kd.V_mono (Kd.V_far (p := ⟨gb354, 1, none⟩) (Kd.V_far (p := ⟨gb354, 0, none⟩) (Kd.V_mono HO360.out (fun k_ hk => (⟨hk, hk.2⟩ : _ ∧ k_ ≠ gb354))) (fun _ hk => hk.2) (.int .u8 a1)) (fun _ hk => hk.2) (.slice Ao7 t355.length co7)) (fun _ hk => hk.1.1), HW.zb⟩
  replace c4 := Bool.eq_false_iff.mpr c4; subst c4
  have H1 : (some (0, ([] : List Int), l0, false)) = some (r1, r2, r3, r4) := by rw [if_neg (show ¬ (false = true) by decide)] at H; exact H
  clear H; have H := H1; clear H1
  as_aux_lemma =>
    simp only [Option.some.injEq, Prod.mk.injEq] at H
    obtain ⟨rfl, rfl, rfl, rfl⟩ := H
    go_enter Tryz.func89, Tryz.ntmps89
    go_wp2_with (first | ((with_reducible refine gate_dst (N := 4) rfl ?_); refine box_event ?hg (N := 4) ?hd (cs := #[.int .u8 0, .slice none 0 0]) (t := 101) ?hr ?_; (case hd => rfl); (case hg => rfl); (case hr => first | (go_simp; done) | (go_simp; rfl)); intro gb354 hg w10 hbox hb; have n0_ := Aside0.mk (Kd.V_below (Kd.V_elderB (HW.zV HO0.out) gb354 (Nat.le_of_eq hg.symm)) hb); have n1_ := Aside0.mk (below_step HW.zb hb); have n2_ := Aside0.mk (hbox); have n4_ := Aside0.mk ((by rw [hg]; exact (below_size HW.zb) : w.heap.size ≤ gb354)); clear HO0; clear HB; have HO0 := n0_; have HB := n1_; have BK354 := n2_; have GE354 := n4_; clear n0_ n1_ n2_ n4_; clear hb hbox hg) | ((with_reducible refine gate_callee (f := 117) rfl ?_); refine HW.gz (some 13) rfl rfl Tryz.func117 (by kernel_rfl) rfl #[.slice A0 l0.length c0, .int .u8 a1] rfl ?_; (with_reducible refine (bsoncore_readValue.calls k (fun k_ => ((P0_ k_ ∨ w.heap.size ≤ k_) ∧ k_ ≠ gb354)) _ _ l0 a1 t355 t358 false _ ?side1 A3.out).mono ?_); (case side1 => exact HO0.out); rintro e w11 ⟨v356, v359, rfl, ho0, ho1, hb⟩; refine ⟨_, rfl, ?_⟩; replace HO0 := Aside0.mk (Kd.V_below (HW.zV HO0.out) hb); replace BK354 := Aside0.mk (blk_below (HW.zB BK354.out) hb); replace HB := Aside0.mk (below_step HW.zb hb); (try clear hb); (try clear ho0); (try clear ho1); obtain ⟨hcz12_0, hcz12_1, hfz13_0, hfz13_1⟩ := HW.k2f BK354.out))
    refine bodyPost_ret (results_ctt rfl _ _ gb354 101 #[.int .u8 0, .slice none 0 0] (0, 0) _ rfl (by (with_reducible repeat (first | refine blk_drewN ?_ _ | refine blk_drew ?_ | refine blk_alloc ?_ _)); refine blk_put (cs := #[.int .u8 0, .slice none 0 0]) ?_ 1 _ rfl; (with_reducible repeat (first | refine blk_drewN ?_ _ | refine blk_drew ?_ | refine blk_alloc ?_ _)); refine blk_put (cs := #[.int .u8 0, .slice none 0 0]) ?_ 0 _ rfl; exact HW.zB BK354.out) Tryz.underlying101 rfl (by kernel_rfl)) rfl ?_
    exact ⟨_, _, rfl, Kd.V_nil _ _ _ _ _, by (with_reducible repeat (first | apply Kd.V_alloc | apply Kd.V_drewN | apply Kd.V_drew)); exact Kd.V_mono (Kd.V_far (p := ⟨gb354, 1, none⟩) (Kd.V_far (p := ⟨gb354, 0, none⟩) (Kd.V_mono HO0.out (fun k_ hk => (⟨hk, hk.2⟩ : _ ∧ k_ ≠ gb354))) (fun _ hk => hk.2) (.int .u8 0)) (fun _ hk => hk.2) (.slice none 0 0)) (fun _ hk => hk.1.1), HW.zb⟩
end Go.Proofs.YtanecebppagakaaGreatDoor.PRx
