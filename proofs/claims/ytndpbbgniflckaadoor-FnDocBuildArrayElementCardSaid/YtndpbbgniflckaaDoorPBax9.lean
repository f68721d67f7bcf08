/- Printed by a program of this session (a turned copy of the printer of the kit): contracts of functions of the translation, each with the Lean function that it computes. Conditions: as each theorem states them. -/
import Derived.Test.YtndpbbgniflckaaDoorPBax0
import Derived.Test.YtndpbbgniflckaaDoorPBax7
import Derived.Test.YtndpbbgniflckaaDoorPBax8
namespace Go.Proofs.YtndpbbgniflckaaDoor.PBa
open Go.RowKit Go.Proofs.YtndpbbgniflckaaDoorW.PrintWords Go.Proofs.YtndpbbgniflckaaDoorW.PrintLast Go.Proofs.YtndpbbgniflckaaDoorW.PrintMore
attribute [local go_sem] max2_int min2_int max_two min_two max_three min_three max_four min_four   -- for this text's walks alone
set_option linter.unusedVariables false
set_option linter.unusedSimpArgs false

theorem keptInner {w W : World} {S : Nat → Prop} {A : Option Addr} {n : Nat} {xs : List S64} (h : ∀ W_, Kept w W_ S → Kd.C k64 W_ A n xs) (hk : Kept w W S) (i : Int) (h0 : 0 ≤ i) (h1 : i < n) {ad : Addr} {A1 : Option Addr} {c1 : Nat} (he : A = some ad) (hc : W.cell? ⟨(ad.add (i.toNat * 2)).block, (ad.add (i.toNat * 2)).off + 1, none⟩ = some (.slice A1 (rd_T64 xs i).f1.length c1)) : ∀ W', Kept w W' S → Kd.C (Kd.int .u8) W' A1 (rd_T64 xs i).f1.length (rd_T64 xs i).f1 := by
  obtain ⟨ad', c, he', hcl, hcc0, hK⟩ := Ito.kept_get h hk z64 i h0 h1 (by decide)
  obtain rfl : ad = ad' := Option.some.inj (he.symm.trans he')
  have hcc : ∀ j u, c[j]? = some u → W.cell? (ad.add (i.toNat * 2 + j)) = some u := hcc0
  intro W' hW
  obtain ⟨A2, c2, rfl, _, hC⟩ := k64_open (hK W' hW)
  have h2 := hcc 1 _ rfl
  rw [add_field _ _ 1 (by omega), hc] at h2
  injection (Option.some.inj h2) with e1 _ _
  rw [e1]
  exact hC

/-! ### bsoncore_BuildArray: function 43 -/
def bsoncore_BuildArray.l0 : Nat → List Int → Int → List (S64) → Int → Int → Option (List Int)
  | 0, _, _, _, _, _ => none
  | k + 1, x0, x5, x13, x14, x15 => if x15 < x14 then (if 0 ≤ x15 then (if x15 < (x13.length : Int) then ((strconv_Itoa_54.f x15).bind fun t429 => ((bsoncore_AppendValueElement.f x0 t429 ((rd_T64 x13 x15).f0) ((rd_T64 x13 x15).f1)).bind fun t430 => (bsoncore_BuildArray.l0 k t430 x5 x13 x14 (wrap64 (x15 + 1))))) else (none)) else (none)) else (if x0.length < 140737488355328 then ((some (x0 ++ [0] : List Int)).bind fun y433 => (if 0 ≤ x5 then (if x5 ≤ (y433.length : Int) then ((bsoncore_UpdateLength.f y433 x5 (wrap32 (((y433.drop (x5 : Int).toNat).length : Int)))).bind fun t440 => (some t440)) else (none)) else (none))) else (none))
def bsoncore_BuildArray.f (k : Nat) (l0 : List Int) (l1 : List (S64)) : Option (List Int) := (bsoncore_ReserveLength.f l0).bind fun bt423 => (bsoncore_BuildArray.l0 k bt423.2 bt423.1 l1 (l1.length : Int) 0)
theorem bsoncore_BuildArray.mono_l : ∀ k, (∀ y0 y1 y2 y3 y4, LeO (bsoncore_BuildArray.l0 k y0 y1 y2 y3 y4) (bsoncore_BuildArray.l0 (k + 1) y0 y1 y2 y3 y4))
  | 0 => fun _ _ _ _ _ r h => by simp [bsoncore_BuildArray.l0] at h
  | k + 1 => by
    have ih0 := bsoncore_BuildArray.mono_l k
    · intro y0 y1 y2 y3 y4
      unfold bsoncore_BuildArray.l0
      repeat' first
      | (with_reducible exact ih0 _ _ _ _ _)
      | (with_reducible exact LeO.refl _)
      | (with_reducible exact LeO.none _)
      | (with_reducible refine LeO.ite ?_ ?_)
      | (with_reducible refine LeO.bind ?_ (fun _ => ?_))
      | exact ih0 _ _ _ _ _
      | exact LeO.none _
      | refine LeO.ite ?_ ?_
      | refine LeO.bind ?_ (fun _ => ?_)
theorem bsoncore_BuildArray.mono : ∀ a0 a1 k, LeO (bsoncore_BuildArray.f k a0 a1) (bsoncore_BuildArray.f (k + 1) a0 a1) := by
  intro a0 a1 k
  have ih0 := bsoncore_BuildArray.mono_l k
  unfold bsoncore_BuildArray.f
  repeat' first
      | (with_reducible exact ih0 _ _ _ _ _)
      | (with_reducible exact LeO.refl _)
      | (with_reducible exact LeO.none _)
      | (with_reducible refine LeO.ite ?_ ?_)
      | (with_reducible refine LeO.bind ?_ (fun _ => ?_))
      | exact ih0 _ _ _ _ _
      | exact LeO.none _
      | refine LeO.ite ?_ ?_
      | refine LeO.bind ?_ (fun _ => ?_)
set_option maxHeartbeats 8000000 in
set_option maxRecDepth 100000 in
theorem bsoncore_BuildArray.calls (k : Nat) (P0_ : Nat → Prop) (u9000_ : Value) (l0 : List Int) (A1 : Option Addr) (c1 : Nat) (l1 : List (S64)) (r : List Int) (w0 w : World) (hlaid : ∀ W_, Kept w W_ (fun k_ => P0_ k_) → Ito.LaidT W_) (hB : Below w0.heap.size w0 w) (ho0 : Kd.R (Kd.int .u8) 5 w w0.heap.size P0_ u9000_ l0) (hr1 : ∀ W_, Kept w W_ (fun k_ => P0_ k_) → Kd.C k64 W_ A1 l1.length l1) (hc1 : l1.length ≤ c1) (h : bsoncore_BuildArray.f k l0 l1 = some r) :
    Calls Tryd.prog 43 #[u9000_, .slice A1 l1.length c1] w fun e w' => ∃ v0_ : Value, e = .returned (v0_) ∧ Kd.R (Kd.int .u8) 5 w' w0.heap.size (fun k_ => (P0_ k_ ∨ w.heap.size ≤ k_)) v0_ r ∧ Below w0.heap.size w0 w' ∧ Kept w w' (fun k_ => P0_ k_) := by
  have hu64 := Tryd.underlying64
  have HO0 := Aside0.mk (show Kd.R (Kd.int .u8) 5 w w0.heap.size (fun k_ => (P0_ k_ ∨ w.heap.size ≤ k_)) u9000_ l0 from Kd.R_mono ho0 (fun k_ hk => (.inl hk)))
  have HLAID := Aside0.mk hlaid
  clear hlaid
  have HR1 := Aside0.mk hr1
  have HC1 := Aside0.mk hc1
  clear hr1 hc1
  have HK := Aside0.mk (Kept.refl w (fun k_ => P0_ k_))
  have HW0 := Aside0.mk hB.size
  have HB := Aside0.mk hB
  clear hB
  have H : ((bsoncore_ReserveLength.f l0).bind fun bt423 => (bsoncore_BuildArray.l0 k bt423.2 bt423.1 l1 (l1.length : Int) 0)) = some r := h
  clear h
  replace H := Option.bind_eq_some_iff.mp H
  obtain ⟨⟨t423, t424⟩, A30, H⟩ := H
  replace H : (bsoncore_BuildArray.l0 k t424 t423 l1 (l1.length : Int) 0) = some r := H
  have A3 := Aside0.mk A30
  clear A30
  have H' := Aside0.mk H
  clear H
  obtain ⟨Ao4, co4, eo4⟩ := Kd.R_slice HO0.out
  subst eo4
  go_enter Tryd.func43, Tryd.ntmps43
  go_wp2_with (first | ((with_reducible refine gate_callee (f := 52) rfl ?_); refine goesL_ (some 10) rfl rfl Tryd.func52 (by kernel_rfl) rfl #[.slice Ao4 l0.length co4] rfl (by (try simp only [List.map_toArray, List.map_cons, List.map_nil]); first | done | rfl | (simp only [List.length_drop, List.length_take]; rfl)) ?_; (with_reducible refine (bsoncore_ReserveLength.calls (fun k_ => some k_ = (.slice Ao4 l0.length co4 : Value).ownBlock) (.slice Ao4 l0.length co4) l0 t423 t424 w0 _ ?side1 ?side2 A3.out).mono ?_); (case side1 => repeat (first | (with_reducible first | exact HB.out | apply below_alloc | apply pw_below_drewN | apply below_drew1) | exact HB.out)); (case side2 => exact Kd.R_tight rfl HO0.out); rintro e w5 ⟨v425, rfl, ho0, hb, hkp⟩; refine ⟨_, rfl, ?_⟩; have n0_ := Aside0.mk (Kd.R_mono (ok' := fun k_ => (P0_ k_ ∨ w.heap.size ≤ k_)) ho0 (fun k_ hk_ => Or.elim hk_ (fun hs_ => (HO0.out.1 k_ (hs_).symm)) (fun hn_ => (.inr (Nat.le_trans (by first | exact HK.out.1 | exact (show Kept w _ (fun k_ => P0_ k_) from by repeat (first | (with_reducible first | exact HK.out | apply Kept.alloc | apply Kept.drewN | apply Kept.drew) | exact HK.out)).1) hn_))))); have n1_ := Aside0.mk (Kept.then_ (S := (fun k_ => P0_ k_)) (by repeat (first | (with_reducible first | exact HK.out | apply Kept.alloc | apply Kept.drewN | apply Kept.drew) | exact HK.out)) hkp (fun k_ hs_ => (fun e_ => (HO0.out.1 k_ e_.symm)) hs_)); have n2_ := Aside0.mk (hb); clear HK; clear HB; clear HO0; have HO426 := n0_; have HK := n1_; have HB := n2_; clear n0_ n1_ n2_; (try clear hb); (try clear hkp); (try clear ho0)))
  go_loopg [0, 15] k (fun kq v0 v15 w' => ∃ (x0_1 : List Int) (x15_1 : Int), v15 = .int .i64 x15_1 ∧ Aside0 (bsoncore_BuildArray.l0 kq x0_1 t423 l1 (l1.length : Int) x15_1 = some r) ∧ Aside0 (kq ≤ k) ∧ Aside0 (Kd.R (Kd.int .u8) 5 w' w0.heap.size (fun k_ => (P0_ k_ ∨ w.heap.size ≤ k_)) v0 x0_1) ∧ Aside0 (Kept w w' (fun k_ => P0_ k_)) ∧ Aside0 (Below w0.heap.size w0 w'))
  case atStart => exact ⟨(t424), (0), (by first | rfl | (simp; done) | (simp [*]; done)), H', ⟨Nat.le_refl _⟩, ⟨by (with_reducible repeat (first | apply Kd.R_alloc | apply Kd.R_drewN | apply Kd.R_drew)); exact HO426.out⟩, ⟨by repeat (first | (with_reducible first | exact HK.out | apply Kept.alloc | apply Kept.drewN | apply Kept.drew) | exact HK.out)⟩, ⟨by repeat (first | (with_reducible first | exact HB.out | apply below_alloc | apply pw_below_drewN | apply below_drew1) | exact HB.out)⟩⟩
  case round =>
    clear H'
    try clear c1
    try clear p2
    try clear c4
    try clear c5
    obtain ⟨x0_1, x15_1, rfl, HA, HK1, HO_0, HK, HB⟩ := hrel
    cases gk with
    | zero => exact absurd HA.out (by simp [bsoncore_BuildArray.l0])
    | succ k1 =>
      have H := HA.out
      clear HA
      simp only [bsoncore_BuildArray.l0] at H
      by_cases c6 : x15_1 < (l1.length : Int)
      · rw [if_pos c6] at H
        have c6b0 : decide (x15_1 < (l1.length : Int)) = true := decide_eq_true c6
        clear c6
        by_cases c7 : 0 ≤ x15_1
        · rw [if_pos c7] at H
          have c7b0 : decide (0 ≤ x15_1) = true := decide_eq_true c7
          clear c7
          by_cases c8 : x15_1 < (l1.length : Int)
          · rw [if_pos c8] at H
            have c8b0 : decide (x15_1 < (l1.length : Int)) = true := decide_eq_true c8
            clear c8
            replace H := Option.bind_eq_some_iff.mp H
            obtain ⟨t429, A90, H⟩ := H
            replace H : ((bsoncore_AppendValueElement.f x0_1 t429 ((rd_T64 l1 x15_1).f0) ((rd_T64 l1 x15_1).f1)).bind fun t430 => (bsoncore_BuildArray.l0 k1 t430 t423 l1 (l1.length : Int) (wrap64 (x15_1 + 1)))) = some r := H
            have A9 := Aside0.mk A90
            clear A90
            replace H := Option.bind_eq_some_iff.mp H
            obtain ⟨t430, A100, H⟩ := H
            replace H : (bsoncore_BuildArray.l0 k1 t430 t423 l1 (l1.length : Int) (wrap64 (x15_1 + 1))) = some r := H
            have A10 := Aside0.mk A100
            clear A100
            focus
              have H' := Aside0.mk H
              clear H
              have p427 : 0 ≤ (x15_1 : Int) := of_decide_eq_true (by first | (with_reducible assumption) | assumption)
              have q427 : x15_1 < (l1.length : Int) := of_decide_eq_true (by first | (with_reducible assumption) | assumption)
              obtain ⟨ad427, A427_1, c427_1, e427, hx427_0, hx427_1, hl427_1, hi427_1⟩ := at_T64 (Kd.C_kept_now HR1.out HK.out) x15_1 p427 q427
              have HKF := Aside0.mk (keptInner HR1.out HK.out x15_1 p427 q427 e427 hx427_1)
              cases e427
              have HR427_1 := Aside0.mk hi427_1
              have HC427_1 := Aside0.mk hl427_1
              clear hi427_1 hl427_1
              replace p427 := eq_true p427
              replace q427 := eq_true q427
              try go_wp2_with (first | ((with_reducible refine gate_dst (N := 7) rfl ?_); refine box_event ?hg (N := 7) ?hd (cs := #[.int .u8 0, .slice none 0 0]) (t := 64) ?hr ?_; (case hd => rfl); (case hg => rfl); (case hr => first | (go_simp; done) | (go_simp; rfl)); intro gb428 hg w11 hbox hb; have n0_ := Aside0.mk (Kd.R_below (by (with_reducible repeat (first | apply Kd.R_alloc | apply Kd.R_drewN | apply Kd.R_drew)); exact HO_0.out) hb); have n1_ := Aside0.mk (Kd.C_below (by repeat (first | (with_reducible exact HR427_1.out) | (with_reducible refine Kd.C_alloc ?_ _) | (with_reducible refine Kd.C_drewN ?_ _) | (with_reducible refine Kd.C_drew ?_) | exact HR427_1.out)) hb); have n2_ := Aside0.mk (Kept.below (S := (fun k_ => P0_ k_)) (by repeat (first | (with_reducible first | exact HK.out | apply Kept.alloc | apply Kept.drewN | apply Kept.drew) | exact HK.out)) hb); have n3_ := Aside0.mk (below_step (by repeat (first | (with_reducible first | exact HB.out | apply below_alloc | apply pw_below_drewN | apply below_drew1) | exact HB.out)) hb); have n4_ := Aside0.mk (hbox); have n5_ := Aside0.mk ((by rw [hg]; exact (by first | exact HK.out.1 | exact (show Kept w _ (fun k_ => P0_ k_) from by repeat (first | (with_reducible first | exact HK.out | apply Kept.alloc | apply Kept.drewN | apply Kept.drew) | exact HK.out)).1) : w.heap.size ≤ gb428)); have n6_ := Aside0.mk ((by rw [hg]; exact (below_size (by repeat (first | (with_reducible first | exact HB.out | apply below_alloc | apply pw_below_drewN | apply below_drew1) | exact HB.out))) : w0.heap.size ≤ gb428)); clear HO_0; clear HR427_1; clear HK; clear HB; have HO_0 := n0_; have HR427_1 := n1_; have HK := n2_; have HB := n3_; have BK428 := n4_; have GW428 := n5_; have GE428 := n6_; clear n0_ n1_ n2_ n3_ n4_ n5_ n6_; clear hb hbox hg; have hcz12_0 : w11.cell? ⟨gb428, 0, none⟩ = some (.int .u8 0) := (blk_cell BK428.out 0).trans rfl; have hcz12_1 : w11.cell? ⟨gb428, 1, none⟩ = some (.slice none 0 0) := (blk_cell BK428.out 1).trans rfl; have hfz12_0 := blk_frozen BK428.out 0; have hfz12_1 := blk_frozen BK428.out 1))
              have n0_ : Aside0 (Kd.R (Kd.int .u8) 5 ((w11.setCell ⟨gb428, 0, none⟩ (.int .u8 ((rd_T64 l1 x15_1).f0))).setCell ⟨gb428, 1, none⟩ (.slice A427_1 ((rd_T64 l1 x15_1).f1).length c427_1)) w0.heap.size (fun k_ => (P0_ k_ ∨ w.heap.size ≤ k_)) u0 x0_1) := ⟨by (with_reducible repeat (first | apply Kd.R_alloc | apply Kd.R_drewN | apply Kd.R_drew)); exact Kd.R_mono (Kd.R_far (p := ⟨gb428, 1, none⟩) (Kd.R_far (p := ⟨gb428, 0, none⟩) (Kd.R_types HO_0.out BK428.out (by decide)) (fun _ hk => hk.2) (.int .u8 ((rd_T64 l1 x15_1).f0))) (fun _ hk => hk.2) (.slice A427_1 ((rd_T64 l1 x15_1).f1).length c427_1)) (fun _ hk => hk.1)⟩
              have n1_ : Aside0 (((w11.setCell ⟨gb428, 0, none⟩ (.int .u8 ((rd_T64 l1 x15_1).f0))).setCell ⟨gb428, 1, none⟩ (.slice A427_1 ((rd_T64 l1 x15_1).f1).length c427_1)).heap[gb428]? = some (.cells #[.int .u8 ((rd_T64 l1 x15_1).f0), .slice A427_1 ((rd_T64 l1 x15_1).f1).length c427_1] 64 (0, 0))) := ⟨by (with_reducible repeat (first | refine blk_drewN ?_ _ | refine blk_drew ?_ | refine blk_alloc ?_ _)); refine blk_put (cs := #[.int .u8 ((rd_T64 l1 x15_1).f0), .slice none 0 0]) ?_ 1 _ rfl; (with_reducible repeat (first | refine blk_drewN ?_ _ | refine blk_drew ?_ | refine blk_alloc ?_ _)); refine blk_put (cs := #[.int .u8 0, .slice none 0 0]) ?_ 0 _ rfl; (with_reducible repeat (first | refine blk_drewN ?_ _ | refine blk_drew ?_ | refine blk_alloc ?_ _)); exact BK428.out⟩
              have n2_ : Aside0 (Kept w ((w11.setCell ⟨gb428, 0, none⟩ (.int .u8 ((rd_T64 l1 x15_1).f0))).setCell ⟨gb428, 1, none⟩ (.slice A427_1 ((rd_T64 l1 x15_1).f1).length c427_1)) (fun k_ => P0_ k_)) := ⟨by repeat (first | (with_reducible first | exact HK.out | apply Kept.alloc | apply Kept.drewN | apply Kept.drew | refine Kept.setCell ?_ (.inr GW428.out) _) | exact HK.out)⟩
              have n3_ : Aside0 (Below w0.heap.size w0 ((w11.setCell ⟨gb428, 0, none⟩ (.int .u8 ((rd_T64 l1 x15_1).f0))).setCell ⟨gb428, 1, none⟩ (.slice A427_1 ((rd_T64 l1 x15_1).f1).length c427_1))) := ⟨by repeat (first | (with_reducible first | exact HB.out | apply below_alloc | apply pw_below_drewN | apply below_drew1 | refine below_set ?_ GE428.out) | exact HB.out)⟩
              (try clear HO_0)
              (try clear BK428)
              (try clear HK)
              (try clear HB)
              generalize ((w11.setCell ⟨gb428, 0, none⟩ (.int .u8 ((rd_T64 l1 x15_1).f0))).setCell ⟨gb428, 1, none⟩ (.slice A427_1 ((rd_T64 l1 x15_1).f1).length c427_1)) = w13 at n0_ n1_ n2_ n3_ ⊢
              have HO_0 := n0_
              have BK428 := n1_
              have HK := n2_
              have HB := n3_
              clear n0_ n1_ n2_ n3_
              have n0_ := Aside0.mk (Kd.R_drew HO_0.out)
              have n1_ := Aside0.mk (blk_drew BK428.out)
              have n2_ := Aside0.mk (Kept.drew HK.out)
              have n3_ := Aside0.mk (below_drew1 HB.out)
              clear HO_0
              clear BK428
              clear HK
              clear HB
              have HO_0 := n0_
              have BK428 := n1_
              have HK := n2_
              have HB := n3_
              clear n0_ n1_ n2_ n3_
              refine start_ (n := 6) (S := fun w' => w'.cell? ⟨gb428, 0, none⟩ = some (.int .u8 ((rd_T64 l1 x15_1).f0)) ∧ w'.cell? ⟨gb428, 1, none⟩ = some (.slice A427_1 ((rd_T64 l1 x15_1).f1).length c427_1)) (ds := []) #[false, false, false, false, false, false] (by kernel_rfl) rfl rfl ⟨(blk_cell BK428.out 0).trans rfl, (blk_cell BK428.out 1).trans rfl⟩ (fun hHeld => ?_)
              generalize w13.drew = w14 at HO_0 BK428 HK HB hHeld ⊢
              refine pure_ (i := 0) (N := some 20) (v := ?_) (a' := ?_) #[true, false, false, false, false, false] rfl rfl (by kernel_rfl) (fun _ _ _ h => h) (Or.inl ⟨by rfl, ?_⟩) ?_ ?_
              rotate_left
              · intro w'
                go_simp
                with_reducible rfl
              rotate_left
              · simp only [Act.put, List.setIfInBounds_toArray, List.set_cons_zero, List.set_cons_succ, i64_w, i32_w]
                rfl
              refine pure_ (i := 1) (N := some 21) (v := ?_) (a' := ?_) #[true, true, false, false, false, false] rfl rfl (by kernel_rfl) (fun _ _ _ h => h) (Or.inl ⟨by rfl, ?_⟩) ?_ ?_
              rotate_left
              · intro w'
                go_simp
                with_reducible rfl
              rotate_left
              · simp only [Act.put, List.setIfInBounds_toArray, List.set_cons_zero, List.set_cons_succ, i64_w, i32_w]
                rfl
              refine take_ (i := 3) (N := some 23) (v := ?_) (a' := ?_) #[true, true, false, true, false, false] rfl rfl (by kernel_rfl) (fun _ _ _ h => h) (Or.inl ⟨by rfl, ?_⟩) hHeld ?_ ?_
              rotate_left
              · rintro w' ⟨s0, s1⟩
                go_simp
                with_reducible rfl
              rotate_left
              · simp only [Act.put, List.setIfInBounds_toArray, List.set_cons_zero, List.set_cons_succ, i64_w, i32_w]
                rfl
              refine one_ (i := 2) (N := some 22) #[true, true, true, true, false, false] rfl rfl (by kernel_rfl) (by decide) (fun K hK => ?_)
              refine goes_ Tryd.func54 (by kernel_rfl) rfl #[.int .i64 x15_1] (by rfl) rfl rfl (by (try simp only [List.map_toArray, List.map_cons, List.map_nil]); first | done | rfl | (simp only [List.length_drop, List.length_take]; rfl)) ?_
              with_reducible refine (strconv_Itoa_54.calls x15_1 t429 _ ?aLD A9.out).mono ?_
              (case aLD => exact HLAID.out _ (by repeat (first | (with_reducible first | exact HK.out | apply Kept.alloc | apply Kept.drewN | apply Kept.drew) | exact HK.out)))
              rintro e w15 ⟨rfl, hb⟩
              refine ⟨_, rfl, ?_⟩
              have n0_ := Aside0.mk (Kd.R_below (by (with_reducible repeat (first | apply Kd.R_alloc | apply Kd.R_drewN | apply Kd.R_drew)); exact HO_0.out) hb)
              have n1_ := Aside0.mk (blk_below (g := gb428) (o := .cells #[.int .u8 ((rd_T64 l1 x15_1).f0), .slice A427_1 ((rd_T64 l1 x15_1).f1).length c427_1] 64 (0, 0)) (by (with_reducible repeat (first | refine blk_drewN ?_ _ | refine blk_drew ?_ | refine blk_alloc ?_ _)); exact BK428.out) hb)
              have n2_ := Aside0.mk (Kept.below (S := (fun k_ => P0_ k_)) (by repeat (first | (with_reducible first | exact HK.out | apply Kept.alloc | apply Kept.drewN | apply Kept.drew | refine Kept.setCell ?_ (.inr GW428.out) _) | exact HK.out)) hb)
              have n3_ := Aside0.mk (below_step (by repeat (first | (with_reducible first | exact HB.out | apply below_alloc | apply pw_below_drewN | apply below_drew1 | refine below_set ?_ GE428.out) | exact HB.out)) hb)
              clear HO_0
              clear BK428
              clear HK
              clear HB
              have HO_0 := n0_
              have BK428 := n1_
              have HK := n2_
              have HB := n3_
              clear n0_ n1_ n2_ n3_
              (try clear hb)
              (try clear hb2)
              (try clear hk)
              (try clear hi)
              obtain ⟨Ao16, co16, eo16⟩ := Kd.R_slice HO_0.out
              (first | subst eo16 | (injection eo16 with f1_ f2_ f3_; have f4_ := f1_.symm; have f5_ := f3_.symm; clear f1_ f2_ f3_; subst f4_; subst f5_))
              refine hK.out _ _ ⟨(blk_cell BK428.out 0).trans rfl, (blk_cell BK428.out 1).trans rfl⟩ (fun hHeld => ?_)
              clear hK K
              refine norm_ (a' := ?_) ?_ ?_
              rotate_left
              · show Act.put _ (some 22) _ = _
                simp only [Act.put, List.setIfInBounds_toArray, List.set_cons_zero, List.set_cons_succ, i64_w, i32_w]
                rfl
              refine one_ (i := 4) (N := some 24) #[true, true, true, true, true, false] rfl rfl (by kernel_rfl) (by decide) (fun K hK => ?_)
              refine goes_ Tryd.func53 (by kernel_rfl) rfl #[.slice Ao16 x0_1.length co16, .string t429, .agg #[.int .u8 ((rd_T64 l1 x15_1).f0), .slice A427_1 ((rd_T64 l1 x15_1).f1).length c427_1]] (by rfl) rfl rfl (by (try simp only [List.map_toArray, List.map_cons, List.map_nil]); first | done | rfl | (simp only [List.length_drop, List.length_take]; rfl)) ?_
              with_reducible refine (bsoncore_AppendValueElement.calls (fun k_ => some k_ = (.slice Ao16 x0_1.length co16 : Value).ownBlock) (.slice Ao16 x0_1.length co16) x0_1 t429 ((rd_T64 l1 x15_1).f0) _ _ ((rd_T64 l1 x15_1).f1) t430 w0 _ ?side1 ?side2 ?side3 ?side4 A10.out).mono ?_
              (case side1 => repeat (first | (with_reducible first | exact HB.out | apply below_alloc | apply pw_below_drewN | apply below_drew1 | refine below_set ?_ GE428.out) | exact HB.out))
              (case side2 => exact Kd.R_tight rfl HO_0.out)
              (case side3 => exact fun W' hk_ => HKF.out W' (Kept.then_ (by repeat (first | (with_reducible first | exact HK.out | apply Kept.alloc | apply Kept.drewN | apply Kept.drew) | exact HK.out)) hk_ (fun k_ hs_ => (HO_0.out.1 k_ hs_.symm))))
              (case side4 => exact HC427_1.out)
              rintro e w17 ⟨v431, rfl, ho0, hb, hkp⟩
              refine ⟨_, rfl, ?_⟩
              have n0_ := Aside0.mk (blk_kept (by (with_reducible repeat (first | refine blk_drewN ?_ _ | refine blk_drew ?_ | refine blk_alloc ?_ _)); exact BK428.out) hkp (fun hs_ => (fun e_ => (Kd.R_ne HO_0.out BK428.out (by decide)) e_) hs_))
              have n1_ := Aside0.mk (Kd.R_mono (ok' := fun k_ => (P0_ k_ ∨ w.heap.size ≤ k_)) ho0 (fun k_ hk_ => Or.elim hk_ (fun hs_ => (HO_0.out.1 k_ (hs_).symm)) (fun hn_ => (.inr (Nat.le_trans (by first | exact HK.out.1 | exact (show Kept w _ (fun k_ => P0_ k_) from by repeat (first | (with_reducible first | exact HK.out | apply Kept.alloc | apply Kept.drewN | apply Kept.drew | refine Kept.setCell ?_ (.inr GW428.out) _) | exact HK.out)).1) hn_)))))
              have n2_ := Aside0.mk (Kept.then_ (S := (fun k_ => P0_ k_)) (by repeat (first | (with_reducible first | exact HK.out | apply Kept.alloc | apply Kept.drewN | apply Kept.drew | refine Kept.setCell ?_ (.inr GW428.out) _) | exact HK.out)) hkp (fun k_ hs_ => (fun e_ => (HO_0.out.1 k_ e_.symm)) hs_))
              have n3_ := Aside0.mk (hb)
              clear BK428
              clear HK
              clear HB
              clear HO_0
              have BK428 := n0_
              have HO432 := n1_
              have HK := n2_
              have HB := n3_
              clear n0_ n1_ n2_ n3_
              (try clear hb)
              (try clear hkp)
              (try clear ho0)
              refine hK.out _ _ ⟨(blk_cell BK428.out 0).trans rfl, (blk_cell BK428.out 1).trans rfl⟩ (fun hHeld => ?_)
              clear hK K
              refine norm_ (a' := ?_) ?_ ?_
              rotate_left
              · show Act.put _ (some 24) _ = _
                simp only [Act.put, List.setIfInBounds_toArray, List.set_cons_zero, List.set_cons_succ, i64_w, i32_w]
                rfl
              refine pure_ (i := 5) (N := some 0) (v := ?_) (a' := ?_) #[true, true, true, true, true, true] rfl rfl (by kernel_rfl) (fun _ _ _ h => h) (Or.inl ⟨by rfl, ?_⟩) ?_ ?_
              rotate_left
              · intro w'
                go_simp
                with_reducible rfl
              rotate_left
              · simp only [Act.put, List.setIfInBounds_toArray, List.set_cons_zero, List.set_cons_succ, i64_w, i32_w]
                rfl
              refine done_ (by kernel_rfl) ?_
              try go_wp2
              go_roundg k1
              case measure => have := HK1.out; omega
              case rel => exact ⟨(t430), (wrap64 (x15_1 + 1)), (by first | rfl | (simp; done) | (simp [*]; done)), H', ⟨by have := HK1.out; omega⟩, ⟨by (with_reducible repeat (first | apply Kd.R_alloc | apply Kd.R_drewN | apply Kd.R_drew)); exact HO432.out⟩, ⟨by repeat (first | (with_reducible first | exact HK.out | apply Kept.alloc | apply Kept.drewN | apply Kept.drew | refine Kept.setCell ?_ (.inr GW428.out) _) | exact HK.out)⟩, ⟨by repeat (first | (with_reducible first | exact HB.out | apply below_alloc | apply pw_below_drewN | apply below_drew1 | refine below_set ?_ GE428.out) | exact HB.out)⟩⟩
          · rw [if_neg c8] at H
            exact absurd H (by simp)
        · rw [if_neg c7] at H
          exact absurd H (by simp)
      · rw [if_neg c6] at H
        have c6b0 : decide (x15_1 < (l1.length : Int)) = false := decide_eq_false c6
        clear c6
        by_cases c18 : x0_1.length < 140737488355328
        · rw [if_pos c18] at H
          have LMc18 := Aside0.mk c18
          clear c18
          obtain ⟨y433, hy433⟩ : ∃ y_ : List Int, y_ = (x0_1 ++ [0]) := ⟨_, rfl⟩
          replace H : (if 0 ≤ t423 then (if t423 ≤ (y433.length : Int) then ((bsoncore_UpdateLength.f y433 t423 (wrap32 (((y433.drop (t423 : Int).toNat).length : Int)))).bind fun t440 => (some t440)) else (none)) else (none)) = some r := by first | (rw [hy433]; with_reducible exact H) | (have H2_ := (Option.bind_some _ _).symm.trans H; rw [hy433]; with_reducible exact H2_) | (have H2_ := (Option.bind_some _ _).symm.trans H; with_reducible exact H2_) | with_reducible exact H | (rw [hy433]; exact H) | exact H
          have Ny433 := Aside0.mk hy433
          clear hy433
          by_cases c19 : 0 ≤ t423
          · rw [if_pos c19] at H
            have c19b0 := eq_true c19
            have c19b1 : decide (0 ≤ t423) = true := decide_eq_true c19
            clear c19
            by_cases c20 : t423 ≤ (y433.length : Int)
            · rw [if_pos c20] at H
              have c20b0 := eq_true c20
              have c20b1 : decide (t423 ≤ (y433.length : Int)) = true := decide_eq_true c20
              clear c20
              obtain ⟨y436, hy436⟩ : ∃ y_ : List Int, y_ = (y433.drop (t423 : Int).toNat) := ⟨_, rfl⟩
              replace H : ((bsoncore_UpdateLength.f y433 t423 (wrap32 ((y436.length : Int)))).bind fun t440 => (some t440)) = some r := by first | (rw [hy436]; with_reducible exact H) | (have H2_ := (Option.bind_some _ _).symm.trans H; rw [hy436]; with_reducible exact H2_) | (have H2_ := (Option.bind_some _ _).symm.trans H; with_reducible exact H2_) | with_reducible exact H | (rw [hy436]; exact H) | exact H
              have Ny436 := Aside0.mk hy436
              clear hy436
              replace H := Option.bind_eq_some_iff.mp H
              obtain ⟨t440, A210, H⟩ := H
              replace H : (some t440) = some r := H
              have A21 := Aside0.mk A210
              clear A210
              focus
                obtain rfl := Option.some.inj H
                go_wp2_with (first | ((with_reducible refine gate_builtin (b := .append) (xs := #[.tmp 26, .tmp 27]) rfl ?_); at_builtin; refine Kd.R_append (Kd.int .u8) (w0 := w0) w0.heap.size rfl (.tmp 26) (.tmp 27) 23 5 (.int .u8 0) 1 rfl Tryd.underlying23 info5 rfl (by decide) (by omega) u0 x0_1 0 [.int .u8 0] (fun k_ => (P0_ k_ ∨ w.heap.size ≤ k_)) (fun _ => False) rfl rfl ?aP (fun _ hk => hk.elim) ?aF ?aO ?aB ?aS ?aL ?_; (case aP => exact rfl); (case aB => exact (by repeat (first | (with_reducible first | exact HB.out | apply below_alloc | apply pw_below_drewN | apply below_drew1) | exact HB.out))); (case aF => exact (fun k_ hk => (.inr (Nat.le_trans (by first | exact HK.out.1 | exact (show Kept w _ (fun k_ => P0_ k_) from by repeat (first | (with_reducible first | exact HK.out | apply Kept.alloc | apply Kept.drewN | apply Kept.drew) | exact HK.out)).1) hk)))); (case aO => exact (by (with_reducible repeat (first | apply Kd.R_alloc | apply Kd.R_drewN | apply Kd.R_drew)); exact HO_0.out)); (case aS => exact (below_size (by repeat (first | (with_reducible first | exact HB.out | apply below_alloc | apply pw_below_drewN | apply below_drew1) | exact HB.out)))); (case aL => have := LMc18.out; omega); intro v434 w22 ho hb hg hat; rw [← Ny433.out] at ho; have n0_ := Aside0.mk (hb); have n1_ := Aside0.mk (Kept.of_grown (S := (fun k_ => P0_ k_)) hg (by repeat (first | (with_reducible first | exact HK.out | apply Kept.alloc | apply Kept.drewN | apply Kept.drew) | exact HK.out)) (fun k_ e_ => (HO_0.out.1 k_ e_))); have n2_ := Aside0.mk (ho); clear HB; clear HK; clear HO_0; have HB := n0_; have HK := n1_; have HO435 := n2_; clear n0_ n1_ n2_; clear ho hb hg hat; obtain ⟨Ao24, co24, eo24⟩ := Kd.R_slice HO435.out; subst eo24; have q23 : (t423 : Int) ≤ ((y433.length : Int) : Int) := of_decide_eq_true (by first | (with_reducible assumption) | assumption); obtain ⟨i023, hi023, _, hsz23, _⟩ := info_parts info5; have hroom23 : y433.length ≤ co24 := (Kd.R_reads' HO435.out).2.1; have hC23 : Kd.C (Kd.int .u8) _ Ao24 y433.length y433 := (Kd.R_reads' HO435.out).2.2; have q023 : (0 : Int) ≤ (t423 : Int) := of_decide_eq_true (by first | (with_reducible assumption) | assumption); have hcut23 := cut_from (P := Tryd.prog) 23 5 .i32 Tryd.underlying23 hi023 1 hsz23 Ao24 y433.length co24 t423 q023 q23; have hr23 := Kd.C_drop (m := (t423 : Int).toNat) (c := co24) hC23 (by omega) hroom23; obtain ⟨A23, hA23⟩ : ∃ A1, A1 = (if co24 = (t423 : Int).toNat then Ao24 else (Ao24 : Option Addr).map (·.add ((t423 : Int).toNat * 1))) := ⟨_, rfl⟩; obtain ⟨c23, hc23⟩ : ∃ c1, c1 = co24 - (t423 : Int).toNat := ⟨_, rfl⟩; have hy23 : y436.length = y433.length - (t423 : Int).toNat := (by rw [Ny436.out, List.length_drop] <;> omega); rw [show (y433).drop (t423 : Int).toNat = y436 from Ny436.out.symm] at hr23; replace hr23 : Kd.C (Kd.int .u8) _ A23 y436.length y436 := (by rw [hA23]; exact hr23); rw [← hy23, ← hA23, ← hc23] at hcut23; have HR439 := Aside0.mk hr23; have HC439 := Aside0.mk (show y436.length ≤ c23 from by rw [hy23, hc23]; exact Nat.sub_le_sub_right hroom23 _); clear hr23 hC23 hroom23 hi023 hsz23 hc23; have KY23 := Aside0.mk hy23; have KA23 := Aside0.mk hA23; clear hy23 hA23; have KL23 := Aside0.mk (show (t423 : Int).toNat ≤ y433.length from by omega); replace q23 := eq_true q23) | ((with_reducible refine gate_callee (f := 55) rfl ?_); refine goesL_ (some 36) rfl rfl Tryd.func55 (by kernel_rfl) rfl #[.slice Ao24 y433.length co24, .int .i32 t423, .int .i32 (wrap32 ((y436.length : Int)))] rfl (by (try simp only [List.map_toArray, List.map_cons, List.map_nil]); first | done | rfl | (simp only [List.length_drop, List.length_take]; rfl)) ?_; (with_reducible refine (bsoncore_UpdateLength.calls (fun k_ => some k_ = (.slice Ao24 y433.length co24 : Value).ownBlock) (.slice Ao24 y433.length co24) y433 t423 (wrap32 ((y436.length : Int))) t440 w0 _ ?side1 ?side2 A21.out).mono ?_); (case side1 => repeat (first | (with_reducible first | exact HB.out | apply below_alloc | apply pw_below_drewN | apply below_drew1) | exact HB.out)); (case side2 => exact Kd.R_tight rfl HO435.out); rintro e w25 ⟨v441, rfl, ho0, hb, hkp⟩; refine ⟨_, rfl, ?_⟩; have n0_ := Aside0.mk (Kd.R_mono (ok' := fun k_ => (P0_ k_ ∨ w.heap.size ≤ k_)) ho0 (fun k_ hk_ => Or.elim hk_ (fun hs_ => (HO435.out.1 k_ (hs_).symm)) (fun hn_ => (.inr (Nat.le_trans (by first | exact HK.out.1 | exact (show Kept w _ (fun k_ => P0_ k_) from by repeat (first | (with_reducible first | exact HK.out | apply Kept.alloc | apply Kept.drewN | apply Kept.drew) | exact HK.out)).1) hn_))))); have n1_ := Aside0.mk (Kept.then_ (S := (fun k_ => P0_ k_)) (by repeat (first | (with_reducible first | exact HK.out | apply Kept.alloc | apply Kept.drewN | apply Kept.drew) | exact HK.out)) hkp (fun k_ hs_ => (fun e_ => (HO435.out.1 k_ e_.symm)) hs_)); have n2_ := Aside0.mk (hb); clear HK; clear HB; clear HO435; have HO442 := n0_; have HK := n1_; have HB := n2_; clear n0_ n1_ n2_; (try clear hb); (try clear hkp); (try clear ho0)))
                go_ret
                exact ⟨_, by first | rfl | (simp [errW_none, errW_some] <;> rfl) | (simp [*, errW_none, errW_some] <;> rfl), by (with_reducible repeat (first | apply Kd.R_alloc | apply Kd.R_drewN | apply Kd.R_drew)); exact HO442.out, by repeat (first | (with_reducible first | exact HB.out | apply below_alloc | apply pw_below_drewN | apply below_drew1) | exact HB.out), by repeat (first | (with_reducible first | exact HK.out | apply Kept.alloc | apply Kept.drewN | apply Kept.drew) | exact HK.out)⟩
            · rw [if_neg c20] at H
              exact absurd H (by simp)
          · rw [if_neg c19] at H
            exact absurd H (by simp)
        · rw [if_neg c18] at H
          exact absurd H (by simp)

/-! ### bsoncore_BuildArrayElement: function 35 -/
def bsoncore_BuildArrayElement.f (k : Nat) (l0 : List Int) (a1 : ByteArray) (l2 : List (S64)) : Option (List Int) := (bsoncore_AppendHeader.f l0 4 a1).bind fun t443 => ((bsoncore_BuildArray.f k t443 l2).bind fun t446 => (some t446))
theorem bsoncore_BuildArrayElement.mono : ∀ a0 a1 a2 k, LeO (bsoncore_BuildArrayElement.f k a0 a1 a2) (bsoncore_BuildArrayElement.f (k + 1) a0 a1 a2) := by
  intro a0 a1 a2 k
  unfold bsoncore_BuildArrayElement.f
  repeat' first
      | (with_reducible exact bsoncore_BuildArray.mono _ _ _)
      | (with_reducible exact LeO.refl _)
      | (with_reducible exact LeO.none _)
      | (with_reducible refine LeO.ite ?_ ?_)
      | (with_reducible refine LeO.bind ?_ (fun _ => ?_))
      | exact bsoncore_BuildArray.mono _ _ _
      | exact LeO.none _
      | refine LeO.ite ?_ ?_
      | refine LeO.bind ?_ (fun _ => ?_)
set_option maxHeartbeats 8000000 in
set_option maxRecDepth 100000 in
theorem bsoncore_BuildArrayElement.calls (k : Nat) (P0_ : Nat → Prop) (u9000_ : Value) (l0 : List Int) (a1 : ByteArray) (A2 : Option Addr) (c2 : Nat) (l2 : List (S64)) (r : List Int) (w0 w : World) (hlaid : ∀ W_, Kept w W_ (fun k_ => P0_ k_) → Ito.LaidT W_) (hB : Below w0.heap.size w0 w) (ho0 : Kd.R (Kd.int .u8) 5 w w0.heap.size P0_ u9000_ l0) (hr2 : ∀ W_, Kept w W_ (fun k_ => P0_ k_) → Kd.C k64 W_ A2 l2.length l2) (hc2 : l2.length ≤ c2) (h : bsoncore_BuildArrayElement.f k l0 a1 l2 = some r) :
    Calls Tryd.prog 35 #[u9000_, .string a1, .slice A2 l2.length c2] w fun e w' => ∃ v0_ : Value, e = .returned (v0_) ∧ Kd.R (Kd.int .u8) 5 w' w0.heap.size (fun k_ => (P0_ k_ ∨ w.heap.size ≤ k_)) v0_ r ∧ Below w0.heap.size w0 w' ∧ Kept w w' (fun k_ => P0_ k_) := by
  have HO0 := Aside0.mk (show Kd.R (Kd.int .u8) 5 w w0.heap.size (fun k_ => (P0_ k_ ∨ w.heap.size ≤ k_)) u9000_ l0 from Kd.R_mono ho0 (fun k_ hk => (.inl hk)))
  have HLAID := Aside0.mk hlaid
  clear hlaid
  have HR2 := Aside0.mk hr2
  have HC2 := Aside0.mk hc2
  clear hr2 hc2
  have HK := Aside0.mk (Kept.refl w (fun k_ => P0_ k_))
  have HW0 := Aside0.mk hB.size
  have HB := Aside0.mk hB
  clear hB
  have H : ((bsoncore_AppendHeader.f l0 4 a1).bind fun t443 => ((bsoncore_BuildArray.f k t443 l2).bind fun t446 => (some t446))) = some r := h
  clear h
  replace H := Option.bind_eq_some_iff.mp H
  obtain ⟨t443, A40, H⟩ := H
  replace H : ((bsoncore_BuildArray.f k t443 l2).bind fun t446 => (some t446)) = some r := H
  have A4 := Aside0.mk A40
  clear A40
  replace H := Option.bind_eq_some_iff.mp H
  obtain ⟨t446, A50, H⟩ := H
  replace H : (some t446) = some r := H
  have A5 := Aside0.mk A50
  clear A50
  focus
    obtain rfl := Option.some.inj H
    obtain ⟨Ao6, co6, eo6⟩ := Kd.R_slice HO0.out
    subst eo6
    go_enter Tryd.func35, Tryd.ntmps35
    go_wp2_with (first | ((with_reducible refine gate_callee (f := 44) rfl ?_); refine goesL_ (some 9) rfl rfl Tryd.func44 (by kernel_rfl) rfl #[.slice Ao6 l0.length co6, .int .u8 4, .string a1] rfl (by (try simp only [List.map_toArray, List.map_cons, List.map_nil]); first | done | rfl | (simp only [List.length_drop, List.length_take]; rfl)) ?_; (with_reducible refine (bsoncore_AppendHeader.calls (fun k_ => some k_ = (.slice Ao6 l0.length co6 : Value).ownBlock) (.slice Ao6 l0.length co6) l0 4 a1 t443 w0 _ ?side1 ?side2 A4.out).mono ?_); (case side1 => repeat (first | (with_reducible first | exact HB.out | apply below_alloc | apply pw_below_drewN | apply below_drew1) | exact HB.out)); (case side2 => exact Kd.R_tight rfl HO0.out); rintro e w7 ⟨v444, rfl, ho0, hb, hkp⟩; refine ⟨_, rfl, ?_⟩; have n0_ := Aside0.mk (Kd.R_mono (ok' := fun k_ => (P0_ k_ ∨ w.heap.size ≤ k_)) ho0 (fun k_ hk_ => Or.elim hk_ (fun hs_ => (HO0.out.1 k_ (hs_).symm)) (fun hn_ => (.inr (Nat.le_trans (by first | exact HK.out.1 | exact (show Kept w _ (fun k_ => P0_ k_) from by repeat (first | (with_reducible first | exact HK.out | apply Kept.alloc | apply Kept.drewN | apply Kept.drew) | exact HK.out)).1) hn_))))); have n1_ := Aside0.mk (Kept.then_ (S := (fun k_ => P0_ k_)) (by repeat (first | (with_reducible first | exact HK.out | apply Kept.alloc | apply Kept.drewN | apply Kept.drew) | exact HK.out)) hkp (fun k_ hs_ => (fun e_ => (HO0.out.1 k_ e_.symm)) hs_)); have n2_ := Aside0.mk (hb); clear HK; clear HB; clear HO0; have HO445 := n0_; have HK := n1_; have HB := n2_; clear n0_ n1_ n2_; (try clear hb); (try clear hkp); (try clear ho0); obtain ⟨Ao8, co8, eo8⟩ := Kd.R_slice HO445.out; subst eo8) | ((with_reducible refine gate_callee (f := 43) rfl ?_); refine goesL_ (some 11) rfl rfl Tryd.func43 (by kernel_rfl) rfl #[.slice Ao8 t443.length co8, .slice A2 l2.length c2] rfl (by (try simp only [List.map_toArray, List.map_cons, List.map_nil]); first | done | rfl | (simp only [List.length_drop, List.length_take]; rfl)) ?_; (with_reducible refine (bsoncore_BuildArray.calls k (fun k_ => some k_ = (.slice Ao8 t443.length co8 : Value).ownBlock) (.slice Ao8 t443.length co8) t443 _ _ l2 t446 w0 _ ?aLD ?side1 ?side2 ?side3 ?side4 A5.out).mono ?_); (case aLD => exact Ito.laid_kept_call HLAID.out (by repeat (first | (with_reducible first | exact HK.out | apply Kept.alloc | apply Kept.drewN | apply Kept.drew) | exact HK.out)) (fun k_ hs_ => (fun e_ => (HO445.out.1 k_ e_.symm)) hs_)); (case side1 => repeat (first | (with_reducible first | exact HB.out | apply below_alloc | apply pw_below_drewN | apply below_drew1) | exact HB.out)); (case side2 => exact Kd.R_tight rfl HO445.out); (case side3 => exact Kd.C_kept_call HR2.out (by repeat (first | (with_reducible first | exact HK.out | apply Kept.alloc | apply Kept.drewN | apply Kept.drew) | exact HK.out)) (fun k_ hs_ => (fun e_ => (HO445.out.1 k_ e_.symm)) hs_)); (case side4 => exact HC2.out); rintro e w9 ⟨v447, rfl, ho0, hb, hkp⟩; refine ⟨_, rfl, ?_⟩; have n0_ := Aside0.mk (Kd.R_mono (ok' := fun k_ => (P0_ k_ ∨ w.heap.size ≤ k_)) ho0 (fun k_ hk_ => Or.elim hk_ (fun hs_ => (HO445.out.1 k_ (hs_).symm)) (fun hn_ => (.inr (Nat.le_trans (by first | exact HK.out.1 | exact (show Kept w _ (fun k_ => P0_ k_) from by repeat (first | (with_reducible first | exact HK.out | apply Kept.alloc | apply Kept.drewN | apply Kept.drew) | exact HK.out)).1) hn_))))); have n1_ := Aside0.mk (Kept.then_ (S := (fun k_ => P0_ k_)) (by repeat (first | (with_reducible first | exact HK.out | apply Kept.alloc | apply Kept.drewN | apply Kept.drew) | exact HK.out)) hkp (fun k_ hs_ => (fun e_ => (HO445.out.1 k_ e_.symm)) hs_)); have n2_ := Aside0.mk (hb); clear HK; clear HB; clear HO445; have HO448 := n0_; have HK := n1_; have HB := n2_; clear n0_ n1_ n2_; (try clear hb); (try clear hkp); (try clear ho0)))
    go_ret
    exact ⟨_, by first | rfl | (simp [errW_none, errW_some] <;> rfl) | (simp [*, errW_none, errW_some] <;> rfl), by (with_reducible repeat (first | apply Kd.R_alloc | apply Kd.R_drewN | apply Kd.R_drew)); exact HO448.out, by repeat (first | (with_reducible first | exact HB.out | apply below_alloc | apply pw_below_drewN | apply below_drew1) | exact HB.out), by repeat (first | (with_reducible first | exact HK.out | apply Kept.alloc | apply Kept.drewN | apply Kept.drew) | exact HK.out)⟩

/-! ### impl_core: function 45 -/
def impl_core.f (a0_0 : Int) (l0_1 : List Int) : Option (Int × List Int) := some ((a0_0) % 256, l0_1)
set_option maxHeartbeats 8000000 in
set_option maxRecDepth 100000 in
theorem impl_core.calls (a0_0 : Int) (P0_1_ : Nat → Prop) (A0_1 : Option Addr) (c0_1 : Nat) (l0_1 : List Int) (r1 : Int) (r2 : List Int) (w : World) (hs0_1 : Kd.V (Kd.int .u8) 5 w w.heap.size (fun k_ => P0_1_ k_) (.slice A0_1 l0_1.length c0_1) l0_1) (h : impl_core.f a0_0 l0_1 = some (r1, r2)) :
    Calls Tryd.prog 45 #[.agg #[.int .i64 a0_0, .slice A0_1 l0_1.length c0_1]] w fun e w' => ∃ v1_ : Value, e = .returned (.agg #[.int .u8 r1, v1_]) ∧ Kd.V (Kd.int .u8) 5 w' w.heap.size (fun k_ => (P0_1_ k_ ∨ w.heap.size ≤ k_)) v1_ r2 ∧ Below w.heap.size w w' := by
  have hu37 := Tryd.underlying37
  have hu64 := Tryd.underlying64
  have HO0_1 := Aside0.mk (show Kd.V (Kd.int .u8) 5 w w.heap.size (fun k_ => (P0_1_ k_ ∨ w.heap.size ≤ k_)) (.slice A0_1 l0_1.length c0_1) l0_1 from Kd.V_mono hs0_1 (fun k_ hk => .inl hk))
  have HB := Aside0.mk (Below.refl w.heap.size w)
  have H : (some ((a0_0) % 256, l0_1)) = some (r1, r2) := h
  clear h
  focus
    simp only [Option.some.injEq, Prod.mk.injEq] at H
    obtain ⟨rfl, rfl⟩ := H
    go_enter Tryd.func45, Tryd.ntmps45
    go_wp2_with (first | ((with_reducible refine gate_dst (N := 1) rfl ?_); refine box_event ?hg (N := 1) ?hd (cs := #[.int .i64 a0_0, .slice A0_1 l0_1.length c0_1]) (t := 37) ?hr ?_; (case hd => rfl); (case hg => rfl); (case hr => first | (go_simp; done) | (go_simp; rfl)); intro gb449 hg w2 hbox hb; have n0_ := Aside0.mk (Kd.V_below (Kd.V_elderB (by (with_reducible repeat (first | apply Kd.V_alloc | apply Kd.V_drewN | apply Kd.V_drew)); exact HO0_1.out) gb449 (Nat.le_of_eq hg.symm)) hb); have n1_ := Aside0.mk (below_step (by repeat (first | (with_reducible first | exact HB.out | apply below_alloc | apply pw_below_drewN | apply below_drew1) | exact HB.out)) hb); have n2_ := Aside0.mk (hbox); have n3_ := Aside0.mk ((by rw [hg]; exact (below_size (by repeat (first | (with_reducible first | exact HB.out | apply below_alloc | apply pw_below_drewN | apply below_drew1) | exact HB.out))) : w.heap.size ≤ gb449)); have n4_ := Aside0.mk ((by rw [hg]; exact (below_size (by repeat (first | (with_reducible first | exact HB.out | apply below_alloc | apply pw_below_drewN | apply below_drew1) | exact HB.out))) : w.heap.size ≤ gb449)); clear HO0_1; clear HB; have HO0_1 := n0_; have HB := n1_; have BK449 := n2_; have GW449 := n3_; have GE449 := n4_; clear n0_ n1_ n2_ n3_ n4_; clear hb hbox hg) | ((with_reducible refine gate_dst (N := 2) rfl ?_); refine box_event ?hg (N := 2) ?hd (cs := #[.int .u8 0, .slice none 0 0]) (t := 64) ?hr ?_; (case hd => rfl); (case hg => rfl); (case hr => first | (go_simp; done) | (go_simp; rfl)); intro gb450 hg w3 hbox hb; have n0_ := Aside0.mk (Kd.V_below (Kd.V_elderB (by (with_reducible repeat (first | apply Kd.V_alloc | apply Kd.V_drewN | apply Kd.V_drew)); exact HO0_1.out) gb450 (Nat.le_of_eq hg.symm)) hb); have n1_ := Aside0.mk (blk_below (g := gb449) (o := .cells #[.int .i64 a0_0, .slice A0_1 l0_1.length c0_1] 37 (0, 0)) (by (with_reducible repeat (first | refine blk_drewN ?_ _ | refine blk_drew ?_ | refine blk_alloc ?_ _)); exact BK449.out) hb); have n2_ := Aside0.mk (below_step (by repeat (first | (with_reducible first | exact HB.out | apply below_alloc | apply pw_below_drewN | apply below_drew1 | refine below_set ?_ GE449.out) | exact HB.out)) hb); have n3_ := Aside0.mk (hbox); have n4_ := Aside0.mk ((by rw [hg]; exact (below_size (by repeat (first | (with_reducible first | exact HB.out | apply below_alloc | apply pw_below_drewN | apply below_drew1 | refine below_set ?_ GE449.out) | exact HB.out))) : w.heap.size ≤ gb450)); have n5_ := Aside0.mk ((by rw [hg]; exact (below_size (by repeat (first | (with_reducible first | exact HB.out | apply below_alloc | apply pw_below_drewN | apply below_drew1 | refine below_set ?_ GE449.out) | exact HB.out))) : w.heap.size ≤ gb450)); have n6_ := Aside0.mk ((by rw [hg]; exact Nat.ne_of_lt (blk_lt (g := gb449) (o := .cells #[.int .i64 a0_0, .slice A0_1 l0_1.length c0_1] 37 (0, 0)) (by (with_reducible repeat (first | refine blk_drewN ?_ _ | refine blk_drew ?_ | refine blk_alloc ?_ _)); exact BK449.out)) : gb449 ≠ gb450)); have n7_ := Aside0.mk ((by rw [hg]; exact Nat.ne_of_gt (blk_lt (g := gb449) (o := .cells #[.int .i64 a0_0, .slice A0_1 l0_1.length c0_1] 37 (0, 0)) (by (with_reducible repeat (first | refine blk_drewN ?_ _ | refine blk_drew ?_ | refine blk_alloc ?_ _)); exact BK449.out)) : gb450 ≠ gb449)); clear HO0_1; clear BK449; clear HB; have HO0_1 := n0_; have BK449 := n1_; have HB := n2_; have BK450 := n3_; have GW450 := n4_; have GE450 := n5_; have NB449_450 := n6_; have NB450_449 := n7_; clear n0_ n1_ n2_ n3_ n4_ n5_ n6_ n7_; clear hb hbox hg; have hnb4 := NB449_450.out; have hnc4 := NB450_449.out; have hcz5_0 : w3.cell? ⟨gb449, 0, none⟩ = some (.int .i64 a0_0) := (blk_cell BK449.out 0).trans rfl; have hcz5_1 : w3.cell? ⟨gb449, 1, none⟩ = some (.slice A0_1 l0_1.length c0_1) := (blk_cell BK449.out 1).trans rfl; have hfz5_0 := blk_frozen BK449.out 0; have hfz5_1 := blk_frozen BK449.out 1; have hcz6_0 : w3.cell? ⟨gb450, 0, none⟩ = some (.int .u8 0) := (blk_cell BK450.out 0).trans rfl; have hcz6_1 : w3.cell? ⟨gb450, 1, none⟩ = some (.slice none 0 0) := (blk_cell BK450.out 1).trans rfl; have hfz6_0 := blk_frozen BK450.out 0; have hfz6_1 := blk_frozen BK450.out 1))
    refine bodyPost_ret (results_cell_row rfl _ _ gb450 64 #[.int .u8 ((a0_0) % 256), .slice A0_1 l0_1.length c0_1] (0, 0) _ rfl (by (with_reducible repeat (first | refine blk_drewN ?_ _ | refine blk_drew ?_ | refine blk_alloc ?_ _)); refine blk_put (cs := #[.int .u8 ((a0_0) % 256), .slice none 0 0]) ?_ 1 _ rfl; (with_reducible repeat (first | refine blk_drewN ?_ _ | refine blk_drew ?_ | refine blk_alloc ?_ _)); refine blk_put (cs := #[.int .u8 0, .slice none 0 0]) ?_ 0 _ rfl; (with_reducible repeat (first | refine blk_drewN ?_ _ | refine blk_drew ?_ | refine blk_alloc ?_ _)); exact BK450.out) Tryd.underlying64 rfl (by kernel_rfl)) rfl ?_
    exact ⟨_, by first | rfl | (simp [errW_none, errW_some] <;> rfl) | (simp [*, errW_none, errW_some] <;> rfl), by (with_reducible repeat (first | apply Kd.V_alloc | apply Kd.V_drewN | apply Kd.V_drew)); exact Kd.V_mono (Kd.V_far (p := ⟨gb450, 1, none⟩) (Kd.V_far (p := ⟨gb450, 0, none⟩) (Kd.V_mono HO0_1.out (fun k_ hk => (⟨hk, hk.2⟩ : _ ∧ k_ ≠ gb450))) (fun _ hk => hk.2) (.int .u8 ((a0_0) % 256))) (fun _ hk => hk.2) (.slice A0_1 l0_1.length c0_1)) (fun _ hk => hk.1.1.1), by repeat (first | (with_reducible first | exact HB.out | apply below_alloc | apply pw_below_drewN | apply below_drew1 | refine below_set ?_ GE449.out | refine below_set ?_ GE450.out) | exact HB.out)⟩

/-! ### impl_cores: function 36 -/
def impl_cores.l0 : Nat → List (S64) → List (S37) → Int → Int → Option ((List (S64)))
  | 0, _, _, _, _ => none
  | k + 1, x3, x6, x7, x8 => if x8 < x7 then (if 0 ≤ x8 then (if x8 < (x6.length : Int) then ((impl_core.f ((rd_T37 x6 x8).f0) ((rd_T37 x6 x8).f1)).bind fun bt453 => (if x3.length < 4398046511104 then (impl_cores.l0 k (x3 ++ [(⟨bt453.1, bt453.2⟩ : S64)]) x6 x7 (wrap64 (x8 + 1))) else (none))) else (none)) else (none)) else (some x3)
def impl_cores.f (k : Nat) (l0 : List (S37)) : Option ((List (S64))) := impl_cores.l0 k ([] : List (S64)) l0 (l0.length : Int) 0
theorem impl_cores.mono_l : ∀ k, (∀ y0 y1 y2 y3, LeO (impl_cores.l0 k y0 y1 y2 y3) (impl_cores.l0 (k + 1) y0 y1 y2 y3))
  | 0 => fun _ _ _ _ r h => by simp [impl_cores.l0] at h
  | k + 1 => by
    have ih0 := impl_cores.mono_l k
    · intro y0 y1 y2 y3
      unfold impl_cores.l0
      repeat' first
      | (with_reducible exact ih0 _ _ _ _)
      | (with_reducible exact LeO.refl _)
      | (with_reducible exact LeO.none _)
      | (with_reducible refine LeO.ite ?_ ?_)
      | (with_reducible refine LeO.bind ?_ (fun _ => ?_))
      | exact ih0 _ _ _ _
      | exact LeO.none _
      | refine LeO.ite ?_ ?_
      | refine LeO.bind ?_ (fun _ => ?_)
theorem impl_cores.mono : ∀ a0 k, LeO (impl_cores.f k a0) (impl_cores.f (k + 1) a0) := by
  intro a0 k
  have ih0 := impl_cores.mono_l k
  unfold impl_cores.f
  repeat' first
      | (with_reducible exact ih0 _ _ _ _)
      | (with_reducible exact LeO.refl _)
      | (with_reducible exact LeO.none _)
      | (with_reducible refine LeO.ite ?_ ?_)
      | (with_reducible refine LeO.bind ?_ (fun _ => ?_))
      | exact ih0 _ _ _ _
      | exact LeO.none _
      | refine LeO.ite ?_ ?_
      | refine LeO.bind ?_ (fun _ => ?_)
set_option maxHeartbeats 8000000 in
set_option maxRecDepth 100000 in
theorem impl_cores.calls (k : Nat) (P0_ : Nat → Prop) (A0 : Option Addr) (c0 : Nat) (l0 : List (S37)) (r : List (S64)) (w : World) (hs0 : Kd.V k37 37 w w.heap.size (fun k_ => P0_ k_) (.slice A0 l0.length c0) l0) (h : impl_cores.f k l0 = some r) :
    Calls Tryd.prog 36 #[.slice A0 l0.length c0] w fun e w' => ∃ v0_ : Value, e = .returned (v0_) ∧ Kd.N k64 64 w' w.heap.size (fun k_ => (P0_ k_ ∨ w.heap.size ≤ k_)) v0_ r ∧ Below w.heap.size w w' := by
  have hu37 := Tryd.underlying37
  have HO0 := Aside0.mk (show Kd.V k37 37 w w.heap.size (fun k_ => (P0_ k_ ∨ w.heap.size ≤ k_)) (.slice A0 l0.length c0) l0 from Kd.V_mono hs0 (fun k_ hk => .inl hk))
  have HB := Aside0.mk (Below.refl w.heap.size w)
  have H : (impl_cores.l0 k ([] : List (S64)) l0 (l0.length : Int) 0) = some r := h
  clear h
  have H' := Aside0.mk H
  clear H
  go_enter Tryd.func36, Tryd.ntmps36
  go_wp2
  go_loopg [3, 8] k (fun kq v3 v8 w' => ∃ (x3_1 : List (S64)) (x8_1 : Int), v8 = .int .i64 x8_1 ∧ Aside0 (impl_cores.l0 kq x3_1 l0 (l0.length : Int) x8_1 = some r) ∧ Aside0 (kq ≤ k) ∧ Aside0 (Kd.N k64 64 w' w.heap.size (fun k_ => (P0_ k_ ∨ w.heap.size ≤ k_)) v3 x3_1) ∧ Aside0 (Kd.V k37 37 w' w.heap.size (fun k_ => (P0_ k_ ∨ w.heap.size ≤ k_) ∧ some k_ ≠ (v3 : Value).ownBlock) (.slice A0 l0.length c0) l0) ∧ Aside0 (Below w.heap.size w w'))
  case atStart => exact ⟨(([] : List (S64))), (0), (by first | rfl | (simp; done) | (simp [*]; done)), H', ⟨Nat.le_refl _⟩, ⟨by first | exact Kd.S_nil _ _ _ _ _ | exact Kd.N_nil _ _ _ _ _ | exact Kd.V_nil _ _ _ _ _ | exact Kd.Q_nil _ _ _ _ _ | exact Kd.R_nil _ _ _ _ _⟩, ⟨by (with_reducible repeat (first | apply Kd.V_alloc | apply Kd.V_drewN | apply Kd.V_drew)); exact Kd.V_mono HO0.out (fun _ hk => ⟨hk, (by simp [Value.ownBlock])⟩)⟩, ⟨by repeat (first | (with_reducible first | exact HB.out | apply below_alloc | apply pw_below_drewN | apply below_drew1) | exact HB.out)⟩⟩
  case round =>
    clear H'
    obtain ⟨x3_1, x8_1, rfl, HA, HK1, HO_3, HO_6, HB⟩ := hrel
    cases gk with
    | zero => exact absurd HA.out (by simp [impl_cores.l0])
    | succ k1 =>
      have H := HA.out
      clear HA
      simp only [impl_cores.l0] at H
      by_cases c2 : x8_1 < (l0.length : Int)
      · rw [if_pos c2] at H
        have c2b0 : decide (x8_1 < (l0.length : Int)) = true := decide_eq_true c2
        clear c2
        by_cases c3 : 0 ≤ x8_1
        · rw [if_pos c3] at H
          have c3b0 : decide (0 ≤ x8_1) = true := decide_eq_true c3
          clear c3
          by_cases c4 : x8_1 < (l0.length : Int)
          · rw [if_pos c4] at H
            have c4b0 : decide (x8_1 < (l0.length : Int)) = true := decide_eq_true c4
            clear c4
            replace H := Option.bind_eq_some_iff.mp H
            obtain ⟨⟨t453, t454⟩, A50, H⟩ := H
            replace H : (if x3_1.length < 4398046511104 then (impl_cores.l0 k1 (x3_1 ++ [(⟨t453, t454⟩ : S64)]) l0 (l0.length : Int) (wrap64 (x8_1 + 1))) else (none)) = some r := H
            have A5 := Aside0.mk A50
            clear A50
            by_cases c6 : x3_1.length < 4398046511104
            · rw [if_pos c6] at H
              have LMc6 := Aside0.mk c6
              clear c6
              obtain ⟨y457, hy457⟩ : ∃ y_ : List (S64), y_ = (x3_1 ++ [(⟨t453, t454⟩ : S64)]) := ⟨_, rfl⟩
              replace H : (impl_cores.l0 k1 y457 l0 (l0.length : Int) (wrap64 (x8_1 + 1))) = some r := by first | (rw [hy457]; with_reducible exact H) | (have H2_ := (Option.bind_some _ _).symm.trans H; rw [hy457]; with_reducible exact H2_) | (have H2_ := (Option.bind_some _ _).symm.trans H; with_reducible exact H2_) | with_reducible exact H | (rw [hy457]; exact H) | exact H
              have Ny457 := Aside0.mk hy457
              clear hy457
              focus
                have H' := Aside0.mk H
                clear H
                have p451 : 0 ≤ (x8_1 : Int) := of_decide_eq_true (by first | (with_reducible assumption) | assumption)
                have q451 : x8_1 < (l0.length : Int) := of_decide_eq_true (by first | (with_reducible assumption) | assumption)
                obtain ⟨ad451, A451_1, c451_1, e451, hx451_0, hx451_1, hl451_1, hi451_1⟩ := at_T37 (Kd.V_reads' HO_6.out).2.2 x8_1 p451 q451
                cases e451
                obtain ⟨ce451, hce451, hMe451, hcc451⟩ := Kd.V_get HO_6.out z37 x8_1 p451 (by first | exact q451 | exact of_decide_eq_true (by first | (with_reducible assumption) | assumption) | (have e_ := (Kd.V_reads' HO_6.out).1; omega))
                obtain ⟨ua451_1, uc451_1, rfl, ul451_1, ge451_1⟩ := k37_openF hMe451
                have hv451_1 := hcc451 1 _ rfl
                rw [add_field _ _ 1 (by omega)] at hv451_1
                replace hv451_1 := Option.some.inj (hv451_1.symm.trans hx451_1)
                injection hv451_1 with hva_ hvn_ hvc_
                rw [hva_] at ge451_1
                rw [hvc_] at ul451_1
                have HL451_1 := Aside0.mk (show Kd.V (Kd.int .u8) 5 _ w.heap.size _ _ ((rd_T37 l0 x8_1).f1) from Kd.V_mk ul451_1 ge451_1)
                clear hva_ hvn_ hvc_ ge451_1 ul451_1
                clear hcc451 hce451
                have HR451_1 := Aside0.mk hi451_1
                have HC451_1 := Aside0.mk hl451_1
                clear hi451_1 hl451_1
                replace p451 := eq_true p451
                replace q451 := eq_true q451
                go_wp2_with (first | ((with_reducible refine gate_dst (N := 5) rfl ?_); refine box_event ?hg (N := 5) ?hd (cs := #[.int .i64 0, .slice none 0 0]) (t := 37) ?hr ?_; (case hd => rfl); (case hg => rfl); (case hr => first | (go_simp; done) | (go_simp; rfl)); intro gb452 hg w7 hbox hb; have n0_ := Aside0.mk (Kd.N_below (Kd.N_elderB (by (with_reducible repeat (first | apply Kd.N_alloc | apply Kd.N_drewN | apply Kd.N_drew)); exact HO_3.out) gb452 (Nat.le_of_eq hg.symm)) hb); have n1_ := Aside0.mk (Kd.V_below (Kd.V_elderB (by (with_reducible repeat (first | apply Kd.V_alloc | apply Kd.V_drewN | apply Kd.V_drew)); exact HO_6.out) gb452 (Nat.le_of_eq hg.symm)) hb); have n2_ := Aside0.mk (Kd.V_below (Kd.V_elderB (by (with_reducible repeat (first | apply Kd.V_alloc | apply Kd.V_drewN | apply Kd.V_drew)); exact HL451_1.out) gb452 (Nat.le_of_eq hg.symm)) hb); have n3_ := Aside0.mk (Kd.C_below (by repeat (first | (with_reducible exact HR451_1.out) | (with_reducible refine Kd.C_alloc ?_ _) | (with_reducible refine Kd.C_drewN ?_ _) | (with_reducible refine Kd.C_drew ?_) | exact HR451_1.out)) hb); have n4_ := Aside0.mk (below_step (by repeat (first | (with_reducible first | exact HB.out | apply below_alloc | apply pw_below_drewN | apply below_drew1) | exact HB.out)) hb); have n5_ := Aside0.mk (hbox); have n6_ := Aside0.mk ((by rw [hg]; exact (below_size (by repeat (first | (with_reducible first | exact HB.out | apply below_alloc | apply pw_below_drewN | apply below_drew1) | exact HB.out))) : w.heap.size ≤ gb452)); have n7_ := Aside0.mk ((by rw [hg]; exact (below_size (by repeat (first | (with_reducible first | exact HB.out | apply below_alloc | apply pw_below_drewN | apply below_drew1) | exact HB.out))) : w.heap.size ≤ gb452)); clear HO_3; clear HO_6; clear HL451_1; clear HR451_1; clear HB; have HO_3 := n0_; have HO_6 := n1_; have HL451_1 := n2_; have HR451_1 := n3_; have HB := n4_; have BK452 := n5_; have GW452 := n6_; have GE452 := n7_; clear n0_ n1_ n2_ n3_ n4_ n5_ n6_ n7_; clear hb hbox hg; have hcz8_0 : w7.cell? ⟨gb452, 0, none⟩ = some (.int .i64 0) := (blk_cell BK452.out 0).trans rfl; have hcz8_1 : w7.cell? ⟨gb452, 1, none⟩ = some (.slice none 0 0) := (blk_cell BK452.out 1).trans rfl; have hfz8_0 := blk_frozen BK452.out 0; have hfz8_1 := blk_frozen BK452.out 1) | ((with_reducible refine gate_store (t := 37) (p := 5) rfl ?_); refine store_event (t := 37) (p := 5) (v := ?vo_w9) (w1 := ((w7.setCell ⟨gb452, 0, none⟩ (.int .i64 ((rd_T37 l0 x8_1).f0))).setCell ⟨gb452, 1, none⟩ (.slice A451_1 ((rd_T37 l0 x8_1).f1).length c451_1))) ?hg ?ho ?hn ?hr ?_; (case ho => rfl); (case hg => rfl); (case hn => rfl); (case hr => first | (go_simp; done) | (go_simp; rfl)); intro w9 hw; have n0_ : Aside0 (Kd.N k64 64 w9 w.heap.size (fun k_ => (P0_ k_ ∨ w.heap.size ≤ k_) ∧ k_ ≠ gb452) u3 x3_1) := ⟨(by rw [hw]; exact (by (with_reducible repeat (first | apply Kd.N_alloc | apply Kd.N_drewN | apply Kd.N_drew)); exact Kd.N_mono (Kd.N_far (p := ⟨gb452, 1, none⟩) (Kd.N_far (p := ⟨gb452, 0, none⟩) (Kd.N_mono HO_3.out (fun k_ hk => (⟨hk, hk.2⟩ : _ ∧ k_ ≠ gb452))) (fun _ hk => hk.2) (.int .i64 ((rd_T37 l0 x8_1).f0))) (fun _ hk => hk.2) (.slice A451_1 ((rd_T37 l0 x8_1).f1).length c451_1)) (fun _ hk => ⟨hk.1.1, hk.1.2⟩)))⟩; have n1_ : Aside0 (Kd.V k37 37 w9 w.heap.size (fun k_ => (P0_ k_ ∨ w.heap.size ≤ k_) ∧ some k_ ≠ (u3 : Value).ownBlock ∧ k_ ≠ gb452) (.slice (some ad451) l0.length c0) l0) := ⟨(by rw [hw]; exact (by (with_reducible repeat (first | apply Kd.V_alloc | apply Kd.V_drewN | apply Kd.V_drew)); exact Kd.V_mono (Kd.V_far (p := ⟨gb452, 1, none⟩) (Kd.V_far (p := ⟨gb452, 0, none⟩) (Kd.V_mono HO_6.out (fun k_ hk => (⟨hk, hk.2⟩ : _ ∧ k_ ≠ gb452))) (fun _ hk => hk.2) (.int .i64 ((rd_T37 l0 x8_1).f0))) (fun _ hk => hk.2) (.slice A451_1 ((rd_T37 l0 x8_1).f1).length c451_1)) (fun _ hk => ⟨hk.1.1.1, ⟨hk.1.1.2, hk.1.2⟩⟩)))⟩; have n2_ : Aside0 (Kd.V (Kd.int .u8) 5 w9 w.heap.size (fun k_ => (P0_ k_ ∨ w.heap.size ≤ k_) ∧ some k_ ≠ (u3 : Value).ownBlock ∧ k_ ≠ gb452) (.slice A451_1 ((rd_T37 l0 x8_1).f1).length c451_1) ((rd_T37 l0 x8_1).f1)) := ⟨(by rw [hw]; exact (by (with_reducible repeat (first | apply Kd.V_alloc | apply Kd.V_drewN | apply Kd.V_drew)); exact Kd.V_mono (Kd.V_far (p := ⟨gb452, 1, none⟩) (Kd.V_far (p := ⟨gb452, 0, none⟩) (Kd.V_mono HL451_1.out (fun k_ hk => (⟨hk, hk.2⟩ : _ ∧ k_ ≠ gb452))) (fun _ hk => hk.2) (.int .i64 ((rd_T37 l0 x8_1).f0))) (fun _ hk => hk.2) (.slice A451_1 ((rd_T37 l0 x8_1).f1).length c451_1)) (fun _ hk => ⟨hk.1.1.1, ⟨hk.1.1.2, hk.1.2⟩⟩)))⟩; have n3_ : Aside0 (w9.heap[gb452]? = some (.cells #[.int .i64 ((rd_T37 l0 x8_1).f0), .slice A451_1 ((rd_T37 l0 x8_1).f1).length c451_1] 37 (0, 0))) := ⟨(by rw [hw]; exact (by (with_reducible repeat (first | refine blk_drewN ?_ _ | refine blk_drew ?_ | refine blk_alloc ?_ _)); refine blk_put (cs := #[.int .i64 ((rd_T37 l0 x8_1).f0), .slice none 0 0]) ?_ 1 _ rfl; (with_reducible repeat (first | refine blk_drewN ?_ _ | refine blk_drew ?_ | refine blk_alloc ?_ _)); refine blk_put (cs := #[.int .i64 0, .slice none 0 0]) ?_ 0 _ rfl; (with_reducible repeat (first | refine blk_drewN ?_ _ | refine blk_drew ?_ | refine blk_alloc ?_ _)); exact BK452.out))⟩; have n4_ : Aside0 (Below w.heap.size w w9) := ⟨(by rw [hw]; exact (by repeat (first | (with_reducible first | exact HB.out | apply below_alloc | apply pw_below_drewN | apply below_drew1 | refine below_set ?_ GE452.out) | exact HB.out)))⟩; clear hw; clear HO_3; clear HO_6; clear HL451_1; clear BK452; clear HB; have HO_3 := n0_; have HO_6 := n1_; have HL451_1 := n2_; have BK452 := n3_; have HB := n4_; clear n0_ n1_ n2_ n3_ n4_; have hcz10_0 : w9.cell? ⟨gb452, 0, none⟩ = some (.int .i64 ((rd_T37 l0 x8_1).f0)) := (blk_cell BK452.out 0).trans rfl; have hcz10_1 : w9.cell? ⟨gb452, 1, none⟩ = some (.slice A451_1 ((rd_T37 l0 x8_1).f1).length c451_1) := (blk_cell BK452.out 1).trans rfl; have hfz10_0 := blk_frozen BK452.out 0; have hfz10_1 := blk_frozen BK452.out 1) | ((with_reducible refine gate_callee (f := 45) rfl ?_); refine goesL_ (some 14) rfl rfl Tryd.func45 (by kernel_rfl) rfl #[.agg #[.int .i64 ((rd_T37 l0 x8_1).f0), .slice A451_1 ((rd_T37 l0 x8_1).f1).length c451_1]] rfl (by (try simp only [List.map_toArray, List.map_cons, List.map_nil]); first | done | rfl | (simp only [List.length_drop, List.length_take]; rfl)) ?_; (with_reducible refine (impl_core.calls ((rd_T37 l0 x8_1).f0) (fun k_ => ((P0_ k_ ∨ w.heap.size ≤ k_) ∧ (some k_ ≠ (u3 : Value).ownBlock ∧ k_ ≠ gb452))) _ _ ((rd_T37 l0 x8_1).f1) t453 t454 _ ?side1 A5.out).mono ?_); (case side1 => exact HL451_1.out); rintro e w11 ⟨v455, rfl, ho0, hb⟩; refine ⟨_, rfl, ?_⟩; have n0_ := Aside0.mk (Kd.N_below (by (with_reducible repeat (first | apply Kd.N_alloc | apply Kd.N_drewN | apply Kd.N_drew)); exact HO_3.out) hb); have n1_ := Aside0.mk (Kd.V_below (by (with_reducible repeat (first | apply Kd.V_alloc | apply Kd.V_drewN | apply Kd.V_drew)); exact HO_6.out) hb); have n2_ := Aside0.mk (Kd.V_below (by (with_reducible repeat (first | apply Kd.V_alloc | apply Kd.V_drewN | apply Kd.V_drew)); exact HL451_1.out) hb); have n3_ := Aside0.mk (Kd.V_lower (Kd.V_mono (ok' := fun k_ => (P0_ k_ ∨ w.heap.size ≤ k_) ∧ some k_ ≠ (u3 : Value).ownBlock ∧ k_ ≠ gb452) ho0 (fun k_ hk_ => ⟨Or.elim hk_ (fun hs_ => hs_.1) (fun hn_ => (.inr (Nat.le_trans (below_size (by repeat (first | (with_reducible first | exact HB.out | apply below_alloc | apply pw_below_drewN | apply below_drew1 | refine below_set ?_ GE452.out) | exact HB.out))) hn_))), Or.elim hk_ (fun hs_ => hs_.2.1) (fun hn_ => (Kd.fresh' (Kd.N_lt (by (with_reducible repeat (first | apply Kd.N_alloc | apply Kd.N_drewN | apply Kd.N_drew)); exact HO_3.out)) k_ hn_)), Or.elim hk_ (fun hs_ => hs_.2.2) (fun hn_ => (Kd.freshB (g := gb452) (o := .cells #[.int .i64 ((rd_T37 l0 x8_1).f0), .slice A451_1 ((rd_T37 l0 x8_1).f1).length c451_1] 37 (0, 0)) (by (with_reducible repeat (first | refine blk_drewN ?_ _ | refine blk_drew ?_ | refine blk_alloc ?_ _)); exact BK452.out) k_ hn_))⟩)) (below_size (by repeat (first | (with_reducible first | exact HB.out | apply below_alloc | apply pw_below_drewN | apply below_drew1 | refine below_set ?_ GE452.out) | exact HB.out)))); have n4_ := Aside0.mk True.intro; have n5_ := Aside0.mk (blk_below (g := gb452) (o := .cells #[.int .i64 ((rd_T37 l0 x8_1).f0), .slice A451_1 ((rd_T37 l0 x8_1).f1).length c451_1] 37 (0, 0)) (by (with_reducible repeat (first | refine blk_drewN ?_ _ | refine blk_drew ?_ | refine blk_alloc ?_ _)); exact BK452.out) hb); have n6_ := Aside0.mk (below_step (by repeat (first | (with_reducible first | exact HB.out | apply below_alloc | apply pw_below_drewN | apply below_drew1 | refine below_set ?_ GE452.out) | exact HB.out)) hb); clear HO_3; clear HO_6; clear HL451_1; clear HR451_1; clear BK452; clear HB; have HO_3 := n0_; have HO_6 := n1_; have HL451_1 := n2_; have HO456 := n3_; have HR451_1 := n4_; have BK452 := n5_; have HB := n6_; clear n0_ n1_ n2_ n3_ n4_ n5_ n6_; (try clear hb); (try clear hb2); (try clear hk); (try clear hi); (try clear ho0); obtain ⟨Ao13, co13, eo13⟩ := Kd.V_slice HO456.out; subst eo13) | ((with_reducible refine gate_builtin (b := .append) (xs := #[.tmp 12, .tmp 15]) rfl ?_); at_builtin; refine Kd.N_append k64 (w0 := w) w.heap.size rfl (.tmp 12) (.tmp 15) 75 64 (.agg #[(.int .u8 0), (.slice none 0 0)]) 32 rfl Tryd.underlying75 info64 rfl (by decide) (by omega) u3 x3_1 (⟨t453, t454⟩ : S64) [.int .u8 t453, .slice Ao13 t454.length co13] (fun k_ => (P0_ k_ ∨ w.heap.size ≤ k_) ∧ k_ ≠ gb452) (fun k_ => ((fun k_ => (P0_ k_ ∨ w.heap.size ≤ k_) ∧ k_ ≠ gb452)) k_ ∧ some k_ ≠ (u3 : Value).ownBlock) rfl rfl ?aP (fun _ hk => hk) ?aF ?aO ?aB ?aS ?aL ?_; (case aP => exact (k64_mkF _ _ (⟨t453, t454⟩ : S64) (Kd.V_reads' (Kd.V_mono (ok' := (fun k_ => ((fun k_ => (P0_ k_ ∨ w.heap.size ≤ k_) ∧ k_ ≠ gb452)) k_ ∧ some k_ ≠ (u3 : Value).ownBlock)) (HO456.out) (fun k_ hk => ⟨⟨hk.1, hk.2.2⟩, hk.2.1⟩))).2.1 (Kd.V_F (Kd.V_mono (ok' := (fun k_ => ((fun k_ => (P0_ k_ ∨ w.heap.size ≤ k_) ∧ k_ ≠ gb452)) k_ ∧ some k_ ≠ (u3 : Value).ownBlock)) (HO456.out) (fun k_ hk => ⟨⟨hk.1, hk.2.2⟩, hk.2.1⟩))))); (case aB => exact (by repeat (first | (with_reducible first | exact HB.out | apply below_alloc | apply pw_below_drewN | apply below_drew1 | refine below_set ?_ GE452.out) | exact HB.out))); (case aF => exact (fun k_ hk => ⟨(.inr (Nat.le_trans (below_size (by repeat (first | (with_reducible first | exact HB.out | apply below_alloc | apply pw_below_drewN | apply below_drew1 | refine below_set ?_ GE452.out) | exact HB.out))) hk)), Kd.freshB (g := gb452) (o := .cells #[.int .i64 ((rd_T37 l0 x8_1).f0), .slice A451_1 ((rd_T37 l0 x8_1).f1).length c451_1] 37 (0, 0)) (by (with_reducible repeat (first | refine blk_drewN ?_ _ | refine blk_drew ?_ | refine blk_alloc ?_ _)); exact BK452.out) k_ hk⟩)); (case aO => exact (by (with_reducible repeat (first | apply Kd.N_alloc | apply Kd.N_drewN | apply Kd.N_drew)); exact HO_3.out)); (case aS => exact (below_size (by repeat (first | (with_reducible first | exact HB.out | apply below_alloc | apply pw_below_drewN | apply below_drew1 | refine below_set ?_ GE452.out) | exact HB.out)))); (case aL => have := LMc6.out; omega); intro v458 w12 ho hb hg hat; rw [← Ny457.out] at ho; have n0_ := Aside0.mk (Kd.V_afterv (ok := (fun k_ => (P0_ k_ ∨ w.heap.size ≤ k_) ∧ k_ ≠ gb452)) (by (with_reducible repeat (first | apply Kd.V_alloc | apply Kd.V_drewN | apply Kd.V_drew)); exact Kd.V_mono HO_6.out (fun _ hk => ⟨⟨hk.1, hk.2.2⟩, hk.2.1⟩)) hg hat); have n1_ := Aside0.mk (Kd.V_afterv (ok := (fun k_ => (P0_ k_ ∨ w.heap.size ≤ k_) ∧ k_ ≠ gb452)) (by (with_reducible repeat (first | apply Kd.V_alloc | apply Kd.V_drewN | apply Kd.V_drew)); exact Kd.V_mono HL451_1.out (fun _ hk => ⟨⟨hk.1, hk.2.2⟩, hk.2.1⟩)) hg hat); have n2_ := Aside0.mk (blk_grown (g := gb452) (o := .cells #[.int .i64 ((rd_T37 l0 x8_1).f0), .slice A451_1 ((rd_T37 l0 x8_1).f1).length c451_1] 37 (0, 0)) (by (with_reducible repeat (first | refine blk_drewN ?_ _ | refine blk_drew ?_ | refine blk_alloc ?_ _)); exact BK452.out) hg (Kd.N_ne HO_3.out BK452.out (by decide))); have n3_ := Aside0.mk (Kd.V_afterv (ok := (fun k_ => (P0_ k_ ∨ w.heap.size ≤ k_) ∧ k_ ≠ gb452)) (by (with_reducible repeat (first | apply Kd.V_alloc | apply Kd.V_drewN | apply Kd.V_drew)); exact Kd.V_mono HO456.out (fun _ hk => ⟨⟨hk.1, hk.2.2⟩, hk.2.1⟩)) hg hat); have n4_ := Aside0.mk (hb); have n5_ := Aside0.mk (ho); clear HO_6; clear HL451_1; clear BK452; clear HO456; clear HB; clear HO_3; have HO_6 := n0_; have HL451_1 := n1_; have BK452 := n2_; have HO456 := n3_; have HB := n4_; have HO459 := n5_; clear n0_ n1_ n2_ n3_ n4_ n5_; clear ho hb hg hat))
                go_roundg k1
                case measure => have := HK1.out; omega
                case rel => exact ⟨(y457), (wrap64 (x8_1 + 1)), (by first | rfl | (simp; done) | (simp [*]; done)), H', ⟨by have := HK1.out; omega⟩, ⟨by (with_reducible repeat (first | apply Kd.N_alloc | apply Kd.N_drewN | apply Kd.N_drew)); exact Kd.N_mono HO459.out (fun _ hk => hk.1)⟩, ⟨by (with_reducible repeat (first | apply Kd.V_alloc | apply Kd.V_drewN | apply Kd.V_drew)); exact Kd.V_mono HO_6.out (fun _ hk => ⟨hk.1.1, hk.2⟩)⟩, ⟨by repeat (first | (with_reducible first | exact HB.out | apply below_alloc | apply pw_below_drewN | apply below_drew1 | refine below_set ?_ GE452.out) | exact HB.out)⟩⟩
            · rw [if_neg c6] at H
              exact absurd H (by simp)
          · rw [if_neg c4] at H
            exact absurd H (by simp)
        · rw [if_neg c3] at H
          exact absurd H (by simp)
      · rw [if_neg c2] at H
        have c2b0 : decide (x8_1 < (l0.length : Int)) = false := decide_eq_false c2
        clear c2
        focus
          obtain rfl := Option.some.inj H
          go_wp2
          go_ret
          exact ⟨_, by first | rfl | (simp [errW_none, errW_some] <;> rfl) | (simp [*, errW_none, errW_some] <;> rfl), by (with_reducible repeat (first | apply Kd.N_alloc | apply Kd.N_drewN | apply Kd.N_drew)); exact HO_3.out, by repeat (first | (with_reducible first | exact HB.out | apply below_alloc | apply pw_below_drewN | apply below_drew1) | exact HB.out)⟩

/-! ### impl_BuildArrayElement: function 17 -/
def impl_BuildArrayElement.f (k : Nat) (l0 : List Int) (a1 : ByteArray) (l2 : List (S37)) : Option (List Int) := (impl_own.f l0).bind fun t460 => ((impl_cores.f k l2).bind fun t463 => ((bsoncore_BuildArrayElement.f k t460 a1 t463).bind fun t466 => (some t466)))
theorem impl_BuildArrayElement.mono : ∀ a0 a1 a2 k, LeO (impl_BuildArrayElement.f k a0 a1 a2) (impl_BuildArrayElement.f (k + 1) a0 a1 a2) := by
  intro a0 a1 a2 k
  unfold impl_BuildArrayElement.f
  repeat' first
      | (with_reducible exact bsoncore_BuildArrayElement.mono _ _ _ _)
      | (with_reducible exact impl_cores.mono _ _)
      | (with_reducible exact LeO.refl _)
      | (with_reducible exact LeO.none _)
      | (with_reducible refine LeO.ite ?_ ?_)
      | (with_reducible refine LeO.bind ?_ (fun _ => ?_))
      | exact bsoncore_BuildArrayElement.mono _ _ _ _
      | exact impl_cores.mono _ _
      | exact LeO.none _
      | refine LeO.ite ?_ ?_
      | refine LeO.bind ?_ (fun _ => ?_)
set_option maxHeartbeats 8000000 in
set_option maxRecDepth 100000 in
theorem impl_BuildArrayElement.calls (k : Nat) (A0 : Option Addr) (c0 : Nat) (l0 : List Int) (a1 : ByteArray) (A2 : Option Addr) (c2 : Nat) (l2 : List (S37)) (r : List Int) (w : World) (hlaid : Ito.LaidT w) (hr0 : Kd.C (Kd.int .u8) w A0 l0.length l0) (hc0 : l0.length ≤ c0) (hr2 : Kd.C k37 w A2 l2.length l2) (hc2 : l2.length ≤ c2) (h : impl_BuildArrayElement.f k l0 a1 l2 = some r) :
    Calls Tryd.prog 17 #[.slice A0 l0.length c0, .string a1, .slice A2 l2.length c2] w fun e w' => ∃ v0_ : Value, e = .returned (v0_) ∧ Kd.R (Kd.int .u8) 5 w' w.heap.size (fun _ => True) v0_ r ∧ Below w.heap.size w w' := by
  have HR0 := Aside0.mk hr0
  have HC0 := Aside0.mk hc0
  clear hr0 hc0
  have HLAID := Aside0.mk hlaid
  clear hlaid
  have HR2 := Aside0.mk hr2
  have HC2 := Aside0.mk hc2
  clear hr2 hc2
  have HB := Aside0.mk (Below.refl w.heap.size w)
  have H : ((impl_own.f l0).bind fun t460 => ((impl_cores.f k l2).bind fun t463 => ((bsoncore_BuildArrayElement.f k t460 a1 t463).bind fun t466 => (some t466)))) = some r := h
  clear h
  replace H := Option.bind_eq_some_iff.mp H
  obtain ⟨t460, A40, H⟩ := H
  replace H : ((impl_cores.f k l2).bind fun t463 => ((bsoncore_BuildArrayElement.f k t460 a1 t463).bind fun t466 => (some t466))) = some r := H
  have A4 := Aside0.mk A40
  clear A40
  replace H := Option.bind_eq_some_iff.mp H
  obtain ⟨t463, A50, H⟩ := H
  replace H : ((bsoncore_BuildArrayElement.f k t460 a1 t463).bind fun t466 => (some t466)) = some r := H
  have A5 := Aside0.mk A50
  clear A50
  replace H := Option.bind_eq_some_iff.mp H
  obtain ⟨t466, A60, H⟩ := H
  replace H : (some t466) = some r := H
  have A6 := Aside0.mk A60
  clear A60
  focus
    obtain rfl := Option.some.inj H
    go_enter Tryd.func17, Tryd.ntmps17
    go_wp2_with (first | ((with_reducible refine gate_callee (f := 26) rfl ?_); refine goesL_ (some 8) rfl rfl Tryd.func26 (by kernel_rfl) rfl #[.slice A0 l0.length c0] rfl (by (try simp only [List.map_toArray, List.map_cons, List.map_nil]); first | done | rfl | (simp only [List.length_drop, List.length_take]; rfl)) ?_; (with_reducible refine (impl_own.calls _ _ l0 t460 _ ?side1 ?side2 A4.out).mono ?_); (case side1 => repeat (first | exact HR0.out | (with_reducible refine Kd.C_alloc ?_ _) | (with_reducible refine Kd.C_drewN ?_ _) | (with_reducible refine Kd.C_drew ?_))); (case side2 => exact HC0.out); rintro e w7 ⟨v461, rfl, ho0, hb⟩; refine ⟨_, rfl, ?_⟩; have n0_ := Aside0.mk (Kd.R_lower ho0 (below_size (by repeat (first | (with_reducible first | exact HB.out | apply below_alloc | apply pw_below_drewN | apply below_drew1) | exact HB.out)))); have n1_ := Aside0.mk (below_step (by repeat (first | (with_reducible first | exact HB.out | apply below_alloc | apply pw_below_drewN | apply below_drew1) | exact HB.out)) hb); clear HB; have HO462 := n0_; have HB := n1_; clear n0_ n1_; (try clear hb); (try clear hb2); (try clear hk); (try clear hi); (try clear ho0)) | ((with_reducible refine gate_callee (f := 36) rfl ?_); refine goesL_ (some 11) rfl rfl Tryd.func36 (by kernel_rfl) rfl #[.slice A2 l2.length c2] rfl (by (try simp only [List.map_toArray, List.map_cons, List.map_nil]); first | done | rfl | (simp only [List.length_drop, List.length_take]; rfl)) ?_; (with_reducible refine (impl_cores.calls k (fun k_ => k_ < w.heap.size) _ _ l2 t463 _ ?side1 A5.out).mono ?_); (case side1 => exact Kd.V_mk HC2.out (Kd.F_below (Kd.C_F k37_heap HR2.out) (by repeat (first | (with_reducible first | exact HB.out | apply below_alloc | apply pw_below_drewN | apply below_drew1) | exact HB.out)))); rintro e w8 ⟨v464, rfl, ho0, hb⟩; refine ⟨_, rfl, ?_⟩; have n0_ := Aside0.mk (Kd.R_below (by (with_reducible repeat (first | apply Kd.R_alloc | apply Kd.R_drewN | apply Kd.R_drew)); exact HO462.out) hb); have n1_ := Aside0.mk (Kd.N_lower (Kd.N_mono (ok' := fun k_ => some k_ ≠ (v461 : Value).ownBlock) ho0 (fun k_ hk_ => Or.elim hk_ (fun hs_ => fun e_ => Nat.not_le.2 hs_ (Kd.R_base HO462.out k_ e_.symm)) (fun hn_ => (Kd.fresh' (Kd.R_lt (by (with_reducible repeat (first | apply Kd.R_alloc | apply Kd.R_drewN | apply Kd.R_drew)); exact HO462.out)) k_ hn_)))) (below_size (by repeat (first | (with_reducible first | exact HB.out | apply below_alloc | apply pw_below_drewN | apply below_drew1) | exact HB.out)))); have n2_ := Aside0.mk (below_step (by repeat (first | (with_reducible first | exact HB.out | apply below_alloc | apply pw_below_drewN | apply below_drew1) | exact HB.out)) hb); clear HO462; clear HB; have HO462 := n0_; have HO465 := n1_; have HB := n2_; clear n0_ n1_ n2_; (try clear hb); (try clear hb2); (try clear hk); (try clear hi); (try clear ho0); obtain ⟨Ao9, co9, eo9⟩ := Kd.R_slice HO462.out; subst eo9; obtain ⟨Ao10, co10, eo10⟩ := Kd.N_slice HO465.out; subst eo10) | ((with_reducible refine gate_callee (f := 35) rfl ?_); refine goesL_ (some 12) rfl rfl Tryd.func35 (by kernel_rfl) rfl #[.slice Ao9 t460.length co9, .string a1, .slice Ao10 t463.length co10] rfl (by (try simp only [List.map_toArray, List.map_cons, List.map_nil]); first | done | rfl | (simp only [List.length_drop, List.length_take]; rfl)) ?_; (with_reducible refine (bsoncore_BuildArrayElement.calls k (fun k_ => some k_ = (.slice Ao9 t460.length co9 : Value).ownBlock) (.slice Ao9 t460.length co9) t460 a1 _ _ t463 t466 w _ ?aLD ?side1 ?side2 ?side3 ?side4 A6.out).mono ?_); (case aLD => exact Ito.laid_kept_came HLAID.out (by repeat (first | (with_reducible first | exact HB.out | apply below_alloc | apply pw_below_drewN | apply below_drew1) | exact HB.out)) (fun k_ hs_ => Kd.R_base HO462.out k_ hs_.symm)); (case side1 => repeat (first | (with_reducible first | exact HB.out | apply below_alloc | apply pw_below_drewN | apply below_drew1) | exact HB.out)); (case side2 => exact Kd.R_tight rfl HO462.out); (case side3 => exact Kd.C_kept_ownV (base := 0) (Kd.N_V (HO465.out)) (fun k_ hk_ hs_ => (hk_) hs_)); (case side4 => exact (Kd.N_reads' HO465.out).2.1); rintro e w11 ⟨v467, rfl, ho0, hb, hkp⟩; refine ⟨_, rfl, ?_⟩; have n0_ := Aside0.mk (Kd.N_mono (ok' := fun k_ => some k_ ≠ (v467 : Value).ownBlock) (Kd.N_keptB (HO465.out) hkp (fun k_ hk_ hs_ => (hk_) hs_)) (fun k_ hk_ => fun e_ => Or.elim (ho0.1 k_ e_.symm) (fun hs_ => hk_.2.1 hs_) (fun hn_ => Nat.not_le.2 hk_.2.2 hn_))); have n1_ := Aside0.mk (Kd.R_mono (ok' := fun k_ => True) ho0 (fun k_ hk_ => trivial)); have n2_ := Aside0.mk (hb); clear HO465; clear HB; clear HO462; have HO465 := n0_; have HO468 := n1_; have HB := n2_; clear n0_ n1_ n2_; (try clear hb); (try clear hkp); (try clear ho0)))
    go_ret
    exact ⟨_, by first | rfl | (simp [errW_none, errW_some] <;> rfl) | (simp [*, errW_none, errW_some] <;> rfl), by (with_reducible repeat (first | apply Kd.R_alloc | apply Kd.R_drewN | apply Kd.R_drew)); exact HO468.out, by repeat (first | (with_reducible first | exact HB.out | apply below_alloc | apply pw_below_drewN | apply below_drew1) | exact HB.out)⟩

/-! ### laws_docCopy: function 18 -/
def laws_docCopy.f (l0 : List Int) : Option (List Int) := (some (([] : List Int) : List Int)).bind fun y469 => (if y469.length + l0.length < 140737488355328 then (some (y469 ++ l0)) else (none))
set_option maxHeartbeats 8000000 in
set_option maxRecDepth 100000 in
theorem laws_docCopy.calls (A0 : Option Addr) (c0 : Nat) (l0 : List Int) (r : List Int) (w : World) (hr0 : Kd.C (Kd.int .u8) w A0 l0.length l0) (hc0 : l0.length ≤ c0) (h : laws_docCopy.f l0 = some r) :
    Calls Tryd.prog 18 #[.slice A0 l0.length c0] w fun e w' => ∃ v0_ : Value, e = .returned (v0_) ∧ Kd.R (Kd.int .u8) 5 w' w.heap.size (fun _ => True) v0_ r ∧ Below w.heap.size w w' := by
  have HR0 := Aside0.mk hr0
  have HC0 := Aside0.mk hc0
  clear hr0 hc0
  have HB := Aside0.mk (Below.refl w.heap.size w)
  have H : ((some (([] : List Int) : List Int)).bind fun y469 => (if y469.length + l0.length < 140737488355328 then (some (y469 ++ l0)) else (none))) = some r := h
  clear h
  obtain ⟨y469, hy469⟩ : ∃ y_ : List Int, y_ = (([] : List Int)) := ⟨_, rfl⟩
  replace H : (if y469.length + l0.length < 140737488355328 then (some (y469 ++ l0)) else (none)) = some r := by first | (rw [hy469]; with_reducible exact H) | (have H2_ := (Option.bind_some _ _).symm.trans H; rw [hy469]; with_reducible exact H2_) | (have H2_ := (Option.bind_some _ _).symm.trans H; with_reducible exact H2_) | with_reducible exact H | (rw [hy469]; exact H) | exact H
  have Ny469 := Aside0.mk hy469
  clear hy469
  by_cases c2 : y469.length + l0.length < 140737488355328
  · rw [if_pos c2] at H
    have LMc2 := Aside0.mk c2
    clear c2
    obtain ⟨y472, hy472⟩ : ∃ y_ : List Int, y_ = (y469 ++ l0) := ⟨_, rfl⟩
    replace H : (some y472) = some r := by first | (rw [hy472]; with_reducible exact H) | (have H2_ := (Option.bind_some _ _).symm.trans H; rw [hy472]; with_reducible exact H2_) | (have H2_ := (Option.bind_some _ _).symm.trans H; with_reducible exact H2_) | with_reducible exact H | (rw [hy472]; exact H) | exact H
    have Ny472 := Aside0.mk hy472
    clear hy472
    focus
      obtain rfl := Option.some.inj H
      go_enter Tryd.func18, Tryd.ntmps18
      go_wp2_with (first | ((with_reducible refine gate_dst (N := 3) rfl ?_); refine Kd.R_lit (Kd.int .u8) _ 5 ?hg (N := 3) ?hd (xs := ([] : List Int)) (inner := []) (ok := fun _ => True) (okp := fun _ => True) ?hr ?hp (fun _ hk => hk) trivial (Below.refl _ _) (Nat.le_refl _) (by simp) ?_; (case hd => rfl); (case hg => rfl); (case hr => first | (go_simp; done) | (go_simp; rfl)); (case hp => exact (Reps.none _ _)); intro v470 w3 ho4 hb hg_ hnew_; clear hg_ hnew_; (first | rw [← Ny469.out] at ho4 | (simp only [Int.reduceToNat] at ho4; rw [← Ny469.out] at ho4)); have n0_ := Aside0.mk (Kd.R_lower ho4 (below_size (by repeat (first | (with_reducible first | exact HB.out | apply below_alloc | apply pw_below_drewN | apply below_drew1) | exact HB.out)))); have n1_ := Aside0.mk (below_step (by repeat (first | (with_reducible first | exact HB.out | apply below_alloc | apply pw_below_drewN | apply below_drew1) | exact HB.out)) hb); clear HB; have HO471 := n0_; have HB := n1_; clear n0_ n1_; clear hb ho4) | ((with_reducible refine gate_builtin (b := .append) (xs := #[.tmp 3, .tmp 4]) rfl ?_); at_builtin; refine Kd.R_append_rows (Kd.int .u8) (w0 := w) w.heap.size rfl (.tmp 3) (.tmp 4) 23 5 (.int .u8 0) 1 rfl Tryd.underlying23 info5 rfl (by decide) (by omega) v470 y469 l0 _ _ _ (fun _ => True) (fun _ => False) rfl rfl ?aO ?aR (fun _ _ h => h) (fun _ h => h.elim) ?aF ?aB ?aS ?aL ?_; (case aR => repeat (first | exact (Kd.C_below HR0.out HB.out) | (with_reducible refine Kd.C_alloc ?_ _) | (with_reducible refine Kd.C_drewN ?_ _) | (with_reducible refine Kd.C_drew ?_))); (case aB => exact (by repeat (first | (with_reducible first | exact HB.out | apply below_alloc | apply pw_below_drewN | apply below_drew1) | exact HB.out))); (case aF => exact (fun _ _ => trivial)); (case aO => exact (by (with_reducible repeat (first | apply Kd.R_alloc | apply Kd.R_drewN | apply Kd.R_drew)); exact HO471.out)); (case aS => exact (below_size (by repeat (first | (with_reducible first | exact HB.out | apply below_alloc | apply pw_below_drewN | apply below_drew1) | exact HB.out)))); (case aL => have := LMc2.out; omega); intro v473 w5 ho hb hg hat; rw [← Ny472.out] at ho; have n0_ := Aside0.mk (hb); have n1_ := Aside0.mk (ho); clear HB; clear HO471; have HB := n0_; have HO474 := n1_; clear n0_ n1_; clear ho hb hg hat))
      go_ret
      exact ⟨_, by first | rfl | (simp [errW_none, errW_some] <;> rfl) | (simp [*, errW_none, errW_some] <;> rfl), by (with_reducible repeat (first | apply Kd.R_alloc | apply Kd.R_drewN | apply Kd.R_drew)); exact HO474.out, by repeat (first | (with_reducible first | exact HB.out | apply below_alloc | apply pw_below_drewN | apply below_drew1) | exact HB.out)⟩
  · rw [if_neg c2] at H
    exact absurd H (by simp)

-- NOT PRINTED: function 4 (laws_FnDocBuildArrayElement)

end Go.Proofs.YtndpbbgniflckaaDoor.PBa
