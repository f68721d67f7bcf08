import Derived.Test.YtbfhpjkahobgnaaGreatDoorPIxx0
import Derived.Test.YtbfhpjkahobgnaaGreatDoorPIxx4
import Derived.Test.YtbfhpjkahobgnaaGreatDoorPIxx6
import Derived.Test.YtbfhpjkahobgnaaGreatDoorPIxx7
import Derived.Test.YtbfhpjkahobgnaaGreatDoorPIxx8
namespace Go.Proofs.YtbfhpjkahobgnaaGreatDoor.PIx
open Go.Proofs.YtbfhpjkahobgnaaGreatDoor.HW (tt ff)
open Go.RowKit Go.Proofs.YtbfhpjkahobgnaaGreatDoorW.PrintWords Go.Proofs.YtbfhpjkahobgnaaGreatDoorW.PrintLast Go.Proofs.YtbfhpjkahobgnaaGreatDoorW.PrintMore
attribute [local go_sem] max2_int min2_int max_two min_two max_three min_three max_four min_four
set_option linter.unusedVariables false
set_option maxHeartbeats 8000000
set_option maxRecDepth 100000
set_option linter.unusedSimpArgs false
mutual
def bsoncore_Document_LookupErr.l0 : Nat → List ByteArray → Int → List Int → Option (Int × List Int × Option Int)
  | 0, _, _, _ => none
  | k + 1, x1, x6, x7 => if x6 > 1 then ((bsoncore_ReadElement.f k x7).bind fun bt403 => (if bt403.2.2 = true then ((bsoncore_Element_KeyBytes.f bt403.1).bind fun t416 => (if 0 < (x1.length : Int) then (if (strOfNums t416).toList = (rdOf ByteArray.empty x1 0).toList then (if (x1.length : Int) > 1 then (none) else ((bsoncore_Element_ValueErr.f k bt403.1).bind fun bt420 => (some (bt420.1, bt420.2.1, bt420.2.2)))) else (bsoncore_Document_LookupErr.l0 k x1 (wrap32 (x6 - (wrap32 ((bt403.1.length : Int))))) bt403.2.1)) else (none))) else (none))) else (none)
def bsoncore_Document_LookupErr.f : Nat → List Int → List ByteArray → Option (Int × List Int × Option Int)
  | 0, _, _ => none
  | k + 1, l0, l1 => if (l1.length : Int) < 1 then (none) else ((bsoncore_ReadLength.f l0).bind fun bt392 => (if bt392.2.2 = true then (bsoncore_Document_LookupErr.l0 k l1 (wrap32 (bt392.1 - 4)) bt392.2.1) else (none)))
end
theorem bsoncore_Document_LookupErr.mono_l : ∀ k, (∀ y0 y1, LeO (bsoncore_Document_LookupErr.f k y0 y1) (bsoncore_Document_LookupErr.f (k + 1) y0 y1)) ∧ (∀ y0 y1 y2, LeO (bsoncore_Document_LookupErr.l0 k y0 y1 y2) (bsoncore_Document_LookupErr.l0 (k + 1) y0 y1 y2))
  | 0 => ⟨fun _ _ r h => by simp [bsoncore_Document_LookupErr.f] at h, fun _ _ _ r h => by simp [bsoncore_Document_LookupErr.l0] at h⟩
  | k + 1 => by
    obtain ⟨ih0, ih1⟩ := bsoncore_Document_LookupErr.mono_l k
    refine ⟨?_, ?_⟩
    · intro y0 y1
      unfold bsoncore_Document_LookupErr.f
      have m0_ := @ih0; have m1_ := @ih1; have m2_ := @bsoncore_Element_ValueErr.mono; have m3_ := @bsoncore_ReadElement.mono; exact HW.mo
    · intro y0 y1 y2
      unfold bsoncore_Document_LookupErr.l0
      have m0_ := @ih0; have m1_ := @ih1; have m2_ := @bsoncore_Element_ValueErr.mono; have m3_ := @bsoncore_ReadElement.mono; exact HW.mo
theorem bsoncore_Document_LookupErr.mono : ∀ a0 a1 k, LeO (bsoncore_Document_LookupErr.f k a0 a1) (bsoncore_Document_LookupErr.f (k + 1) a0 a1) := by
  intro a0 a1 k
  obtain ⟨ih0, ih1⟩ := bsoncore_Document_LookupErr.mono_l k
  exact ih0 a0 a1
theorem bsoncore_Document_LookupErr.calls (k : Nat) : ∀ (P0_ : Nat → Prop) (A0 : Option Addr) (c0 : Nat) (l0 : List Int) (A1 : Option Addr) (c1 : Nat) (l1 : List ByteArray) (r1 : Int) (r2 : List Int) (r3 : Option Int) (w : World) (hs0 : Kd.V (Kd.int .u8) 5 w w.heap.size (fun k_ => P0_ k_) (.slice A0 l0.length c0) l0) (hr1 : Kd.C Kd.string w A1 l1.length l1) (hc1 : l1.length ≤ c1) (h : bsoncore_Document_LookupErr.f k l0 l1 = some (r1, r2, r3)),
    Calls Tryz.prog 35 #[.slice A0 l0.length c0, .slice A1 l1.length c1] w fun e w' => ∃ v1_ : Value, e = .returned (.tuple #[.agg #[.int .u8 r1, v1_], errW r3]) ∧ Kd.V (Kd.int .u8) 5 w' w.heap.size (fun k_ => (P0_ k_ ∨ w.heap.size ≤ k_)) v1_ r2 ∧ Below w.heap.size w w' := by
  induction k using Nat.strongRecOn with
  | _ k ih =>
  intro P0_ A0 c0 l0 A1 c1 l1 r1 r2 r3 w hs0 hr1 hc1 h
  cases k with
  | zero => exact absurd h (by simp [bsoncore_Document_LookupErr.f])
  | succ k =>
  simp only [bsoncore_Document_LookupErr.f] at h
  have hu67 := Tryz.underlying67; have hu95 := Tryz.underlying95; have hu59 := Tryz.underlying59; have HO0 := Aside0.mk (show Kd.V (Kd.int .u8) 5 w w.heap.size (fun k_ => (P0_ k_ ∨ w.heap.size ≤ k_)) (.slice A0 l0.length c0) l0 from Kd.V_mono hs0 (fun k_ hk => .inl hk)); have HR1 := Aside0.mk hr1; have HC1 := Aside0.mk hc1; clear hr1 hc1; have HB := Aside0.mk (Below.refl w.heap.size w); have H : (if (l1.length : Int) < 1 then (none) else ((bsoncore_ReadLength.f l0).bind fun bt392 => (if bt392.2.2 = true then (bsoncore_Document_LookupErr.l0 k l1 (wrap32 (bt392.1 - 4)) bt392.2.1) else (none)))) = some (r1, r2, r3) := h; clear h
  by_cases c3 : (l1.length : Int) < 1
  · rw [if_pos c3] at H
    exact absurd H (by simp)
  rw [if_neg c3] at H; have c3b0 : decide ((l1.length : Int) < 1) = false := decide_eq_false c3
  have c3b1 : decide (l1.length < 1) = false := decide_eq_false (by omega)
  clear c3; replace H := Option.bind_eq_some_iff.mp H; obtain ⟨⟨t392, t393, t396⟩, A40, H⟩ := H; replace H : (if t396 = true then (bsoncore_Document_LookupErr.l0 k l1 (wrap32 (t392 - 4)) t393) else (none)) = some (r1, r2, r3) := H; have A4 := Aside0.mk A40; clear A40
  by_cases c5 : t396 = true
  rotate_left
  · replace c5 := Bool.eq_false_iff.mpr c5
    subst c5
    have H1 : (none) = some (r1, r2, r3) := by rw [if_neg (show ¬ (false = true) by decide)] at H; exact H
    clear H; have H := H1; clear H1
    exact absurd H (by simp)
  subst c5
  have H1 : (bsoncore_Document_LookupErr.l0 k l1 (wrap32 (t392 - 4)) t393) = some (r1, r2, r3) := by rw [if_pos rfl] at H; exact H
  clear H; have H := H1; clear H1; have H' := Aside0.mk H; clear H
  go_enter Tryz.func35, Tryz.ntmps35
  go_wp2_with (first | ((with_reducible refine gate_dst (N := 4) rfl ?_); refine box_event ?hg (N := 4) ?hd (cs := #[.int .u8 0, .slice none 0 0]) (t := 67) ?hr ?_; (case hd => rfl); (case hg => rfl); (case hr => first | (go_simp; done) | (go_simp; rfl)); intro gb391 hg w6 hbox hb; have n0_ := Aside0.mk (Kd.V_below (Kd.V_elderB (HW.zV HO0.out) gb391 (Nat.le_of_eq hg.symm)) hb); have n1_ := Aside0.mk (below_step HW.zb hb); have n2_ := Aside0.mk (hbox); have n4_ := Aside0.mk ((by rw [hg]; exact (below_size HW.zb) : w.heap.size ≤ gb391)); clear HO0; clear HB; have HO0 := n0_; have HB := n1_; have BK391 := n2_; have GE391 := n4_; clear n0_ n1_ n2_ n4_; clear hb hbox hg) | ((with_reducible refine gate_callee (f := 74) rfl ?_); refine HW.gz (some 22) rfl rfl Tryz.func74 (by kernel_rfl) rfl #[.slice A0 l0.length c0] rfl ?_; (with_reducible refine (bsoncore_ReadLength.calls (fun k_ => ((P0_ k_ ∨ w.heap.size ≤ k_) ∧ k_ ≠ gb391)) _ _ l0 t392 t393 true _ ?side1 A4.out).mono ?_); (case side1 => exact HO0.out); rintro e w7 ⟨v394, rfl, ho0, hb⟩; refine ⟨_, rfl, ?_⟩; have HO395 := Aside0.mk (Kd.V_lower (Kd.V_mono (ok' := fun k_ => (P0_ k_ ∨ w.heap.size ≤ k_) ∧ k_ ≠ gb391) ho0 (fun k_ hk_ => ⟨Or.elim hk_ (fun hs_ => hs_.1) (fun hn_ => (.inr (Nat.le_trans (below_size HW.zb) hn_))), Or.elim hk_ (fun hs_ => hs_.2) (fun hn_ => (Kd.freshB (g := gb391) (o := .cells #[.int .u8 0, .slice none 0 0] 67 (0, 0)) (HW.zB BK391.out) k_ hn_))⟩)) (below_size HW.zb)); replace BK391 := Aside0.mk (blk_below (HW.zB BK391.out) hb); replace HB := Aside0.mk (below_step HW.zb hb); (try clear hb); (try clear ho0)))
  go_loopg [6, 7] k (fun kq v6 v7 w' => ∃ (x6_1 : Int) (x7_1 : List Int) (x392000_1 : Int), v6 = .int .i32 x6_1 ∧ Aside0 (bsoncore_Document_LookupErr.l0 kq l1 x6_1 x7_1 = some (r1, r2, r3)) ∧ Aside0 (kq ≤ k) ∧ Aside0 (Kd.V (Kd.int .u8) 5 w' w.heap.size (fun k_ => (P0_ k_ ∨ w.heap.size ≤ k_) ∧ k_ ≠ gb391) v7 x7_1) ∧ Aside0 (w'.heap[gb391]? = some (.cells #[.int .u8 x392000_1, (.slice none 0 0)] 67 (0, 0))) ∧ Aside0 (Below w.heap.size w w'))
  case atStart => exact ⟨(wrap32 (t392 - 4)), (t393), (0), HW.rs, H', ⟨Nat.le_refl _⟩, ⟨HW.zV HO395.out⟩, ⟨by (with_reducible repeat (first | refine blk_drewN ?_ _ | refine blk_drew ?_ | refine blk_alloc ?_ _)); exact BK391.out⟩, ⟨HW.zb⟩⟩
  case round =>
    clear H'
    (try clear c1); (try clear p2); (try clear c3); (try clear c3b0); (try clear c3b1); (try clear p3); (try clear c5); (try clear c7)
    obtain ⟨x6_1, x7_1, x392000_1, rfl, HA, HK1, HO_7, BK391, HB⟩ := hrel
    cases gk with
    | zero => exact absurd HA.out (by simp [bsoncore_Document_LookupErr.l0])
    | succ k1 =>
      have H := HA.out; clear HA
      simp only [bsoncore_Document_LookupErr.l0] at H
      by_cases c8 : x6_1 > 1
      rotate_left
      · rw [if_neg c8] at H
        exact absurd H (by simp)
      rw [if_pos c8] at H; have c8b0 : decide (1 < x6_1) = true := decide_eq_true c8; clear c8; replace H := Option.bind_eq_some_iff.mp H; obtain ⟨⟨t403, t406, t409⟩, A90, H⟩ := H; replace H : (if t409 = true then ((bsoncore_Element_KeyBytes.f t403).bind fun t416 => (if 0 < (l1.length : Int) then (if (strOfNums t416).toList = (rdOf ByteArray.empty l1 0).toList then (if (l1.length : Int) > 1 then (none) else ((bsoncore_Element_ValueErr.f k1 t403).bind fun bt420 => (some (bt420.1, bt420.2.1, bt420.2.2)))) else (bsoncore_Document_LookupErr.l0 k1 l1 (wrap32 (x6_1 - (wrap32 ((t403.length : Int))))) t406)) else (none))) else (none)) = some (r1, r2, r3) := H; have A9 := Aside0.mk A90; clear A90
      by_cases c10 : t409 = true
      rotate_left
      · replace c10 := Bool.eq_false_iff.mpr c10
        subst c10
        have H1 : (none) = some (r1, r2, r3) := by rw [if_neg (show ¬ (false = true) by decide)] at H; exact H
        clear H; have H := H1; clear H1
        exact absurd H (by simp)
      subst c10
      have H1 : ((bsoncore_Element_KeyBytes.f t403).bind fun t416 => (if 0 < (l1.length : Int) then (if (strOfNums t416).toList = (rdOf ByteArray.empty l1 0).toList then (if (l1.length : Int) > 1 then (none) else ((bsoncore_Element_ValueErr.f k1 t403).bind fun bt420 => (some (bt420.1, bt420.2.1, bt420.2.2)))) else (bsoncore_Document_LookupErr.l0 k1 l1 (wrap32 (x6_1 - (wrap32 ((t403.length : Int))))) t406)) else (none))) = some (r1, r2, r3) := by rw [if_pos rfl] at H; exact H
      clear H; have H := H1; clear H1; replace H := Option.bind_eq_some_iff.mp H; obtain ⟨t416, A110, H⟩ := H; replace H : (if 0 < (l1.length : Int) then (if (strOfNums t416).toList = (rdOf ByteArray.empty l1 0).toList then (if (l1.length : Int) > 1 then (none) else ((bsoncore_Element_ValueErr.f k1 t403).bind fun bt420 => (some (bt420.1, bt420.2.1, bt420.2.2)))) else (bsoncore_Document_LookupErr.l0 k1 l1 (wrap32 (x6_1 - (wrap32 ((t403.length : Int))))) t406)) else (none)) = some (r1, r2, r3) := H; have A11 := Aside0.mk A110; clear A110
      by_cases c12 : 0 < (l1.length : Int)
      rotate_left
      · rw [if_neg c12] at H
        exact absurd H (by simp)
      rw [if_pos c12] at H; have c12b0 : decide (0 < (l1.length : Int)) = true := decide_eq_true c12
      have c12b1 : decide (0 < l1.length) = true := decide_eq_true (by omega)
      clear c12
      by_cases c13 : (strOfNums t416).toList = (rdOf ByteArray.empty l1 0).toList
      rotate_left
      · rw [if_neg c13] at H
        have c13b0 : ((strOfNums t416).toList == (rdOf ByteArray.empty l1 0).toList) = false := beq_eq_false_iff_ne.mpr c13; have c13b1 : ((strOfNums t416).toList != (rdOf ByteArray.empty l1 0).toList) = true := bne_iff_ne.mpr c13
        as_aux_lemma =>
          have H' := Aside0.mk H; clear H; obtain ⟨Ao26, co26, eo26⟩ := Kd.V_slice HO_7.out; subst eo26
          try go_wp2_with (first | ((with_reducible refine gate_callee (f := 76) rfl ?_); refine HW.gz (some 39) rfl rfl Tryz.func76 (by kernel_rfl) rfl #[.slice Ao26 x7_1.length co26] rfl ?_; (with_reducible refine (bsoncore_ReadElement.calls k1 (fun k_ => ((P0_ k_ ∨ w.heap.size ≤ k_) ∧ k_ ≠ gb391)) _ _ x7_1 t403 t406 true _ ?side1 A9.out).mono ?_); (case side1 => exact HO_7.out); rintro e w27 ⟨v404, v407, rfl, ho0, ho1, hb⟩; refine ⟨_, rfl, ?_⟩; replace HO_7 := Aside0.mk (Kd.V_below (HW.zV HO_7.out) hb); have HO405 := Aside0.mk (Kd.V_lower (Kd.V_mono (ok' := fun k_ => (P0_ k_ ∨ w.heap.size ≤ k_) ∧ k_ ≠ gb391) ho0 (fun k_ hk_ => ⟨Or.elim hk_ (fun hs_ => hs_.1) (fun hn_ => (.inr (Nat.le_trans (below_size HW.zb) hn_))), Or.elim hk_ (fun hs_ => hs_.2) (fun hn_ => (Kd.freshB (g := gb391) (o := .cells #[.int .u8 x392000_1, .slice none 0 0] 67 (0, 0)) (HW.zB BK391.out) k_ hn_))⟩)) (below_size HW.zb)); have HO408 := Aside0.mk (Kd.V_lower (Kd.V_mono (ok' := fun k_ => (P0_ k_ ∨ w.heap.size ≤ k_) ∧ k_ ≠ gb391) ho1 (fun k_ hk_ => ⟨Or.elim hk_ (fun hs_ => hs_.1) (fun hn_ => (.inr (Nat.le_trans (below_size HW.zb) hn_))), Or.elim hk_ (fun hs_ => hs_.2) (fun hn_ => (Kd.freshB (g := gb391) (o := .cells #[.int .u8 x392000_1, .slice none 0 0] 67 (0, 0)) (HW.zB BK391.out) k_ hn_))⟩)) (below_size HW.zb)); replace BK391 := Aside0.mk (blk_below (HW.zB BK391.out) hb); replace HB := Aside0.mk (below_step HW.zb hb); (try clear hb); (try clear ho0); (try clear ho1); obtain ⟨Ao28, co28, eo28⟩ := Kd.V_slice HO405.out; subst eo28))
          replace HO_7 := Aside0.mk (Kd.V_drew HO_7.out); replace HO405 := Aside0.mk (Kd.V_drew HO405.out); replace HO408 := Aside0.mk (Kd.V_drew HO408.out); replace BK391 := Aside0.mk (blk_drew BK391.out); replace HB := Aside0.mk (below_drew1 HB.out)
          have p419 : 0 ≤ (0 : Int) := (by omega)
          have q419 : 0 < (l1.length : Int) := HW.od
          obtain ⟨ad419, e419, hx419_0⟩ := Kd.at_string HR1.out 0 p419 q419; have hw419_0 := hx419_0
          (try rw [show ((0 : Int)).toNat = 0 from rfl] at hw419_0)
          (try rw [show 0 * 1 = 0 from rfl] at hw419_0)
          (try rw [Addr.add_zero'] at hw419_0)
          cases e419
          have qi419 : (0 < l1.length) = True := eq_true (by omega)
          (try rw [show ((0 : Int)).toNat = 0 from rfl] at hx419_0)
          (try rw [Addr.add_zero'] at hx419_0)
          replace hx419_0 := (HB.out.cell (World.block_lt_of_cell? w _ hx419_0)).trans hx419_0; replace p419 := eq_true p419; replace q419 := eq_true q419
          refine start_ (n := 7) (S := fun w' => w'.cell? ad419 = some (.string (rdOf ByteArray.empty l1 0))) (ds := []) #[ff,ff,ff,ff,ff,ff,ff] (by kernel_rfl) rfl rfl (((HB.out.cell (World.block_lt_of_cell? w _ hw419_0)).trans hw419_0)) (fun hHeld => ?_)
          generalize w27.drew = w29 at HO_7 HO405 HO408 BK391 HB hx419_0 hHeld ⊢
          refine HW.pz (i := 0) (N := some 55) #[tt,ff,ff,ff,ff,ff,ff] ?_
          refine HW.pz (i := 3) (N := some 58) #[tt,ff,ff,tt,ff,ff,ff] ?_
          refine HW.pz (i := 4) (N := some 59) #[tt,ff,ff,tt,tt,ff,ff] ?_
          refine take_ (i := 5) (N := some 60) (v := ?_) (a' := ?_) #[tt,ff,ff,tt,tt,tt,ff] rfl rfl (by kernel_rfl) (fun _ _ _ h => h) (Or.inl ⟨by rfl, ?_⟩) hHeld ?_ ?_
          rotate_left
          · intro w' s0
            go_simp
            with_reducible rfl
          rotate_left
          · exact HW.pt
          refine one_ (i := 1) (N := some 56) #[tt,tt,ff,tt,tt,tt,ff] rfl rfl (by kernel_rfl) (by decide) (fun K hK => ?_)
          refine goes_ Tryz.func77 (by kernel_rfl) rfl #[.slice Ao28 t403.length co28] (by rfl) rfl rfl HW.mt ?_
          with_reducible refine (bsoncore_Element_KeyBytes.calls (fun k_ => ((P0_ k_ ∨ w.heap.size ≤ k_) ∧ k_ ≠ gb391)) _ _ t403 t416 _ ?side1 A11.out).mono ?_
          (case side1 => exact HO405.out)
          rintro e w30 ⟨v417, rfl, ho0, hb⟩
          refine ⟨_, rfl, ?_⟩
          replace HO_7 := Aside0.mk (Kd.V_below (HW.zV HO_7.out) hb); replace HO405 := Aside0.mk (Kd.V_below (HW.zV HO405.out) hb); replace HO408 := Aside0.mk (Kd.V_below (HW.zV HO408.out) hb); have HO418 := Aside0.mk (Kd.V_lower (Kd.V_mono (ok' := fun k_ => (P0_ k_ ∨ w.heap.size ≤ k_) ∧ k_ ≠ gb391) ho0 (fun k_ hk_ => ⟨Or.elim hk_ (fun hs_ => hs_.1) (fun hn_ => (.inr (Nat.le_trans (below_size HW.zb) hn_))), Or.elim hk_ (fun hs_ => hs_.2) (fun hn_ => (Kd.freshB (g := gb391) (o := .cells #[.int .u8 x392000_1, .slice none 0 0] 67 (0, 0)) (HW.zB BK391.out) k_ hn_))⟩)) (below_size HW.zb)); replace BK391 := Aside0.mk (blk_below (HW.zB BK391.out) hb); replace HB := Aside0.mk (below_step HW.zb hb)
          (try clear hb)
          (try clear hk)
          (try clear ho0)
          refine hK.out _ _ (((HB.out.cell (World.block_lt_of_cell? w _ hw419_0)).trans hw419_0)) (fun hHeld => ?_)
          clear hK K
          refine HW.nz (N := (some 56)) ?_
          refine one_ (i := 2) (N := some 57) #[tt,tt,tt,tt,tt,tt,ff] rfl rfl (by kernel_rfl) (by decide) (fun K hK => ?_)
          have hcv31 := HW.V_string (P := Tryz.prog) Tryz.underlying22 Tryz.underlying5 Tryz.underlying9 (HO418.out)
          refine value_ (w1 := ?_) (v := ?_) (by rfl) rfl ?_ ?_
          rotate_left 2
          · go_simp
            constructor
            · rfl
            rfl
          clear hcv31
          refine hK.out _ _ (((HB.out.cell (World.block_lt_of_cell? w _ hw419_0)).trans hw419_0)) (fun hHeld => ?_)
          clear hK K
          refine HW.nz (N := (some 57)) ?_
          refine HW.pz (i := 6) (N := some 61) #[tt,tt,tt,tt,tt,tt,tt] ?_
          refine done_ (by kernel_rfl) ?_
          try go_wp2
          go_roundg k1
          case measure => have := HK1.out; omega
          case rel => exact ⟨(wrap32 (x6_1 - (wrap32 ((t403.length : Int))))), (t406), (x392000_1), HW.rs, H', ⟨by have := HK1.out; omega⟩, ⟨HW.zV HO408.out⟩, ⟨by (with_reducible repeat (first | refine blk_drewN ?_ _ | refine blk_drew ?_ | refine blk_alloc ?_ _)); exact BK391.out⟩, ⟨HW.zb⟩⟩
      rw [if_pos c13] at H; have c13b0 : ((strOfNums t416).toList == (rdOf ByteArray.empty l1 0).toList) = true := beq_iff_eq.mpr c13; have c13b1 : ((strOfNums t416).toList != (rdOf ByteArray.empty l1 0).toList) = false := bne_eq_false_iff_eq.mpr c13; clear c13
      by_cases c14 : (l1.length : Int) > 1
      · rw [if_pos c14] at H
        exact absurd H (by simp)
      rw [if_neg c14] at H; have c14b0 : decide (1 < (l1.length : Int)) = false := decide_eq_false c14
      have c14b1 : decide (1 < l1.length) = false := decide_eq_false (by omega)
      clear c14; replace H := Option.bind_eq_some_iff.mp H; obtain ⟨⟨t420, t421, t424⟩, A150, H⟩ := H; replace H : (some (t420, t421, t424)) = some (r1, r2, r3) := H; have A15 := Aside0.mk A150; clear A150
      as_aux_lemma =>
        simp only [Option.some.injEq, Prod.mk.injEq] at H
        obtain ⟨rfl, rfl, rfl⟩ := H; obtain ⟨Ao16, co16, eo16⟩ := Kd.V_slice HO_7.out; subst eo16
        try go_wp2_with (first | ((with_reducible refine gate_callee (f := 76) rfl ?_); refine HW.gz (some 39) rfl rfl Tryz.func76 (by kernel_rfl) rfl #[.slice Ao16 x7_1.length co16] rfl ?_; (with_reducible refine (bsoncore_ReadElement.calls k1 (fun k_ => ((P0_ k_ ∨ w.heap.size ≤ k_) ∧ k_ ≠ gb391)) _ _ x7_1 t403 t406 true _ ?side1 A9.out).mono ?_); (case side1 => exact HO_7.out); rintro e w17 ⟨v404, v407, rfl, ho0, ho1, hb⟩; refine ⟨_, rfl, ?_⟩; replace HO_7 := Aside0.mk (Kd.V_below (HW.zV HO_7.out) hb); have HO405 := Aside0.mk (Kd.V_lower (Kd.V_mono (ok' := fun k_ => (P0_ k_ ∨ w.heap.size ≤ k_) ∧ k_ ≠ gb391) ho0 (fun k_ hk_ => ⟨Or.elim hk_ (fun hs_ => hs_.1) (fun hn_ => (.inr (Nat.le_trans (below_size HW.zb) hn_))), Or.elim hk_ (fun hs_ => hs_.2) (fun hn_ => (Kd.freshB (g := gb391) (o := .cells #[.int .u8 x392000_1, .slice none 0 0] 67 (0, 0)) (HW.zB BK391.out) k_ hn_))⟩)) (below_size HW.zb)); have HO408 := Aside0.mk (Kd.V_lower (Kd.V_mono (ok' := fun k_ => (P0_ k_ ∨ w.heap.size ≤ k_) ∧ k_ ≠ gb391) ho1 (fun k_ hk_ => ⟨Or.elim hk_ (fun hs_ => hs_.1) (fun hn_ => (.inr (Nat.le_trans (below_size HW.zb) hn_))), Or.elim hk_ (fun hs_ => hs_.2) (fun hn_ => (Kd.freshB (g := gb391) (o := .cells #[.int .u8 x392000_1, .slice none 0 0] 67 (0, 0)) (HW.zB BK391.out) k_ hn_))⟩)) (below_size HW.zb)); replace BK391 := Aside0.mk (blk_below (HW.zB BK391.out) hb); replace HB := Aside0.mk (below_step HW.zb hb); (try clear hb); (try clear ho0); (try clear ho1); obtain ⟨Ao18, co18, eo18⟩ := Kd.V_slice HO405.out; subst eo18))
        replace HO_7 := Aside0.mk (Kd.V_drew HO_7.out); replace HO405 := Aside0.mk (Kd.V_drew HO405.out); replace HO408 := Aside0.mk (Kd.V_drew HO408.out); replace BK391 := Aside0.mk (blk_drew BK391.out); replace HB := Aside0.mk (below_drew1 HB.out)
        have p419 : 0 ≤ (0 : Int) := (by omega)
        have q419 : 0 < (l1.length : Int) := HW.od
        obtain ⟨ad419, e419, hx419_0⟩ := Kd.at_string HR1.out 0 p419 q419; have hw419_0 := hx419_0
        (try rw [show ((0 : Int)).toNat = 0 from rfl] at hw419_0)
        (try rw [show 0 * 1 = 0 from rfl] at hw419_0)
        (try rw [Addr.add_zero'] at hw419_0)
        cases e419
        have qi419 : (0 < l1.length) = True := eq_true (by omega)
        (try rw [show ((0 : Int)).toNat = 0 from rfl] at hx419_0)
        (try rw [Addr.add_zero'] at hx419_0)
        replace hx419_0 := (HB.out.cell (World.block_lt_of_cell? w _ hx419_0)).trans hx419_0; replace p419 := eq_true p419; replace q419 := eq_true q419
        refine start_ (n := 7) (S := fun w' => w'.cell? ad419 = some (.string (rdOf ByteArray.empty l1 0))) (ds := []) #[ff,ff,ff,ff,ff,ff,ff] (by kernel_rfl) rfl rfl (((HB.out.cell (World.block_lt_of_cell? w _ hw419_0)).trans hw419_0)) (fun hHeld => ?_)
        generalize w17.drew = w19 at HO_7 HO405 HO408 BK391 HB hx419_0 hHeld ⊢
        refine HW.pz (i := 0) (N := some 55) #[tt,ff,ff,ff,ff,ff,ff] ?_
        refine HW.pz (i := 3) (N := some 58) #[tt,ff,ff,tt,ff,ff,ff] ?_
        refine HW.pz (i := 4) (N := some 59) #[tt,ff,ff,tt,tt,ff,ff] ?_
        refine take_ (i := 5) (N := some 60) (v := ?_) (a' := ?_) #[tt,ff,ff,tt,tt,tt,ff] rfl rfl (by kernel_rfl) (fun _ _ _ h => h) (Or.inl ⟨by rfl, ?_⟩) hHeld ?_ ?_
        rotate_left
        · intro w' s0
          go_simp
          with_reducible rfl
        rotate_left
        · exact HW.pt
        refine one_ (i := 1) (N := some 56) #[tt,tt,ff,tt,tt,tt,ff] rfl rfl (by kernel_rfl) (by decide) (fun K hK => ?_)
        refine goes_ Tryz.func77 (by kernel_rfl) rfl #[.slice Ao18 t403.length co18] (by rfl) rfl rfl HW.mt ?_
        with_reducible refine (bsoncore_Element_KeyBytes.calls (fun k_ => ((P0_ k_ ∨ w.heap.size ≤ k_) ∧ k_ ≠ gb391)) _ _ t403 t416 _ ?side1 A11.out).mono ?_
        (case side1 => exact HO405.out)
        rintro e w20 ⟨v417, rfl, ho0, hb⟩
        refine ⟨_, rfl, ?_⟩
        replace HO405 := Aside0.mk (Kd.V_below (HW.zV HO405.out) hb); have HO418 := Aside0.mk (Kd.V_lower (Kd.V_mono (ok' := fun k_ => (P0_ k_ ∨ w.heap.size ≤ k_) ∧ k_ ≠ gb391) ho0 (fun k_ hk_ => ⟨Or.elim hk_ (fun hs_ => hs_.1) (fun hn_ => (.inr (Nat.le_trans (below_size HW.zb) hn_))), Or.elim hk_ (fun hs_ => hs_.2) (fun hn_ => (Kd.freshB (g := gb391) (o := .cells #[.int .u8 x392000_1, .slice none 0 0] 67 (0, 0)) (HW.zB BK391.out) k_ hn_))⟩)) (below_size HW.zb)); replace BK391 := Aside0.mk (blk_below (HW.zB BK391.out) hb); replace HB := Aside0.mk (below_step HW.zb hb)
        (try clear hb)
        (try clear hk)
        (try clear ho0)
        refine hK.out _ _ (((HB.out.cell (World.block_lt_of_cell? w _ hw419_0)).trans hw419_0)) (fun hHeld => ?_)
        clear hK K
        refine HW.nz (N := (some 56)) ?_
        refine one_ (i := 2) (N := some 57) #[tt,tt,tt,tt,tt,tt,ff] rfl rfl (by kernel_rfl) (by decide) (fun K hK => ?_)
        have hcv21 := HW.V_string (P := Tryz.prog) Tryz.underlying22 Tryz.underlying5 Tryz.underlying9 (HO418.out)
        refine value_ (w1 := ?_) (v := ?_) (by rfl) rfl ?_ ?_
        rotate_left 2
        · go_simp
          constructor
          · rfl
          rfl
        clear hcv21
        refine hK.out _ _ (((HB.out.cell (World.block_lt_of_cell? w _ hw419_0)).trans hw419_0)) (fun hHeld => ?_)
        clear hK K
        refine HW.nz (N := (some 57)) ?_
        refine HW.pz (i := 6) (N := some 61) #[tt,tt,tt,tt,tt,tt,tt] ?_
        refine done_ (by kernel_rfl) ?_
        try go_wp2_with (first | ((with_reducible refine gate_callee (f := 81) rfl ?_); refine HW.gz (some 108) rfl rfl Tryz.func81 (by kernel_rfl) rfl #[.slice Ao18 t403.length co18] rfl ?_; (with_reducible refine (bsoncore_Element_ValueErr.calls k1 (fun k_ => ((P0_ k_ ∨ w.heap.size ≤ k_) ∧ k_ ≠ gb391)) _ _ t403 t420 t421 t424 _ ?side1 A15.out).mono ?_); (case side1 => exact HO405.out); rintro e w22 ⟨v422, rfl, ho0, hb⟩; refine ⟨_, rfl, ?_⟩; have HO423 := Aside0.mk (Kd.V_lower (Kd.V_mono (ok' := fun k_ => (P0_ k_ ∨ w.heap.size ≤ k_) ∧ k_ ≠ gb391) ho0 (fun k_ hk_ => ⟨Or.elim hk_ (fun hs_ => hs_.1) (fun hn_ => (.inr (Nat.le_trans (below_size HW.zb) hn_))), Or.elim hk_ (fun hs_ => hs_.2) (fun hn_ => (Kd.freshB (g := gb391) (o := .cells #[.int .u8 x392000_1, .slice none 0 0] 67 (0, 0)) (HW.zB BK391.out) k_ hn_))⟩)) (below_size HW.zb)); replace BK391 := Aside0.mk (blk_below (HW.zB BK391.out) hb); replace HB := Aside0.mk (below_step HW.zb hb); (try clear hb); (try clear ho0); (try simp only [errW_none, errW_some]); obtain ⟨hcz23_0, hcz23_1, hfz24_0, hfz24_1⟩ := HW.k2f BK391.out; obtain ⟨Ao25, co25, eo25⟩ := Kd.V_slice HO423.out; subst eo25))
        refine bodyPost_ret (results_ct rfl _ _ gb391 67 #[.int .u8 t420, .slice Ao25 t421.length co25] (0, 0) _ rfl (by (with_reducible repeat (first | refine blk_drewN ?_ _ | refine blk_drew ?_ | refine blk_alloc ?_ _)); refine blk_put (cs := #[.int .u8 t420, .slice none 0 0]) ?_ 1 _ rfl; (with_reducible repeat (first | refine blk_drewN ?_ _ | refine blk_drew ?_ | refine blk_alloc ?_ _)); refine blk_put (cs := #[.int .u8 x392000_1, .slice none 0 0]) ?_ 0 _ rfl; exact HW.zB BK391.out) Tryz.underlying67 rfl (by kernel_rfl)) rfl ?_
        exact ⟨_, rfl, by (with_reducible repeat (first | apply Kd.V_alloc | apply Kd.V_drewN | apply Kd.V_drew)); exact Kd.V_mono (Kd.V_far (p := ⟨gb391, 1, none⟩) (Kd.V_far (p := ⟨gb391, 0, none⟩) (Kd.V_mono HO423.out (fun k_ hk => (⟨hk, hk.2⟩ : _ ∧ k_ ≠ gb391))) (fun _ hk => hk.2) (.int .u8 t420)) (fun _ hk => hk.2) (.slice Ao25 t421.length co25)) (fun _ hk => hk.1.1), HW.zb⟩
def impl_Lookup.f (k : Nat) (l0 : List Int) (l1 : List ByteArray) : Option (Int × List Int × Int) := (bsoncore_Document_LookupErr.f k l0 l1).bind fun bt426 => ((impl_raw.f bt426.1 bt426.2.1).bind fun bt432 => ((impl_code.f bt426.2.2).bind fun t436 => (some (bt432.1, bt432.2, t436))))
theorem impl_Lookup.mono : ∀ a0 a1 k, LeO (impl_Lookup.f k a0 a1) (impl_Lookup.f (k + 1) a0 a1) := by
  intro a0 a1 k
  unfold impl_Lookup.f
  have m0_ := @bsoncore_Document_LookupErr.mono; exact HW.mo
theorem impl_Lookup.calls (k : Nat) (A0 : Option Addr) (c0 : Nat) (l0 : List Int) (A1 : Option Addr) (c1 : Nat) (l1 : List ByteArray) (r1 : Int) (r2 : List Int) (r3 : Int) (w : World) (hr0 : Kd.C (Kd.int .u8) w A0 l0.length l0) (hc0 : l0.length ≤ c0) (hr1 : Kd.C Kd.string w A1 l1.length l1) (hc1 : l1.length ≤ c1) (h : impl_Lookup.f k l0 l1 = some (r1, r2, r3)) :
    Calls Tryz.prog 18 #[.slice A0 l0.length c0, .slice A1 l1.length c1] w fun e w' => ∃ v1_ : Value, e = .returned (.tuple #[.agg #[.int .i64 r1, v1_], .int .i64 r3]) ∧ Kd.R (Kd.int .u8) 5 w' w.heap.size (fun _ => True) v1_ r2 ∧ Below w.heap.size w w' := by
  have hu25 := Tryz.underlying25; have hu67 := Tryz.underlying67; have HR0 := Aside0.mk hr0; have HC0 := Aside0.mk hc0; clear hr0 hc0; have HR1 := Aside0.mk hr1; have HC1 := Aside0.mk hc1; clear hr1 hc1; have HB := Aside0.mk (Below.refl w.heap.size w); have H : ((bsoncore_Document_LookupErr.f k l0 l1).bind fun bt426 => ((impl_raw.f bt426.1 bt426.2.1).bind fun bt432 => ((impl_code.f bt426.2.2).bind fun t436 => (some (bt432.1, bt432.2, t436))))) = some (r1, r2, r3) := h; clear h; replace H := Option.bind_eq_some_iff.mp H; obtain ⟨⟨t426, t427, t430⟩, A30, H⟩ := H; replace H : ((impl_raw.f t426 t427).bind fun bt432 => ((impl_code.f t430).bind fun t436 => (some (bt432.1, bt432.2, t436)))) = some (r1, r2, r3) := H; have A3 := Aside0.mk A30; clear A30; replace H := Option.bind_eq_some_iff.mp H; obtain ⟨⟨t432, t433⟩, A40, H⟩ := H; replace H : ((impl_code.f t430).bind fun t436 => (some (t432, t433, t436))) = some (r1, r2, r3) := H; have A4 := Aside0.mk A40; clear A40; replace H := Option.bind_eq_some_iff.mp H; obtain ⟨t436, A50, H⟩ := H; replace H : (some (t432, t433, t436)) = some (r1, r2, r3) := H; have A5 := Aside0.mk A50; clear A50
  as_aux_lemma =>
    simp only [Option.some.injEq, Prod.mk.injEq] at H
    obtain ⟨rfl, rfl, rfl⟩ := H
    go_enter Tryz.func18, Tryz.ntmps18
    go_wp2_with (first | ((with_reducible refine gate_dst (N := 4) rfl ?_); refine box_event ?hg (N := 4) ?hd (cs := #[.int .i64 0, .slice none 0 0]) (t := 25) ?hr ?_; (case hd => rfl); (case hg => rfl); (case hr => first | (go_simp; done) | (go_simp; rfl)); intro gb425 hg w6 hbox hb; have n0_ := Aside0.mk (below_step HW.zb hb); have n1_ := Aside0.mk (hbox); have n2_ := Aside0.mk ((by rw [hg]; exact (below_size HW.zb) : w.heap.size ≤ gb425)); have n3_ := Aside0.mk ((by rw [hg]; exact (below_size HW.zb) : w.heap.size ≤ gb425)); clear HB; have HB := n0_; have BK425 := n1_; have GW425 := n2_; have GE425 := n3_; clear n0_ n1_ n2_ n3_; clear hb hbox hg) | ((with_reducible refine gate_callee (f := 35) rfl ?_); refine HW.gz (some 11) rfl rfl Tryz.func35 (by kernel_rfl) rfl #[.slice A0 l0.length c0, .slice A1 l1.length c1] rfl ?_; (with_reducible refine (bsoncore_Document_LookupErr.calls k (fun k_ => k_ < w.heap.size) _ _ l0 _ _ l1 t426 t427 t430 _ ?side1 ?side2 ?side3 A3.out).mono ?_); (case side1 => exact Kd.V_mk HC0.out (Kd.F_below (Kd.C_F (Kd.heap_int .u8) HR0.out) HW.zb)); (case side2 => repeat (first | exact (Kd.C_below HR1.out HB.out) | (with_reducible refine Kd.C_alloc ?_ _) | (with_reducible refine Kd.C_drewN ?_ _) | (with_reducible refine Kd.C_drew ?_))); (case side3 => exact HC1.out); rintro e w7 ⟨v428, rfl, ho0, hb⟩; refine ⟨_, rfl, ?_⟩; have n0_ := Aside0.mk (Kd.V_lower (Kd.V_mono (ok' := fun k_ => k_ ≠ gb425) ho0 (fun k_ hk_ => Or.elim hk_ (fun hs_ => fun e_ => Nat.not_le.2 hs_ (by rw [e_]; exact GW425.out)) (fun hn_ => (Kd.freshB (g := gb425) (o := .cells #[.int .i64 0, .slice none 0 0] 25 (0, 0)) (HW.zB BK425.out) k_ hn_)))) (below_size HW.zb)); have n1_ := Aside0.mk (blk_below (HW.zB BK425.out) hb); have n2_ := Aside0.mk (below_step HW.zb hb); clear BK425; clear HB; have HO429 := n0_; have BK425 := n1_; have HB := n2_; clear n0_ n1_ n2_; (try clear hb); (try clear ho0); (try simp only [errW_none, errW_some])) | ((with_reducible refine gate_dst (N := 6) rfl ?_); refine box_event ?hg (N := 6) ?hd (cs := #[.int .u8 0, .slice none 0 0]) (t := 67) ?hr ?_; (case hd => rfl); (case hg => rfl); (case hr => first | (go_simp; done) | (go_simp; rfl)); intro gb431 hg w8 hbox hb; have n0_ := Aside0.mk (Kd.V_below (Kd.V_elderB (HW.zV HO429.out) gb431 (Nat.le_of_eq hg.symm)) hb); have n1_ := Aside0.mk (blk_below (HW.zB BK425.out) hb); have n2_ := Aside0.mk (below_step HW.zb hb); have n3_ := Aside0.mk (hbox); have n5_ := Aside0.mk ((by rw [hg]; exact (below_size HW.zb) : w.heap.size ≤ gb431)); have n6_ := Aside0.mk ((by rw [hg]; exact Nat.ne_of_lt (blk_lt (g := gb425) (o := .cells #[.int .i64 0, .slice none 0 0] 25 (0, 0)) (HW.zB BK425.out)) : gb425 ≠ gb431)); have n7_ := Aside0.mk ((by rw [hg]; exact Nat.ne_of_gt (blk_lt (g := gb425) (o := .cells #[.int .i64 0, .slice none 0 0] 25 (0, 0)) (HW.zB BK425.out)) : gb431 ≠ gb425)); clear HO429; clear BK425; clear HB; have HO429 := n0_; have BK425 := n1_; have HB := n2_; have BK431 := n3_; have GE431 := n5_; have NB425_431 := n6_; have NB431_425 := n7_; clear n0_ n1_ n2_ n3_ n5_ n6_ n7_; clear hb hbox hg; have hnb9 := NB431_425.out; have hnc9 := NB425_431.out; obtain ⟨hcz10_0, hcz10_1, hfz11_0, hfz11_1⟩ := HW.k2f BK431.out; obtain ⟨Ao12, co12, eo12⟩ := Kd.V_slice HO429.out; subst eo12) | ((with_reducible refine gate_callee (f := 26) rfl ?_); refine HW.gz (some 15) rfl rfl Tryz.func26 (by kernel_rfl) rfl #[.agg #[.int .u8 t426, .slice Ao12 t427.length co12]] rfl ?_; (with_reducible refine (impl_raw.calls t426 _ _ t427 t432 t433 _ ?side1 ?side2 A4.out).mono ?_); (case side1 => refine (Kd.V_reads' (e := 5) (base := w.heap.size) (ok := fun k_ => (k_ ≠ gb425 ∧ k_ ≠ gb431)) (n := t427.length) (c := co12) ?_).2.2; exact (by (with_reducible repeat (first | apply Kd.V_alloc | apply Kd.V_drewN | apply Kd.V_drew)); exact (Kd.V_mono (Kd.V_far (p := ⟨gb431, 1, none⟩) (Kd.V_far (p := ⟨gb431, 0, none⟩) (Kd.V_mono HO429.out (fun k_ hk => (⟨hk, hk.2⟩ : _ ∧ k_ ≠ gb431))) (fun _ hk => hk.2) (.int .u8 t426)) (fun _ hk => hk.2) (.slice Ao12 t427.length co12)) (fun _ h_ => h_.1)))); (case side2 => exact (Kd.V_reads' HO429.out).2.1); rintro e w13 ⟨v434, rfl, ho0, hb⟩; refine ⟨_, rfl, ?_⟩; have n1_ := Aside0.mk (Kd.R_lower ho0 (below_size HW.zb)); have n2_ := Aside0.mk (blk_below (g := gb425) (o := .cells #[.int .i64 0, .slice none 0 0] 25 (0, 0)) (by (with_reducible repeat (first | refine blk_drewN ?_ _ | refine blk_drew ?_ | refine blk_alloc ?_ _)); refine blk_far ?_ NB425_431.out _; (with_reducible repeat (first | refine blk_drewN ?_ _ | refine blk_drew ?_ | refine blk_alloc ?_ _)); refine blk_far ?_ NB425_431.out _; exact HW.zB BK425.out) hb); have n4_ := Aside0.mk (below_step HW.zb hb); clear BK425; clear HB; have HO435 := n1_; have BK425 := n2_; have HB := n4_; clear n1_ n2_ n4_; (try clear hb); (try clear ho0); have CA5 := fun W => impl_code.calls t430 t436 W A5.out; try simp only [errW_none, errW_some] at CA5) | (go_at_call 24; (with_reducible refine (CA5 _).mono ?_); rintro e w14 ⟨rfl, hb⟩; replace HO435 := Aside0.mk (Kd.R_below (HW.zR HO435.out) hb); replace BK425 := Aside0.mk (blk_below (HW.zB BK425.out) hb); replace HB := Aside0.mk (below_step HW.zb hb); (try clear hb); obtain ⟨hcz15_0, hcz15_1, hfz16_0, hfz16_1⟩ := HW.k2f BK425.out; obtain ⟨Ao17, co17, eo17⟩ := Kd.R_slice HO435.out; subst eo17))
    refine bodyPost_ret (results_ct rfl _ _ gb425 25 #[.int .i64 t432, .slice Ao17 t433.length co17] (0, 0) _ rfl (by (with_reducible repeat (first | refine blk_drewN ?_ _ | refine blk_drew ?_ | refine blk_alloc ?_ _)); refine blk_put (cs := #[.int .i64 t432, .slice none 0 0]) ?_ 1 _ rfl; (with_reducible repeat (first | refine blk_drewN ?_ _ | refine blk_drew ?_ | refine blk_alloc ?_ _)); refine blk_put (cs := #[.int .i64 0, .slice none 0 0]) ?_ 0 _ rfl; exact HW.zB BK425.out) Tryz.underlying25 rfl (by kernel_rfl)) rfl ?_
    exact ⟨_, rfl, by (with_reducible repeat (first | apply Kd.R_alloc | apply Kd.R_drewN | apply Kd.R_drew)); exact Kd.R_mono (Kd.R_far (p := ⟨gb425, 1, none⟩) (Kd.R_far (p := ⟨gb425, 0, none⟩) (Kd.R_types HO435.out BK425.out (by decide)) (fun _ hk => hk.2) (.int .i64 t432)) (fun _ hk => hk.2) (.slice Ao17 t433.length co17)) (fun _ hk => trivial), HW.zb⟩
def errors_New.f (a0 : ByteArray) : Option (Option Int) := none
theorem errors_New.calls (a0 : ByteArray) (r : Option Int) (w : World) (h : errors_New.f a0 = some r) :
    Calls Tryz.prog 153 #[.string a0] w fun e w' => e = .returned (errW r) ∧ Below w.heap.size w w' := by
  have hu262 := Tryz.underlying262; have hu59 := Tryz.underlying59; have HB := Aside0.mk (Below.refl w.heap.size w); have H : (none) = some r := h; clear h
  exact absurd H (by simp)
def put4 (l : List Int) (i : Nat) (v : Int) : List Int := (((l.set i (v % 256)).set (i + 1) (v / 256 % 256)).set (i + 2) (v / 65536 % 256)).set (i + 3) (v / 16777216)
def bsoncore_UpdateLength.f (l0 : List Int) (a1 : Int) (a2 : Int) : Option (List Int) := if 0 ≤ a1 then (if a1 + 4 ≤ (l0.length : Int) then (some (put4 l0 a1.toNat (a2 % 4294967296))) else none) else none
theorem put32_calls (g o n c : Nat) (v x0 x1 x2 x3 : Int) (w : World) (hn : 4 ≤ n) (hv0 : 0 ≤ v) (hv1 : v ≤ 4294967295)
    (c0 : w.cell? ⟨g, o, none⟩ = some (.int .u8 x0)) (c1 : w.cell? ⟨g, o + 1, none⟩ = some (.int .u8 x1)) (c2 : w.cell? ⟨g, o + 2, none⟩ = some (.int .u8 x2)) (c3 : w.cell? ⟨g, o + 3, none⟩ = some (.int .u8 x3))
    (f0 : w.frozen? ⟨g, o, none⟩ = false) (f1 : w.frozen? ⟨g, o + 1, none⟩ = false) (f2 : w.frozen? ⟨g, o + 2, none⟩ = false) (f3 : w.frozen? ⟨g, o + 3, none⟩ = false) :
    Calls Tryz.prog 206 #[.agg #[], .slice (some ⟨g, o, none⟩) n c, .int .u32 v] w fun e w' => e = .returned (.tuple #[]) ∧
      w' = ((((w.alloc (.cells #[] 227)).setCell ⟨g, o, none⟩ (.int .u8 (v % 256))).setCell ⟨g, o + 1, none⟩ (.int .u8 (v / 256 % 256))).setCell ⟨g, o + 2, none⟩ (.int .u8 (v / 65536 % 256))).setCell ⟨g, o + 3, none⟩ (.int .u8 (v / 16777216)) := by
  have q0 : (0 < n) = True := eq_true (by omega)
  have q1 : (1 < n) = True := eq_true (by omega)
  have q2 : (2 < n) = True := eq_true (by omega)
  have q3 : (3 < n) = True := eq_true (by omega)
  have r1 : ((1 : Int) < (n : Int)) = True := eq_true (by omega)
  have r2 : ((2 : Int) < (n : Int)) = True := eq_true (by omega)
  have r3 : ((3 : Int) < (n : Int)) = True := eq_true (by omega)
  have d0 : (w.alloc (.cells #[] 227)).cell? ⟨g, o, none⟩ = some (.int .u8 x0) := pw_cell_below (below_alloc (Below.refl _ _) _) c0; have e0 : (w.alloc (.cells #[] 227)).frozen? ⟨g, o, none⟩ = false := ((below_alloc (Below.refl _ _) _).frozen (p := ⟨g, o, none⟩) (World.block_lt_of_cell? w _ c0)).trans f0; have d1 : (w.alloc (.cells #[] 227)).cell? ⟨g, o + 1, none⟩ = some (.int .u8 x1) := pw_cell_below (below_alloc (Below.refl _ _) _) c1; have e1 : (w.alloc (.cells #[] 227)).frozen? ⟨g, o + 1, none⟩ = false := ((below_alloc (Below.refl _ _) _).frozen (p := ⟨g, o + 1, none⟩) (World.block_lt_of_cell? w _ c1)).trans f1; have d2 : (w.alloc (.cells #[] 227)).cell? ⟨g, o + 2, none⟩ = some (.int .u8 x2) := pw_cell_below (below_alloc (Below.refl _ _) _) c2; have e2 : (w.alloc (.cells #[] 227)).frozen? ⟨g, o + 2, none⟩ = false := ((below_alloc (Below.refl _ _) _).frozen (p := ⟨g, o + 2, none⟩) (World.block_lt_of_cell? w _ c2)).trans f2; have d3 : (w.alloc (.cells #[] 227)).cell? ⟨g, o + 3, none⟩ = some (.int .u8 x3) := pw_cell_below (below_alloc (Below.refl _ _) _) c3; have e3 : (w.alloc (.cells #[] 227)).frozen? ⟨g, o + 3, none⟩ = false := ((below_alloc (Below.refl _ _) _).frozen (p := ⟨g, o + 3, none⟩) (World.block_lt_of_cell? w _ c3)).trans f3
  go_enter Tryz.func206, Tryz.ntmps206
  go_wp2
  go_end0
  exact ⟨rfl, rfl⟩
theorem put4_world {w0 w : World} {e : Nat} {ok S : Nat → Prop} {g n cap j : Nat} {xs : List Int} (o : Obj) (b0 b1 b2 b3 : Int) (h : (Kd.int .u8).R e w w0.heap.size ok (.slice (some ⟨g, 0, none⟩) n cap) xs) (hB : Below w0.heap.size w0 w) (hg : w0.heap.size ≤ g) (hS : S g) :
    (Kd.int .u8).R e (((((w.alloc o).setCell ⟨g, j, none⟩ (.int .u8 b0)).setCell ⟨g, j + 1, none⟩ (.int .u8 b1)).setCell ⟨g, j + 2, none⟩ (.int .u8 b2)).setCell ⟨g, j + 3, none⟩ (.int .u8 b3)).drew w0.heap.size ok (.slice (some ⟨g, 0, none⟩) n cap) ((((xs.set j b0).set (j + 1) b1).set (j + 2) b2).set (j + 3) b3) ∧
    Below w0.heap.size w0 (((((w.alloc o).setCell ⟨g, j, none⟩ (.int .u8 b0)).setCell ⟨g, j + 1, none⟩ (.int .u8 b1)).setCell ⟨g, j + 2, none⟩ (.int .u8 b2)).setCell ⟨g, j + 3, none⟩ (.int .u8 b3)).drew ∧
    Kept w (((((w.alloc o).setCell ⟨g, j, none⟩ (.int .u8 b0)).setCell ⟨g, j + 1, none⟩ (.int .u8 b1)).setCell ⟨g, j + 2, none⟩ (.int .u8 b2)).setCell ⟨g, j + 3, none⟩ (.int .u8 b3)).drew S := by
  refine ⟨?_, ?_, ?_⟩
  · refine Kd.R_drew ?_
    have p0 := Kd.R_putn (enc := Value.int .u8) (h1 := fun _ => rfl) (Kd.R_alloc h o) (j : Int) b0; have p1 := Kd.R_putn (enc := Value.int .u8) (h1 := fun _ => rfl) p0 ((j + 1 : Nat) : Int) b1; have p2 := Kd.R_putn (enc := Value.int .u8) (h1 := fun _ => rfl) p1 ((j + 2 : Nat) : Int) b2
    exact Kd.R_putn (enc := Value.int .u8) (h1 := fun _ => rfl) p2 ((j + 3 : Nat) : Int) b3
  · exact below_drew (below_set (below_set (below_set (below_set (hB.alloc hB.size o) hg) hg) hg) hg)
  exact Kept.drew (Kept.setCell (Kept.setCell (Kept.setCell (Kept.setCell (Kept.alloc (Kept.refl _ _) o) (p := ⟨g, j, none⟩) (.inl hS) _) (p := ⟨g, j + 1, none⟩) (.inl hS) _) (p := ⟨g, j + 2, none⟩) (.inl hS) _) (p := ⟨g, j + 3, none⟩) (.inl hS) _)
theorem bsoncore_UpdateLength.calls (P0_ : Nat → Prop) (u9000_ : Value) (l0 : List Int) (a1 : Int) (a2 : Int) (r : List Int) (w0 w : World) (hB : Below w0.heap.size w0 w) (ho0 : Kd.R (Kd.int .u8) 5 w w0.heap.size P0_ u9000_ l0) (h : bsoncore_UpdateLength.f l0 a1 a2 = some r) :
    Calls Tryz.prog 154 #[u9000_, .int .i32 a1, .int .i32 a2] w fun e w' => ∃ v0_ : Value, e = .returned (v0_) ∧ Kd.R (Kd.int .u8) 5 w' w0.heap.size (fun k_ => (P0_ k_ ∨ w.heap.size ≤ k_)) v0_ r ∧ Below w0.heap.size w0 w' ∧ Kept w w' (fun k_ => P0_ k_) := by
  have hh : (0 ≤ a1 ∧ a1 + 4 ≤ (l0.length : Int)) ∧ r = put4 l0 a1.toNat (a2 % 4294967296) := by
    unfold bsoncore_UpdateLength.f at h
    by_cases h0 : 0 ≤ a1
    rotate_left
    · rw [if_neg h0] at h; cases h
    rw [if_pos h0] at h
    by_cases h1 : a1 + 4 ≤ (l0.length : Int)
    · rw [if_pos h1] at h
      exact ⟨⟨h0, h1⟩, (Option.some.inj h).symm⟩
    rw [if_neg h1] at h; cases h
  obtain ⟨⟨h0, h1⟩, rfl⟩ := hh; clear h; have hown := Kd.own_of_R (enc := Value.int .u8) (h1 := fun _ => rfl) ho0
  have hform : ∃ g cap, u9000_ = .slice (some ⟨g, 0, none⟩) l0.length cap ∧ l0.length ≤ cap := by
    rcases hown.2 with ⟨_, hz⟩ | ⟨g, cap, cur, hv, _, _, hc, _⟩
    · omega
    exact ⟨g, cap, hv, hc⟩
  obtain ⟨g, cap, rfl, hcap⟩ := hform
  obtain ⟨j, rfl⟩ : ∃ j : Nat, a1 = (j : Int) := ⟨a1.toNat, by omega⟩
  obtain ⟨i0, hi0, hz0⟩ := Option.map_eq_some_iff.1 info5
  simp only [Prod.mk.injEq] at hz0
  have hcut := cut_from (P := Tryz.prog) 22 5 .i32 Tryz.underlying22 hi0 1 hz0.2.1 (some ⟨g, 0, none⟩) l0.length cap (j : Int) (by omega) (by omega)
  have hne : ¬ (cap = (j : Int).toNat) := by omega
  rw [if_neg hne] at hcut
  have hadd : ((some ⟨g, 0, none⟩ : Option Addr).map (·.add ((j : Int).toNat * 1))) = some ⟨g, j, none⟩ := by
    show some ((⟨g, 0, none⟩ : Addr).add ((j : Int).toNat * 1)) = _
    rw [add_plain]
    simp
  rw [hadd] at hcut
  simp only [Int.toNat_natCast] at hcut
  have hat : ∀ i : Nat, i < 4 → w.cell? ⟨g, j + i, none⟩ = some (.int .u8 (rd l0 ((j + i : Nat) : Int))) ∧ w.frozen? ⟨g, j + i, none⟩ = false := by
    intro i hi
    have := own_at (k := .u8) (xs := l0) hown ((j + i : Nat) : Int) (by omega) (by omega)
    rw [Int.toNat_natCast] at this
    exact this
  have c0 := (hat 0 (by omega)).1
  have f0 := (hat 0 (by omega)).2
  have c1 := (hat 1 (by omega)).1
  have f1 := (hat 1 (by omega)).2
  have c2 := (hat 2 (by omega)).1
  have f2 := (hat 2 (by omega)).2
  have c3 := (hat 3 (by omega)).1
  have f3 := (hat 3 (by omega)).2
  have HO := Aside0.mk ho0; have HB := Aside0.mk hB; have HG := Aside0.mk (own_base hown g rfl); clear hat hne hadd hown hz0 ho0 hB
  go_enter Tryz.func154, Tryz.ntmps154
  go_wp2
  go_still_tail 6, (by kernel_rfl)
  change wpList _ _ _ _ _ w.drew
  have hwr : IntKind.u32.wrap a2 = a2 % 4294967296 := by simp [IntKind.wrap, IntKind.bits, IntKind.signed]
  rw [hwr]
  go_wp2_with (go_at_call 206; refine (put32_calls g j (l0.length - j) (cap - j) (a2 % 4294967296) _ _ _ _ w.drew (by omega) (by omega) (by omega) c0 c1 c2 c3 f0 f1 f2 f3).mono ?_; rintro e w' ⟨rfl, rfl⟩)
  go_ret
  have hmm : a2 % 256 = a2 % 4294967296 % 256 := by omega
  rw [hmm]; obtain ⟨pR, pB, pK⟩ := put4_world (j := j) (S := fun k_ => P0_ k_) (.cells #[] 227) (a2 % 4294967296 % 256) (a2 % 4294967296 / 256 % 256) (a2 % 4294967296 / 65536 % 256) (a2 % 4294967296 / 16777216) HO.out HB.out HG.out (HO.out.1 g rfl)
  exact ⟨_, rfl, Kd.R_mono pR (fun _ h => .inl h), pB, pK⟩
def bsoncore_AppendDocumentEnd.f (l0 : List Int) (a1 : Int) : Option (List Int × Option Int) := if (wrap64 (a1)) > (wrap64 ((l0.length : Int) - 4)) then ((errors_New.f (⟨#[110, 111, 116, 32, 101, 110, 111, 117, 103, 104, 32, 98, 121, 116, 101, 115, 32, 97, 118, 97, 105, 108, 97, 98, 108, 101, 32, 97, 102, 116, 101, 114, 32, 105, 110, 100, 101, 120, 32, 116, 111, 32, 119, 114, 105, 116, 101, 32, 108, 101, 110, 103, 116, 104]⟩ : ByteArray)).bind fun t438 => (some (l0, t438))) else (if l0.length < 140737488355328 then ((some (l0 ++ [0] : List Int)).bind fun y439 => (if 0 ≤ a1 then (if a1 ≤ (y439.length : Int) then ((bsoncore_UpdateLength.f y439 a1 (wrap32 (((y439.drop (a1 : Int).toNat).length : Int)))).bind fun t446 => (some (t446, none))) else (none)) else (none))) else (none))
theorem bsoncore_AppendDocumentEnd.calls (P0_ : Nat → Prop) (u9000_ : Value) (l0 : List Int) (a1 : Int) (r1 : List Int) (r2 : Option Int) (w0 w : World) (hB : Below w0.heap.size w0 w) (ho0 : Kd.R (Kd.int .u8) 5 w w0.heap.size P0_ u9000_ l0) (h : bsoncore_AppendDocumentEnd.f l0 a1 = some (r1, r2)) :
    Calls Tryz.prog 112 #[u9000_, .int .i32 a1] w fun e w' => ∃ v0_ : Value, e = .returned (.tuple #[v0_, errW r2]) ∧ Kd.R (Kd.int .u8) 5 w' w0.heap.size (fun k_ => (P0_ k_ ∨ w.heap.size ≤ k_)) v0_ r1 ∧ Below w0.heap.size w0 w' ∧ Kept w w' (fun k_ => P0_ k_) := by
  have HO0 := Aside0.mk (show Kd.R (Kd.int .u8) 5 w w0.heap.size (fun k_ => (P0_ k_ ∨ w.heap.size ≤ k_)) u9000_ l0 from Kd.R_mono ho0 (fun k_ hk => (.inl hk))); have HK := Aside0.mk (Kept.refl w (fun k_ => P0_ k_)); have HW0 := Aside0.mk hB.size; have HB := Aside0.mk hB; clear hB
  have H : (if (wrap64 (a1)) > (wrap64 ((l0.length : Int) - 4)) then ((errors_New.f (⟨#[110, 111, 116, 32, 101, 110, 111, 117, 103, 104, 32, 98, 121, 116, 101, 115, 32, 97, 118, 97, 105, 108, 97, 98, 108, 101, 32, 97, 102, 116, 101, 114, 32, 105, 110, 100, 101, 120, 32, 116, 111, 32, 119, 114, 105, 116, 101, 32, 108, 101, 110, 103, 116, 104]⟩ : ByteArray)).bind fun t438 => (some (l0, t438))) else (if l0.length < 140737488355328 then ((some (l0 ++ [0] : List Int)).bind fun y439 => (if 0 ≤ a1 then (if a1 ≤ (y439.length : Int) then ((bsoncore_UpdateLength.f y439 a1 (wrap32 (((y439.drop (a1 : Int).toNat).length : Int)))).bind fun t446 => (some (t446, none))) else (none)) else (none))) else (none))) = some (r1, r2) := h
  clear h
  by_cases c3 : (wrap64 (a1)) > (wrap64 ((l0.length : Int) - 4))
  · rw [if_pos c3] at H
    have c3b0 : decide ((wrap64 ((l0.length : Int) - 4)) < (wrap64 (a1))) = true := decide_eq_true c3; clear c3; replace H := Option.bind_eq_some_iff.mp H; obtain ⟨t438, A40, H⟩ := H; replace H : (some (l0, t438)) = some (r1, r2) := H; have A4 := Aside0.mk A40; clear A40
    as_aux_lemma =>
      simp only [Option.some.injEq, Prod.mk.injEq] at H
      obtain ⟨rfl, rfl⟩ := H; obtain ⟨Ao5, co5, eo5⟩ := Kd.R_slice HO0.out; subst eo5
      go_enter Tryz.func112, Tryz.ntmps112
      go_wp2_with (first | ((with_reducible refine gate_callee (f := 153) rfl ?_); refine HW.gz (some 13) rfl rfl Tryz.func153 (by kernel_rfl) rfl #[.string (⟨#[110, 111, 116, 32, 101, 110, 111, 117, 103, 104, 32, 98, 121, 116, 101, 115, 32, 97, 118, 97, 105, 108, 97, 98, 108, 101, 32, 97, 102, 116, 101, 114, 32, 105, 110, 100, 101, 120, 32, 116, 111, 32, 119, 114, 105, 116, 101, 32, 108, 101, 110, 103, 116, 104]⟩ : ByteArray)] rfl ?_; (with_reducible refine (errors_New.calls (⟨#[110, 111, 116, 32, 101, 110, 111, 117, 103, 104, 32, 98, 121, 116, 101, 115, 32, 97, 118, 97, 105, 108, 97, 98, 108, 101, 32, 97, 102, 116, 101, 114, 32, 105, 110, 100, 101, 120, 32, 116, 111, 32, 119, 114, 105, 116, 101, 32, 108, 101, 110, 103, 116, 104]⟩ : ByteArray) t438 _ A4.out).mono ?_); rintro e w6 ⟨rfl, hb⟩; refine ⟨_, rfl, ?_⟩; replace HO0 := Aside0.mk (Kd.R_below (HW.zR HO0.out) hb); replace HK := Aside0.mk (Kept.below (S := (fun k_ => P0_ k_)) HW.zk hb); replace HB := Aside0.mk (below_step HW.zb hb); (try clear hb); (try simp only [errW_none, errW_some])))
      go_ret2
      exact ⟨_, rfl, HW.zR HO0.out, HW.zb, HW.zk⟩
  rw [if_neg c3] at H; have c3b0 : decide ((wrap64 ((l0.length : Int) - 4)) < (wrap64 (a1))) = false := decide_eq_false c3; clear c3
  by_cases c7 : l0.length < 140737488355328
  rotate_left
  · rw [if_neg c7] at H
    exact absurd H (by simp)
  rw [if_pos c7] at H; have LMc7 := Aside0.mk c7; clear c7; obtain ⟨y439, hy439⟩ : ∃ y_ : List Int, y_ = (l0 ++ [0]) := ⟨_, rfl⟩
  replace H : (if 0 ≤ a1 then (if a1 ≤ (y439.length : Int) then ((bsoncore_UpdateLength.f y439 a1 (wrap32 (((y439.drop (a1 : Int).toNat).length : Int)))).bind fun t446 => (some (t446, none))) else (none)) else (none)) = some (r1, r2) := by (try rw [hy439]); exact HW.rp
  have Ny439 := Aside0.mk hy439; clear hy439
  by_cases c8 : 0 ≤ a1
  rotate_left
  · rw [if_neg c8] at H
    exact absurd H (by simp)
  rw [if_pos c8] at H; have c8b0 := eq_true c8; have c8b1 : decide (0 ≤ a1) = true := decide_eq_true c8; clear c8
  by_cases c9 : a1 ≤ (y439.length : Int)
  rotate_left
  · rw [if_neg c9] at H
    exact absurd H (by simp)
  rw [if_pos c9] at H; have c9b0 := eq_true c9; have c9b1 : decide (a1 ≤ (y439.length : Int)) = true := decide_eq_true c9; clear c9; obtain ⟨y442, hy442⟩ : ∃ y_ : List Int, y_ = (y439.drop (a1 : Int).toNat) := ⟨_, rfl⟩
  replace H : ((bsoncore_UpdateLength.f y439 a1 (wrap32 ((y442.length : Int)))).bind fun t446 => (some (t446, none))) = some (r1, r2) := by (try rw [hy442]); exact HW.rp
  have Ny442 := Aside0.mk hy442; clear hy442; replace H := Option.bind_eq_some_iff.mp H; obtain ⟨t446, A100, H⟩ := H; replace H : (some (t446, none)) = some (r1, r2) := H; have A10 := Aside0.mk A100; clear A100
  as_aux_lemma =>
    simp only [Option.some.injEq, Prod.mk.injEq] at H
    obtain ⟨rfl, rfl⟩ := H; obtain ⟨Ao11, co11, eo11⟩ := Kd.R_slice HO0.out; subst eo11
    go_enter Tryz.func112, Tryz.ntmps112
    go_wp2_with (first | ((with_reducible refine gate_builtin (b := .append) (xs := #[.tmp 14, .tmp 15]) rfl ?_); at_builtin; refine Kd.R_append (Kd.int .u8) (w0 := w0) w0.heap.size rfl (.tmp 14) (.tmp 15) 22 5 (.int .u8 0) 1 rfl Tryz.underlying22 info5 rfl (by decide) (by omega) (.slice Ao11 l0.length co11) l0 0 [.int .u8 0] (fun k_ => (P0_ k_ ∨ w.heap.size ≤ k_)) (fun _ => False) rfl rfl ?aP (fun _ hk => hk.elim) ?aF ?aO ?aB ?aS ?aL ?_; (case aP => exact rfl); (case aB => exact HW.zb); (case aF => exact (fun k_ hk => (.inr (Nat.le_trans (HW.zk1 (w := w) (fun k_ => P0_ k_)) hk)))); (case aO => exact (HW.zR HO0.out)); (case aS => exact (below_size HW.zb)); (case aL => have := LMc7.out; omega); intro v440 w12 ho hb hg hat; rw [← Ny439.out] at ho; have n0_ := Aside0.mk (hb); have n1_ := Aside0.mk (Kept.of_grown (S := (fun k_ => P0_ k_)) hg HW.zk (fun k_ e_ => (HO0.out.1 k_ e_))); have n2_ := Aside0.mk (ho); clear HB; clear HK; clear HO0; have HB := n0_; have HK := n1_; have HO441 := n2_; clear n0_ n1_ n2_; clear ho hb hg hat; obtain ⟨Ao14, co14, eo14⟩ := Kd.R_slice HO441.out; subst eo14; have q13 : (a1 : Int) ≤ ((y439.length : Int) : Int) := HW.od; obtain ⟨i013, hi013, _, hsz13, _⟩ := info_parts info5; have hroom13 : y439.length ≤ co14 := (Kd.R_reads' HO441.out).2.1; have hC13 : Kd.C (Kd.int .u8) _ Ao14 y439.length y439 := (Kd.R_reads' HO441.out).2.2; have q013 : (0 : Int) ≤ (a1 : Int) := HW.od; have hcut13 := cut_from (P := Tryz.prog) 22 5 .i32 Tryz.underlying22 hi013 1 hsz13 Ao14 y439.length co14 a1 q013 q13; have hr13 := Kd.C_drop (m := (a1 : Int).toNat) (c := co14) hC13 (by omega) hroom13; obtain ⟨A13, hA13⟩ : ∃ A1, A1 = (if co14 = (a1 : Int).toNat then Ao14 else (Ao14 : Option Addr).map (·.add ((a1 : Int).toNat * 1))) := ⟨_, rfl⟩; obtain ⟨c13, hc13⟩ : ∃ c1, c1 = co14 - (a1 : Int).toNat := ⟨_, rfl⟩; have hy13 : y442.length = y439.length - (a1 : Int).toNat := (by rw [Ny442.out, List.length_drop] <;> omega); rw [show (y439).drop (a1 : Int).toNat = y442 from Ny442.out.symm] at hr13; replace hr13 : Kd.C (Kd.int .u8) _ A13 y442.length y442 := (by rw [hA13]; exact hr13); rw [← hy13, ← hA13, ← hc13] at hcut13; have HR445 := Aside0.mk hr13; have HC445 := Aside0.mk (show y442.length ≤ c13 from by rw [hy13, hc13]; exact Nat.sub_le_sub_right hroom13 _); clear hr13 hC13 hroom13 hi013 hsz13 hc13; have KY13 := Aside0.mk hy13; have KA13 := Aside0.mk hA13; clear hy13 hA13; have KL13 := Aside0.mk (show (a1 : Int).toNat ≤ y439.length from by omega); replace q13 := eq_true q13) | ((with_reducible refine gate_callee (f := 154) rfl ?_); refine HW.gz (some 24) rfl rfl Tryz.func154 (by kernel_rfl) rfl #[.slice Ao14 y439.length co14, .int .i32 a1, .int .i32 (wrap32 ((y442.length : Int)))] rfl ?_; (with_reducible refine (bsoncore_UpdateLength.calls (fun k_ => some k_ = (.slice Ao14 y439.length co14 : Value).ownBlock) (.slice Ao14 y439.length co14) y439 a1 (wrap32 ((y442.length : Int))) t446 w0 _ ?side1 ?side2 A10.out).mono ?_); (case side1 => exact HW.zb); (case side2 => exact Kd.R_tight rfl HO441.out); rintro e w15 ⟨v447, rfl, ho0, hb, hkp⟩; refine ⟨_, rfl, ?_⟩; have n0_ := Aside0.mk (Kd.R_mono (ok' := fun k_ => (P0_ k_ ∨ w.heap.size ≤ k_)) ho0 (fun k_ hk_ => Or.elim hk_ (fun hs_ => (HO441.out.1 k_ (hs_).symm)) (fun hn_ => (.inr (Nat.le_trans (HW.zk1 (w := w) (fun k_ => P0_ k_)) hn_))))); have n1_ := Aside0.mk (Kept.then_ (S := (fun k_ => P0_ k_)) HW.zk hkp (fun k_ hs_ => (fun e_ => (HO441.out.1 k_ e_.symm)) hs_)); have n2_ := Aside0.mk (hb); clear HK; clear HB; clear HO441; have HO448 := n0_; have HK := n1_; have HB := n2_; clear n0_ n1_ n2_; (try clear hb); (try clear hkp); (try clear ho0)))
    go_ret2
    exact ⟨_, rfl, HW.zR HO448.out, HW.zb, HW.zk⟩
def bsoncore_ReserveLength.f (l0 : List Int) : Option (Int × List Int) := (some (([0, 0, 0, 0] : List Int) : List Int)).bind fun y449 => (if l0.length + y449.length < 140737488355328 then (some (wrap32 ((l0.length : Int)), (l0 ++ y449))) else (none))
theorem bsoncore_ReserveLength.calls (P0_ : Nat → Prop) (u9000_ : Value) (l0 : List Int) (r1 : Int) (r2 : List Int) (w0 w : World) (hB : Below w0.heap.size w0 w) (ho0 : Kd.R (Kd.int .u8) 5 w w0.heap.size P0_ u9000_ l0) (h : bsoncore_ReserveLength.f l0 = some (r1, r2)) :
    Calls Tryz.prog 164 #[u9000_] w fun e w' => ∃ v1_ : Value, e = .returned (.tuple #[.int .i32 r1, v1_]) ∧ Kd.R (Kd.int .u8) 5 w' w0.heap.size (fun k_ => (P0_ k_ ∨ w.heap.size ≤ k_)) v1_ r2 ∧ Below w0.heap.size w0 w' ∧ Kept w w' (fun k_ => P0_ k_) := by
  have HO0 := Aside0.mk (show Kd.R (Kd.int .u8) 5 w w0.heap.size (fun k_ => (P0_ k_ ∨ w.heap.size ≤ k_)) u9000_ l0 from Kd.R_mono ho0 (fun k_ hk => (.inl hk))); have HK := Aside0.mk (Kept.refl w (fun k_ => P0_ k_)); have HW0 := Aside0.mk hB.size; have HB := Aside0.mk hB; clear hB; have H : ((some (([0, 0, 0, 0] : List Int) : List Int)).bind fun y449 => (if l0.length + y449.length < 140737488355328 then (some (wrap32 ((l0.length : Int)), (l0 ++ y449))) else (none))) = some (r1, r2) := h; clear h; obtain ⟨y449, hy449⟩ : ∃ y_ : List Int, y_ = (([0, 0, 0, 0] : List Int)) := ⟨_, rfl⟩
  replace H : (if l0.length + y449.length < 140737488355328 then (some (wrap32 ((l0.length : Int)), (l0 ++ y449))) else (none)) = some (r1, r2) := by (try rw [hy449]); exact HW.rp
  have Ny449 := Aside0.mk hy449; clear hy449
  by_cases c2 : l0.length + y449.length < 140737488355328
  rotate_left
  · rw [if_neg c2] at H
    exact absurd H (by simp)
  rw [if_pos c2] at H; have LMc2 := Aside0.mk c2; clear c2; obtain ⟨y452, hy452⟩ : ∃ y_ : List Int, y_ = (l0 ++ y449) := ⟨_, rfl⟩
  replace H : (some (wrap32 ((l0.length : Int)), y452)) = some (r1, r2) := by (try rw [hy452]); exact HW.rp
  have Ny452 := Aside0.mk hy452; clear hy452
  as_aux_lemma =>
    simp only [Option.some.injEq, Prod.mk.injEq] at H
    obtain ⟨rfl, rfl⟩ := H; obtain ⟨Ao3, co3, eo3⟩ := Kd.R_slice HO0.out; subst eo3
    go_enter Tryz.func164, Tryz.ntmps164
    go_wp2_with (first | ((with_reducible refine gate_dst (N := 10) rfl ?_); refine Kd.R_lit (Kd.int .u8) _ 5 ?hg (N := 10) ?hd (xs := ([0, 0, 0, 0] : List Int)) (inner := [.int .u8 0, .int .u8 0, .int .u8 0, .int .u8 0]) (ok := fun _ => True) (okp := fun _ => True) ?hr ?hp (fun _ hk => hk) trivial (Below.refl _ _) (Nat.le_refl _) (by simp) ?_; (case hd => rfl); (case hg => rfl); (case hr => first | (go_simp; done) | (go_simp; rfl)); (case hp => exact (Reps.one (show Kd.M (Kd.int .u8) _ _ _ 0 [.int .u8 0] from rfl) (Reps.one (show Kd.M (Kd.int .u8) _ _ _ 0 [.int .u8 0] from rfl) (Reps.one (show Kd.M (Kd.int .u8) _ _ _ 0 [.int .u8 0] from rfl) (Reps.one (show Kd.M (Kd.int .u8) _ _ _ 0 [.int .u8 0] from rfl) (Reps.none _ _)))))); intro v450 w4 ho5 hb hg_ hnew_; clear hg_ hnew_; (first | rw [← Ny449.out] at ho5 | (simp only [Int.reduceToNat] at ho5; rw [← Ny449.out] at ho5)); have HO451 := Aside0.mk (Kd.R_lower (Kd.R_new' (Kd.R_newM (M := fun k_ => (P0_ k_ ∨ w.heap.size ≤ k_)) ho5 (HW.zk1 (w := w) (fun k_ => P0_ k_)) (fun k_ h_ => .inr h_)) (Kd.R_lt (HW.zR HO0.out))) (below_size HW.zb)); replace HO0 := Aside0.mk (Kd.R_elder' (HW.zR HO0.out) (Kd.R_base ho5) hb); replace HK := Aside0.mk (Kept.below (S := (fun k_ => P0_ k_)) HW.zk hb); replace HB := Aside0.mk (below_step HW.zb hb); clear hb ho5; obtain ⟨Ao7, co7, eo7⟩ := Kd.R_slice HO451.out; subst eo7) | ((with_reducible refine gate_builtin (b := .append) (xs := #[.tmp 9, .tmp 10]) rfl ?_); at_builtin; refine Kd.R_append_rows (Kd.int .u8) (w0 := w0) w0.heap.size rfl (.tmp 9) (.tmp 10) 22 5 (.int .u8 0) 1 rfl Tryz.underlying22 info5 rfl (by decide) (by omega) (.slice Ao3 l0.length co3) l0 y449 _ _ _ (fun k_ => (P0_ k_ ∨ w.heap.size ≤ k_) ∧ some k_ ≠ (.slice Ao7 y449.length co7 : Value).ownBlock) (fun _ => False) rfl rfl ?aO ?aR (fun _ _ h => h) (fun _ h => h.elim) ?aF ?aB ?aS ?aL ?_; (case aR => repeat (first | exact (Kd.R_reads' HO451.out).2.2 | (with_reducible refine Kd.C_alloc ?_ _) | (with_reducible refine Kd.C_drewN ?_ _) | (with_reducible refine Kd.C_drew ?_))); (case aB => exact HW.zb); (case aF => exact (fun k_ hk => ⟨(.inr (Nat.le_trans (HW.zk1 (w := w) (fun k_ => P0_ k_)) hk)), Kd.fresh' (Kd.R_lt (HW.zR HO451.out)) k_ hk⟩)); (case aO => exact (HW.zR HO0.out)); (case aS => exact (below_size HW.zb)); (case aL => have := LMc2.out; omega); intro v453 w6 ho hb hg hat; rw [← Ny452.out] at ho; have n1_ := Aside0.mk (hb); have n2_ := Aside0.mk (Kept.of_grown (S := (fun k_ => P0_ k_)) hg HW.zk (fun k_ e_ => (HO0.out.1 k_ e_).1)); have n3_ := Aside0.mk (ho); clear HB; clear HK; clear HO0; have HB := n1_; have HK := n2_; have HO454 := n3_; clear n1_ n2_ n3_; clear ho hb hg hat))
    go_ret2
    exact ⟨_, rfl, by (with_reducible repeat (first | apply Kd.R_alloc | apply Kd.R_drewN | apply Kd.R_drew)); exact Kd.R_mono HO454.out (fun _ hk => hk.1), HW.zb, HW.zk⟩
def bsoncore_AppendDocumentStart.f (l0 : List Int) : Option (Int × List Int) := (bsoncore_ReserveLength.f l0).bind fun bt455 => (some (bt455.1, bt455.2))
theorem bsoncore_AppendDocumentStart.calls (P0_ : Nat → Prop) (u9000_ : Value) (l0 : List Int) (r1 : Int) (r2 : List Int) (w0 w : World) (hB : Below w0.heap.size w0 w) (ho0 : Kd.R (Kd.int .u8) 5 w w0.heap.size P0_ u9000_ l0) (h : bsoncore_AppendDocumentStart.f l0 = some (r1, r2)) :
    Calls Tryz.prog 128 #[u9000_] w fun e w' => ∃ v1_ : Value, e = .returned (.tuple #[.int .i32 r1, v1_]) ∧ Kd.R (Kd.int .u8) 5 w' w0.heap.size (fun k_ => (P0_ k_ ∨ w.heap.size ≤ k_)) v1_ r2 ∧ Below w0.heap.size w0 w' ∧ Kept w w' (fun k_ => P0_ k_) := by
  have HO0 := Aside0.mk (show Kd.R (Kd.int .u8) 5 w w0.heap.size (fun k_ => (P0_ k_ ∨ w.heap.size ≤ k_)) u9000_ l0 from Kd.R_mono ho0 (fun k_ hk => (.inl hk))); have HK := Aside0.mk (Kept.refl w (fun k_ => P0_ k_)); have HW0 := Aside0.mk hB.size; have HB := Aside0.mk hB; clear hB; have H : ((bsoncore_ReserveLength.f l0).bind fun bt455 => (some (bt455.1, bt455.2))) = some (r1, r2) := h; clear h; replace H := Option.bind_eq_some_iff.mp H; obtain ⟨⟨t455, t456⟩, A20, H⟩ := H; replace H : (some (t455, t456)) = some (r1, r2) := H; have A2 := Aside0.mk A20; clear A20
  as_aux_lemma =>
    simp only [Option.some.injEq, Prod.mk.injEq] at H
    obtain ⟨rfl, rfl⟩ := H; obtain ⟨Ao3, co3, eo3⟩ := Kd.R_slice HO0.out; subst eo3
    go_enter Tryz.func128, Tryz.ntmps128
    go_wp2_with (first | ((with_reducible refine gate_callee (f := 164) rfl ?_); refine HW.gz (some 5) rfl rfl Tryz.func164 (by kernel_rfl) rfl #[.slice Ao3 l0.length co3] rfl ?_; (with_reducible refine (bsoncore_ReserveLength.calls (fun k_ => some k_ = (.slice Ao3 l0.length co3 : Value).ownBlock) (.slice Ao3 l0.length co3) l0 t455 t456 w0 _ ?side1 ?side2 A2.out).mono ?_); (case side1 => exact HW.zb); (case side2 => exact Kd.R_tight rfl HO0.out); rintro e w4 ⟨v457, rfl, ho0, hb, hkp⟩; refine ⟨_, rfl, ?_⟩; have n0_ := Aside0.mk (Kd.R_mono (ok' := fun k_ => (P0_ k_ ∨ w.heap.size ≤ k_)) ho0 (fun k_ hk_ => Or.elim hk_ (fun hs_ => (HO0.out.1 k_ (hs_).symm)) (fun hn_ => (.inr (Nat.le_trans (HW.zk1 (w := w) (fun k_ => P0_ k_)) hn_))))); have n1_ := Aside0.mk (Kept.then_ (S := (fun k_ => P0_ k_)) HW.zk hkp (fun k_ hs_ => (fun e_ => (HO0.out.1 k_ e_.symm)) hs_)); have n2_ := Aside0.mk (hb); clear HK; clear HB; clear HO0; have HO458 := n0_; have HK := n1_; have HB := n2_; clear n0_ n1_ n2_; (try clear hb); (try clear hkp); (try clear ho0)))
    go_ret2
    exact ⟨_, rfl, HW.zR HO458.out, HW.zb, HW.zk⟩
def plainText (s : ByteArray) : Bool := (List.range s.size).all fun j => s.get! j != 0
theorem plainText_true {s : ByteArray} : plainText s = true ↔ ∀ j, j < s.size → s.get! j ≠ 0 := by
  simp [plainText]
def bsoncore_isValidCString.f (a0 : ByteArray) : Option (Bool) := some (plainText a0)
def SearchPost (s : ByteArray) (w0 : World) (e : Ending) (w' : World) : Prop := ∃ v : Int, e = .returned (.int .i64 v) ∧ (0 ≤ v ↔ plainText s = false) ∧ Below w0.heap.size w0 w'
theorem zzIndexRune_zero (s : ByteArray) (w : World) :
    Calls Tryz.prog 218 #[.string s, .int .i32 0] w (SearchPost s w) := by
  go_enter Tryz.func218, Tryz.ntmps218
  go_wp2
  go_loopw [] (fun w' => ∃ (pos : Nat), w' = w.iter s pos ∧ Aside0 (∀ j, j < pos → j < s.size → s.get! j ≠ 0)) (fun w' => s.size - w'.iterPos w.heap.size)
  case atStart => exact ⟨0, rfl, ⟨fun j hj => absurd hj (Nat.not_lt_zero j)⟩⟩
  case round =>
    obtain ⟨pos, rfl, HA⟩ := hrel
    have hbel : Below w.heap.size w (w.iter s pos) := by
      exact (Below.refl _ _).alloc (Nat.le_refl _) _
    have HBEL := Aside0.mk hbel; clear hbel
    by_cases hp : pos < s.size
    rotate_left
    · have hnx : ∀ ty, (Instr.next (.pointer (some ⟨w.heap.size, 0, none⟩)) true ty).run Tryz.prog (w.iter s pos) = _ := fun ty => run_next_end w s pos ty hp
      have HF : Aside0 (plainText s = true) := ⟨plainText_true.2 (fun j hj => HA.out j (by omega) hj)⟩
      go_wp2
      go_ret
      exact ⟨-1, rfl, ⟨fun h => by omega, fun h => by rw [HF.out] at h; cases h⟩, (Below.refl _ _).alloc (Nat.le_refl _) _⟩
    have hnx : ∀ ty, (Instr.next (.pointer (some ⟨w.heap.size, 0, none⟩)) true ty).run Tryz.prog (w.iter s pos) = _ := fun ty => run_next_any w s pos ty hp; have HD := Aside0.mk (HW.decode_zero s pos hp)
    by_cases hz : s.get! pos = 0
    · have hb : ((((Utf8.decode s pos).1 : Nat) : Int) == 0) = true := beq_iff_eq.2 (by have := HD.out.2.1.2 hz; omega)
      have HF : Aside0 (plainText s = false) := ⟨by
        cases hpt : plainText s with
        | false => rfl
        | true => exact absurd hz (plainText_true.1 hpt pos hp)⟩
      clear hz
      go_wp2
      go_ret
      exact ⟨(pos : Int), rfl, ⟨fun _ => HF.out, fun _ => by omega⟩, (Below.refl _ _).alloc (Nat.le_refl _) _⟩
    have hb : ((((Utf8.decode s pos).1 : Nat) : Int) == 0) = false := beq_eq_false_iff_ne.2 (fun h0 => hz (HD.out.2.1.1 (by omega)))
    have HF : Aside0 (∀ j, j < pos + (Utf8.decode s pos).2 → j < s.size → s.get! j ≠ 0) := ⟨by
      intro j hj hjs
      by_cases hjp : j < pos
      · exact HA.out j hjp hjs
      exact (HD.out.2.2 hz j (by omega) hj).2⟩
    clear hz
    go_wp2
    go_roundw
    case rel => exact ⟨pos + (Utf8.decode s pos).2, rfl, HF⟩
    case measure =>
      have := HD.out.1
      simp
      omega
theorem bsoncore_isValidCString.calls (a0 : ByteArray) (r : Bool) (w : World) (h : bsoncore_isValidCString.f a0 = some r) :
    Calls Tryz.prog 167 #[.string a0] w fun e w' => e = .returned (.bool r) ∧ Below w.heap.size w w' := by
  obtain rfl := Option.some.inj h; clear h
  cases hpt : plainText a0 with
  | true =>
    have HP := Aside0.mk hpt; clear hpt
    go_enter Tryz.func167, Tryz.ntmps167
    go_wp2_with (first | (go_at_call 218; refine (zzIndexRune_zero _ _).mono ?_; rintro e w' ⟨v, rfl, hv, hb⟩; have hv2 : decide (0 ≤ v) = false := decide_eq_false (by rw [hv, HP.out]; simp); have HB := Aside0.mk hb; clear hv hb) | go_in)
    go_ret
    exact ⟨rfl, HB.out⟩
  | false =>
    have HP := Aside0.mk hpt; clear hpt
    go_enter Tryz.func167, Tryz.ntmps167
    go_wp2_with (first | (go_at_call 218; refine (zzIndexRune_zero _ _).mono ?_; rintro e w' ⟨v, rfl, hv, hb⟩; have hv2 : decide (0 ≤ v) = true := decide_eq_true (by rw [hv, HP.out]); have HB := Aside0.mk hb; clear hv hb) | go_in)
    go_ret
    exact ⟨rfl, HB.out⟩
end Go.Proofs.YtbfhpjkahobgnaaGreatDoor.PIx
