/- Printed by a program of this session (a turned copy of the printer of the kit): contracts of functions of the translation, each with the Lean function that it computes. Conditions: as each theorem states them. -/
import Derived.Test.YtlcgakpnpdkjjaaDoorPRdx0
import Derived.Test.YtlcgakpnpdkjjaaDoorPRdx8
import Derived.Test.YtlcgakpnpdkjjaaDoorPRdx10
import Derived.Test.YtlcgakpnpdkjjaaDoorPRdx11
namespace Go.Proofs.YtlcgakpnpdkjjaaDoor.PRd
open Go.RowKit Go.Proofs.YtlcgakpnpdkjjaaDoorW.PrintWords Go.Proofs.YtlcgakpnpdkjjaaDoorW.PrintLast Go.Proofs.YtlcgakpnpdkjjaaDoorW.PrintMore
attribute [local go_sem] max2_int min2_int max_two min_two max_three min_three max_four min_four   -- for this text's walks alone
set_option linter.unusedVariables false
set_option linter.unusedSimpArgs false

/-! ### bsoncore_Document_LookupErr: function 32 -/
mutual
def bsoncore_Document_LookupErr.l0 : Nat → List ByteArray → Int → List Int → Option (Int × List Int × Option Int)
  | 0, _, _, _ => none
  | k + 1, x1, x6, x7 => if x6 > 1 then ((bsoncore_ReadElement.f k x7).bind fun bt581 => (if bt581.2.2 = true then ((bsoncore_Element_KeyBytes.f bt581.1).bind fun t594 => (if 0 < (x1.length : Int) then (if (strOfNums t594).toList = (rdOf ByteArray.empty x1 0).toList then (if (x1.length : Int) > 1 then (none) else ((bsoncore_Element_ValueErr.f k bt581.1).bind fun bt598 => (some (bt598.1, bt598.2.1, bt598.2.2)))) else (bsoncore_Document_LookupErr.l0 k x1 (wrap32 (x6 - (wrap32 ((bt581.1.length : Int))))) bt581.2.1)) else (none))) else (none))) else (none)
def bsoncore_Document_LookupErr.f : Nat → List Int → List ByteArray → Option (Int × List Int × Option Int)
  | 0, _, _ => none
  | k + 1, l0, l1 => if (l1.length : Int) < 1 then (none) else ((bsoncore_ReadLength.f l0).bind fun bt570 => (if bt570.2.2 = true then (bsoncore_Document_LookupErr.l0 k l1 (wrap32 (bt570.1 - 4)) bt570.2.1) else (none)))
end
theorem bsoncore_Document_LookupErr.mono_l : ∀ k, (∀ y0 y1, LeO (bsoncore_Document_LookupErr.f k y0 y1) (bsoncore_Document_LookupErr.f (k + 1) y0 y1)) ∧ (∀ y0 y1 y2, LeO (bsoncore_Document_LookupErr.l0 k y0 y1 y2) (bsoncore_Document_LookupErr.l0 (k + 1) y0 y1 y2))
  | 0 => ⟨fun _ _ r h => by simp [bsoncore_Document_LookupErr.f] at h, fun _ _ _ r h => by simp [bsoncore_Document_LookupErr.l0] at h⟩
  | k + 1 => by
    obtain ⟨ih0, ih1⟩ := bsoncore_Document_LookupErr.mono_l k
    refine ⟨?_, ?_⟩
    · intro y0 y1
      unfold bsoncore_Document_LookupErr.f
      repeat' first
      | (with_reducible exact ih0 _ _)
      | (with_reducible exact ih1 _ _ _)
      | (with_reducible exact bsoncore_Element_ValueErr.mono _ _)
      | (with_reducible exact bsoncore_ReadElement.mono _ _)
      | (with_reducible exact LeO.refl _)
      | (with_reducible exact LeO.none _)
      | (with_reducible refine LeO.ite ?_ ?_)
      | (with_reducible refine LeO.bind ?_ (fun _ => ?_))
      | exact ih0 _ _
      | exact ih1 _ _ _
      | exact bsoncore_Element_ValueErr.mono _ _
      | exact bsoncore_ReadElement.mono _ _
      | exact LeO.none _
      | refine LeO.ite ?_ ?_
      | refine LeO.bind ?_ (fun _ => ?_)
    · intro y0 y1 y2
      unfold bsoncore_Document_LookupErr.l0
      repeat' first
      | (with_reducible exact ih0 _ _)
      | (with_reducible exact ih1 _ _ _)
      | (with_reducible exact bsoncore_Element_ValueErr.mono _ _)
      | (with_reducible exact bsoncore_ReadElement.mono _ _)
      | (with_reducible exact LeO.refl _)
      | (with_reducible exact LeO.none _)
      | (with_reducible refine LeO.ite ?_ ?_)
      | (with_reducible refine LeO.bind ?_ (fun _ => ?_))
      | exact ih0 _ _
      | exact ih1 _ _ _
      | exact bsoncore_Element_ValueErr.mono _ _
      | exact bsoncore_ReadElement.mono _ _
      | exact LeO.none _
      | refine LeO.ite ?_ ?_
      | refine LeO.bind ?_ (fun _ => ?_)
theorem bsoncore_Document_LookupErr.mono : ∀ a0 a1 k, LeO (bsoncore_Document_LookupErr.f k a0 a1) (bsoncore_Document_LookupErr.f (k + 1) a0 a1) := by
  intro a0 a1 k
  obtain ⟨ih0, ih1⟩ := bsoncore_Document_LookupErr.mono_l k
  exact ih0 a0 a1
set_option maxHeartbeats 8000000 in
set_option maxRecDepth 100000 in
theorem bsoncore_Document_LookupErr.calls (k : Nat) : ∀ (P0_ : Nat → Prop) (A0 : Option Addr) (c0 : Nat) (l0 : List Int) (A1 : Option Addr) (c1 : Nat) (l1 : List ByteArray) (r1 : Int) (r2 : List Int) (r3 : Option Int) (w : World) (hs0 : Kd.V (Kd.int .u8) 5 w w.heap.size (fun k_ => P0_ k_) (.slice A0 l0.length c0) l0) (hr1 : Kd.C Kd.string w A1 l1.length l1) (hc1 : l1.length ≤ c1) (h : bsoncore_Document_LookupErr.f k l0 l1 = some (r1, r2, r3)),
    Calls Tryd.prog 32 #[.slice A0 l0.length c0, .slice A1 l1.length c1] w fun e w' => ∃ v1_ : Value, e = .returned (.tuple #[.agg #[.int .u8 r1, v1_], errW r3]) ∧ Kd.V (Kd.int .u8) 5 w' w.heap.size (fun k_ => (P0_ k_ ∨ w.heap.size ≤ k_)) v1_ r2 ∧ Below w.heap.size w w' := by
  induction k using Nat.strongRecOn with
  | _ k ih =>
  intro P0_ A0 c0 l0 A1 c1 l1 r1 r2 r3 w hs0 hr1 hc1 h
  cases k with
  | zero => exact absurd h (by simp [bsoncore_Document_LookupErr.f])
  | succ k =>
  simp only [bsoncore_Document_LookupErr.f] at h
  have hu77 := Tryd.underlying77
  have hu87 := Tryd.underlying87
  have hu56 := Tryd.underlying56
  have HO0 := Aside0.mk (show Kd.V (Kd.int .u8) 5 w w.heap.size (fun k_ => (P0_ k_ ∨ w.heap.size ≤ k_)) (.slice A0 l0.length c0) l0 from Kd.V_mono hs0 (fun k_ hk => .inl hk))
  have HR1 := Aside0.mk hr1
  have HC1 := Aside0.mk hc1
  clear hr1 hc1
  have HB := Aside0.mk (Below.refl w.heap.size w)
  have H : (if (l1.length : Int) < 1 then (none) else ((bsoncore_ReadLength.f l0).bind fun bt570 => (if bt570.2.2 = true then (bsoncore_Document_LookupErr.l0 k l1 (wrap32 (bt570.1 - 4)) bt570.2.1) else (none)))) = some (r1, r2, r3) := h
  clear h
  by_cases c3 : (l1.length : Int) < 1
  · rw [if_pos c3] at H
    exact absurd H (by simp)
  rw [if_neg c3] at H
  have c3b0 : decide ((l1.length : Int) < 1) = false := decide_eq_false c3
  have c3b1 : decide (l1.length < 1) = false := decide_eq_false (by omega)
  clear c3
  replace H := Option.bind_eq_some_iff.mp H
  obtain ⟨⟨t570, t571, t574⟩, A40, H⟩ := H
  replace H : (if t574 = true then (bsoncore_Document_LookupErr.l0 k l1 (wrap32 (t570 - 4)) t571) else (none)) = some (r1, r2, r3) := H
  have A4 := Aside0.mk A40
  clear A40
  by_cases c5 : t574 = true
  rotate_left
  · replace c5 := Bool.eq_false_iff.mpr c5
    subst c5
    have H1 : (none) = some (r1, r2, r3) := by rw [if_neg (show ¬ (false = true) by decide)] at H; exact H
    clear H
    have H := H1
    clear H1
    exact absurd H (by simp)
  subst c5
  have H1 : (bsoncore_Document_LookupErr.l0 k l1 (wrap32 (t570 - 4)) t571) = some (r1, r2, r3) := by rw [if_pos rfl] at H; exact H
  clear H
  have H := H1
  clear H1
  have H' := Aside0.mk H
  clear H
  go_enter Tryd.func32, Tryd.ntmps32
  go_wp2_with (first | ((with_reducible refine gate_dst (N := 4) rfl ?_); refine box_event ?hg (N := 4) ?hd (cs := #[.int .u8 0, .slice none 0 0]) (t := 77) ?hr ?_; (case hd => rfl); (case hg => rfl); (case hr => first | (go_simp; done) | (go_simp; rfl)); intro gb569 hg w6 hbox hb; have n0_ := Aside0.mk (Kd.V_below (Kd.V_elderB (HW.zV HO0.out) gb569 (Nat.le_of_eq hg.symm)) hb); have n1_ := Aside0.mk (below_step HW.zb hb); have n2_ := Aside0.mk (hbox); have n4_ := Aside0.mk ((by rw [hg]; exact (below_size HW.zb) : w.heap.size ≤ gb569)); clear HO0; clear HB; have HO0 := n0_; have HB := n1_; have BK569 := n2_; have GE569 := n4_; clear n0_ n1_ n2_ n4_; clear hb hbox hg) | ((with_reducible refine gate_callee (f := 43) rfl ?_); refine HW.gz (some 22) rfl rfl Tryd.func43 (by kernel_rfl) rfl #[.slice A0 l0.length c0] rfl ?_; (with_reducible refine (bsoncore_ReadLength.calls (fun k_ => ((P0_ k_ ∨ w.heap.size ≤ k_) ∧ k_ ≠ gb569)) _ _ l0 t570 t571 true _ ?side1 A4.out).mono ?_); (case side1 => exact HO0.out); rintro e w7 ⟨v572, rfl, ho0, hb⟩; refine ⟨_, rfl, ?_⟩; have n1_ := Aside0.mk (Kd.V_lower (Kd.V_mono (ok' := fun k_ => (P0_ k_ ∨ w.heap.size ≤ k_) ∧ k_ ≠ gb569) ho0 (fun k_ hk_ => ⟨Or.elim hk_ (fun hs_ => hs_.1) (fun hn_ => (.inr (Nat.le_trans (below_size HW.zb) hn_))), Or.elim hk_ (fun hs_ => hs_.2) (fun hn_ => (Kd.freshB (g := gb569) (o := .cells #[.int .u8 0, .slice none 0 0] 77 (0, 0)) (HW.zB BK569.out) k_ hn_))⟩)) (below_size HW.zb)); have n2_ := Aside0.mk (blk_below (g := gb569) (o := .cells #[.int .u8 0, .slice none 0 0] 77 (0, 0)) (HW.zB BK569.out) hb); have n3_ := Aside0.mk (below_step HW.zb hb); clear BK569; clear HB; have HO573 := n1_; have BK569 := n2_; have HB := n3_; clear n1_ n2_ n3_; (try clear hb); (try clear hb2); (try clear hk); (try clear hi); (try clear ho0)))
  go_loopg [6, 7] k (fun kq v6 v7 w' => ∃ (x6_1 : Int) (x7_1 : List Int) (x570000_1 : Int), v6 = .int .i32 x6_1 ∧ Aside0 (bsoncore_Document_LookupErr.l0 kq l1 x6_1 x7_1 = some (r1, r2, r3)) ∧ Aside0 (kq ≤ k) ∧ Aside0 (Kd.V (Kd.int .u8) 5 w' w.heap.size (fun k_ => (P0_ k_ ∨ w.heap.size ≤ k_) ∧ k_ ≠ gb569) v7 x7_1) ∧ Aside0 (w'.heap[gb569]? = some (.cells #[.int .u8 x570000_1, (.slice none 0 0)] 77 (0, 0))) ∧ Aside0 (Below w.heap.size w w'))
  case atStart => exact ⟨(wrap32 (t570 - 4)), (t571), (0), (by first | rfl | (simp; done) | (simp [*]; done)), H', ⟨Nat.le_refl _⟩, ⟨HW.zV HO573.out⟩, ⟨by (with_reducible repeat (first | refine blk_drewN ?_ _ | refine blk_drew ?_ | refine blk_alloc ?_ _)); exact BK569.out⟩, ⟨HW.zb⟩⟩
  case round =>
    clear H'
    try clear c1
    try clear p2
    try clear c3
    try clear c3b0
    try clear c3b1
    try clear p3
    try clear c4
    try clear c5
    obtain ⟨x6_1, x7_1, x570000_1, rfl, HA, HK1, HO_7, BK569, HB⟩ := hrel
    cases gk with
    | zero => exact absurd HA.out (by simp [bsoncore_Document_LookupErr.l0])
    | succ k1 =>
      have H := HA.out
      clear HA
      simp only [bsoncore_Document_LookupErr.l0] at H
      by_cases c8 : x6_1 > 1
      rotate_left
      · rw [if_neg c8] at H
        exact absurd H (by simp)
      rw [if_pos c8] at H
      have c8b0 : decide (1 < x6_1) = true := decide_eq_true c8
      clear c8
      replace H := Option.bind_eq_some_iff.mp H
      obtain ⟨⟨t581, t584, t587⟩, A90, H⟩ := H
      replace H : (if t587 = true then ((bsoncore_Element_KeyBytes.f t581).bind fun t594 => (if 0 < (l1.length : Int) then (if (strOfNums t594).toList = (rdOf ByteArray.empty l1 0).toList then (if (l1.length : Int) > 1 then (none) else ((bsoncore_Element_ValueErr.f k1 t581).bind fun bt598 => (some (bt598.1, bt598.2.1, bt598.2.2)))) else (bsoncore_Document_LookupErr.l0 k1 l1 (wrap32 (x6_1 - (wrap32 ((t581.length : Int))))) t584)) else (none))) else (none)) = some (r1, r2, r3) := H
      have A9 := Aside0.mk A90
      clear A90
      by_cases c10 : t587 = true
      rotate_left
      · replace c10 := Bool.eq_false_iff.mpr c10
        subst c10
        have H1 : (none) = some (r1, r2, r3) := by rw [if_neg (show ¬ (false = true) by decide)] at H; exact H
        clear H
        have H := H1
        clear H1
        exact absurd H (by simp)
      subst c10
      have H1 : ((bsoncore_Element_KeyBytes.f t581).bind fun t594 => (if 0 < (l1.length : Int) then (if (strOfNums t594).toList = (rdOf ByteArray.empty l1 0).toList then (if (l1.length : Int) > 1 then (none) else ((bsoncore_Element_ValueErr.f k1 t581).bind fun bt598 => (some (bt598.1, bt598.2.1, bt598.2.2)))) else (bsoncore_Document_LookupErr.l0 k1 l1 (wrap32 (x6_1 - (wrap32 ((t581.length : Int))))) t584)) else (none))) = some (r1, r2, r3) := by rw [if_pos rfl] at H; exact H
      clear H
      have H := H1
      clear H1
      replace H := Option.bind_eq_some_iff.mp H
      obtain ⟨t594, A110, H⟩ := H
      replace H : (if 0 < (l1.length : Int) then (if (strOfNums t594).toList = (rdOf ByteArray.empty l1 0).toList then (if (l1.length : Int) > 1 then (none) else ((bsoncore_Element_ValueErr.f k1 t581).bind fun bt598 => (some (bt598.1, bt598.2.1, bt598.2.2)))) else (bsoncore_Document_LookupErr.l0 k1 l1 (wrap32 (x6_1 - (wrap32 ((t581.length : Int))))) t584)) else (none)) = some (r1, r2, r3) := H
      have A11 := Aside0.mk A110
      clear A110
      by_cases c12 : 0 < (l1.length : Int)
      rotate_left
      · rw [if_neg c12] at H
        exact absurd H (by simp)
      rw [if_pos c12] at H
      have c12b0 : decide (0 < (l1.length : Int)) = true := decide_eq_true c12
      have c12b1 : decide (0 < l1.length) = true := decide_eq_true (by omega)
      clear c12
      by_cases c13 : (strOfNums t594).toList = (rdOf ByteArray.empty l1 0).toList
      rotate_left
      · rw [if_neg c13] at H
        have c13b0 : ((strOfNums t594).toList == (rdOf ByteArray.empty l1 0).toList) = false := beq_eq_false_iff_ne.mpr c13
        have c13b1 : ((strOfNums t594).toList != (rdOf ByteArray.empty l1 0).toList) = true := bne_iff_ne.mpr c13
        as_aux_lemma =>
          have H' := Aside0.mk H
          clear H
          obtain ⟨Ao26, co26, eo26⟩ := Kd.V_slice HO_7.out
          subst eo26
          try go_wp2_with (first | ((with_reducible refine gate_callee (f := 45) rfl ?_); refine HW.gz (some 39) rfl rfl Tryd.func45 (by kernel_rfl) rfl #[.slice Ao26 x7_1.length co26] rfl ?_; (with_reducible refine (bsoncore_ReadElement.calls k1 (fun k_ => ((P0_ k_ ∨ w.heap.size ≤ k_) ∧ k_ ≠ gb569)) _ _ x7_1 t581 t584 true _ ?side1 A9.out).mono ?_); (case side1 => exact HO_7.out); rintro e w27 ⟨v582, v585, rfl, ho0, ho1, hb⟩; refine ⟨_, rfl, ?_⟩; have n0_ := Aside0.mk (Kd.V_below (HW.zV HO_7.out) hb); have n1_ := Aside0.mk (Kd.V_lower (Kd.V_mono (ok' := fun k_ => (P0_ k_ ∨ w.heap.size ≤ k_) ∧ k_ ≠ gb569) ho0 (fun k_ hk_ => ⟨Or.elim hk_ (fun hs_ => hs_.1) (fun hn_ => (.inr (Nat.le_trans (below_size HW.zb) hn_))), Or.elim hk_ (fun hs_ => hs_.2) (fun hn_ => (Kd.freshB (g := gb569) (o := .cells #[.int .u8 x570000_1, .slice none 0 0] 77 (0, 0)) (HW.zB BK569.out) k_ hn_))⟩)) (below_size HW.zb)); have n2_ := Aside0.mk (Kd.V_lower (Kd.V_mono (ok' := fun k_ => (P0_ k_ ∨ w.heap.size ≤ k_) ∧ k_ ≠ gb569) ho1 (fun k_ hk_ => ⟨Or.elim hk_ (fun hs_ => hs_.1) (fun hn_ => (.inr (Nat.le_trans (below_size HW.zb) hn_))), Or.elim hk_ (fun hs_ => hs_.2) (fun hn_ => (Kd.freshB (g := gb569) (o := .cells #[.int .u8 x570000_1, .slice none 0 0] 77 (0, 0)) (HW.zB BK569.out) k_ hn_))⟩)) (below_size HW.zb)); have n3_ := Aside0.mk (blk_below (g := gb569) (o := .cells #[.int .u8 x570000_1, .slice none 0 0] 77 (0, 0)) (HW.zB BK569.out) hb); have n4_ := Aside0.mk (below_step HW.zb hb); clear HO_7; clear BK569; clear HB; have HO_7 := n0_; have HO583 := n1_; have HO586 := n2_; have BK569 := n3_; have HB := n4_; clear n0_ n1_ n2_ n3_ n4_; (try clear hb); (try clear hb2); (try clear hk); (try clear hi); (try clear ho0); (try clear ho1); obtain ⟨Ao28, co28, eo28⟩ := Kd.V_slice HO583.out; subst eo28))
          have n0_ := Aside0.mk (Kd.V_drew HO_7.out)
          have n1_ := Aside0.mk (Kd.V_drew HO583.out)
          have n2_ := Aside0.mk (Kd.V_drew HO586.out)
          have n3_ := Aside0.mk (blk_drew BK569.out)
          have n4_ := Aside0.mk (below_drew1 HB.out)
          clear HO_7
          clear HO583
          clear HO586
          clear BK569
          clear HB
          have HO_7 := n0_
          have HO583 := n1_
          have HO586 := n2_
          have BK569 := n3_
          have HB := n4_
          clear n0_ n1_ n2_ n3_ n4_
          have p597 : 0 ≤ (0 : Int) := (by omega)
          have q597 : 0 < (l1.length : Int) := of_decide_eq_true (by first | (with_reducible assumption) | assumption)
          obtain ⟨ad597, e597, hx597_0⟩ := Kd.at_string HR1.out 0 p597 q597
          have hw597_0 := hx597_0
          (try rw [show ((0 : Int)).toNat = 0 from rfl] at hw597_0)
          (try rw [show 0 * 1 = 0 from rfl] at hw597_0)
          (try rw [Addr.add_zero'] at hw597_0)
          cases e597
          have qi597 : (0 < l1.length) = True := eq_true (by omega)
          (try rw [show ((0 : Int)).toNat = 0 from rfl] at hx597_0)
          (try rw [Addr.add_zero'] at hx597_0)
          replace hx597_0 := (HB.out.cell (World.block_lt_of_cell? w _ hx597_0)).trans hx597_0
          replace p597 := eq_true p597
          replace q597 := eq_true q597
          refine start_ (n := 7) (S := fun w' => w'.cell? ad597 = some (.string (rdOf ByteArray.empty l1 0))) (ds := []) #[false, false, false, false, false, false, false] (by kernel_rfl) rfl rfl (((HB.out.cell (World.block_lt_of_cell? w _ hw597_0)).trans hw597_0)) (fun hHeld => ?_)
          generalize w27.drew = w29 at HO_7 HO583 HO586 BK569 HB hx597_0 hHeld ⊢
          refine HW.pz (i := 0) (N := some 55) #[true, false, false, false, false, false, false] ?_
          refine HW.pz (i := 3) (N := some 58) #[true, false, false, true, false, false, false] ?_
          refine HW.pz (i := 4) (N := some 59) #[true, false, false, true, true, false, false] ?_
          refine take_ (i := 5) (N := some 60) (v := ?_) (a' := ?_) #[true, false, false, true, true, true, false] rfl rfl (by kernel_rfl) (fun _ _ _ h => h) (Or.inl ⟨by rfl, ?_⟩) hHeld ?_ ?_
          rotate_left
          · intro w' s0
            go_simp
            with_reducible rfl
          rotate_left
          · simp only [Act.put, List.setIfInBounds_toArray, List.set_cons_zero, List.set_cons_succ, i64_w, i32_w]
            rfl
          refine one_ (i := 1) (N := some 56) #[true, true, false, true, true, true, false] rfl rfl (by kernel_rfl) (by decide) (fun K hK => ?_)
          refine goes_ Tryd.func46 (by kernel_rfl) rfl #[.slice Ao28 t581.length co28] (by rfl) rfl rfl (by (try simp only [List.map_toArray, List.map_cons, List.map_nil]); first | done | rfl | (simp only [List.length_drop, List.length_take]; rfl)) ?_
          with_reducible refine (bsoncore_Element_KeyBytes.calls (fun k_ => ((P0_ k_ ∨ w.heap.size ≤ k_) ∧ k_ ≠ gb569)) _ _ t581 t594 _ ?side1 A11.out).mono ?_
          (case side1 => exact HO583.out)
          rintro e w30 ⟨v595, rfl, ho0, hb⟩
          refine ⟨_, rfl, ?_⟩
          have n0_ := Aside0.mk (Kd.V_below (HW.zV HO_7.out) hb)
          have n1_ := Aside0.mk (Kd.V_below (HW.zV HO583.out) hb)
          have n2_ := Aside0.mk (Kd.V_below (HW.zV HO586.out) hb)
          have n3_ := Aside0.mk (Kd.V_lower (Kd.V_mono (ok' := fun k_ => (P0_ k_ ∨ w.heap.size ≤ k_) ∧ k_ ≠ gb569) ho0 (fun k_ hk_ => ⟨Or.elim hk_ (fun hs_ => hs_.1) (fun hn_ => (.inr (Nat.le_trans (below_size HW.zb) hn_))), Or.elim hk_ (fun hs_ => hs_.2) (fun hn_ => (Kd.freshB (g := gb569) (o := .cells #[.int .u8 x570000_1, .slice none 0 0] 77 (0, 0)) (HW.zB BK569.out) k_ hn_))⟩)) (below_size HW.zb))
          have n4_ := Aside0.mk (blk_below (g := gb569) (o := .cells #[.int .u8 x570000_1, .slice none 0 0] 77 (0, 0)) (HW.zB BK569.out) hb)
          have n5_ := Aside0.mk (below_step HW.zb hb)
          clear HO_7
          clear HO583
          clear HO586
          clear BK569
          clear HB
          have HO_7 := n0_
          have HO583 := n1_
          have HO586 := n2_
          have HO596 := n3_
          have BK569 := n4_
          have HB := n5_
          clear n0_ n1_ n2_ n3_ n4_ n5_
          (try clear hb)
          (try clear hb2)
          (try clear hk)
          (try clear hi)
          (try clear ho0)
          refine hK.out _ _ (((HB.out.cell (World.block_lt_of_cell? w _ hw597_0)).trans hw597_0)) (fun hHeld => ?_)
          clear hK K
          refine HW.nz (N := (some 56)) ?_
          refine one_ (i := 2) (N := some 57) #[true, true, true, true, true, true, false] rfl rfl (by kernel_rfl) (by decide) (fun K hK => ?_)
          have hcv31 := HW.V_string (P := Tryd.prog) Tryd.underlying23 Tryd.underlying5 Tryd.underlying9 (HO596.out)
          refine value_ (w1 := ?_) (v := ?_) (by rfl) rfl ?_ ?_
          rotate_left 2
          · go_simp
            constructor
            · rfl
            rfl
          clear hcv31
          refine hK.out _ _ (((HB.out.cell (World.block_lt_of_cell? w _ hw597_0)).trans hw597_0)) (fun hHeld => ?_)
          clear hK K
          refine HW.nz (N := (some 57)) ?_
          refine HW.pz (i := 6) (N := some 61) #[true, true, true, true, true, true, true] ?_
          refine done_ (by kernel_rfl) ?_
          try go_wp2
          go_roundg k1
          case measure => have := HK1.out; omega
          case rel => exact ⟨(wrap32 (x6_1 - (wrap32 ((t581.length : Int))))), (t584), (x570000_1), (by first | rfl | (simp; done) | (simp [*]; done)), H', ⟨by have := HK1.out; omega⟩, ⟨HW.zV HO586.out⟩, ⟨by (with_reducible repeat (first | refine blk_drewN ?_ _ | refine blk_drew ?_ | refine blk_alloc ?_ _)); exact BK569.out⟩, ⟨HW.zb⟩⟩
      rw [if_pos c13] at H
      have c13b0 : ((strOfNums t594).toList == (rdOf ByteArray.empty l1 0).toList) = true := beq_iff_eq.mpr c13
      have c13b1 : ((strOfNums t594).toList != (rdOf ByteArray.empty l1 0).toList) = false := bne_eq_false_iff_eq.mpr c13
      clear c13
      by_cases c14 : (l1.length : Int) > 1
      · rw [if_pos c14] at H
        exact absurd H (by simp)
      rw [if_neg c14] at H
      have c14b0 : decide (1 < (l1.length : Int)) = false := decide_eq_false c14
      have c14b1 : decide (1 < l1.length) = false := decide_eq_false (by omega)
      clear c14
      replace H := Option.bind_eq_some_iff.mp H
      obtain ⟨⟨t598, t599, t602⟩, A150, H⟩ := H
      replace H : (some (t598, t599, t602)) = some (r1, r2, r3) := H
      have A15 := Aside0.mk A150
      clear A150
      as_aux_lemma =>
        simp only [Option.some.injEq, Prod.mk.injEq] at H
        obtain ⟨rfl, rfl, rfl⟩ := H
        obtain ⟨Ao16, co16, eo16⟩ := Kd.V_slice HO_7.out
        subst eo16
        try go_wp2_with (first | ((with_reducible refine gate_callee (f := 45) rfl ?_); refine HW.gz (some 39) rfl rfl Tryd.func45 (by kernel_rfl) rfl #[.slice Ao16 x7_1.length co16] rfl ?_; (with_reducible refine (bsoncore_ReadElement.calls k1 (fun k_ => ((P0_ k_ ∨ w.heap.size ≤ k_) ∧ k_ ≠ gb569)) _ _ x7_1 t581 t584 true _ ?side1 A9.out).mono ?_); (case side1 => exact HO_7.out); rintro e w17 ⟨v582, v585, rfl, ho0, ho1, hb⟩; refine ⟨_, rfl, ?_⟩; have n0_ := Aside0.mk (Kd.V_below (HW.zV HO_7.out) hb); have n1_ := Aside0.mk (Kd.V_lower (Kd.V_mono (ok' := fun k_ => (P0_ k_ ∨ w.heap.size ≤ k_) ∧ k_ ≠ gb569) ho0 (fun k_ hk_ => ⟨Or.elim hk_ (fun hs_ => hs_.1) (fun hn_ => (.inr (Nat.le_trans (below_size HW.zb) hn_))), Or.elim hk_ (fun hs_ => hs_.2) (fun hn_ => (Kd.freshB (g := gb569) (o := .cells #[.int .u8 x570000_1, .slice none 0 0] 77 (0, 0)) (HW.zB BK569.out) k_ hn_))⟩)) (below_size HW.zb)); have n2_ := Aside0.mk (Kd.V_lower (Kd.V_mono (ok' := fun k_ => (P0_ k_ ∨ w.heap.size ≤ k_) ∧ k_ ≠ gb569) ho1 (fun k_ hk_ => ⟨Or.elim hk_ (fun hs_ => hs_.1) (fun hn_ => (.inr (Nat.le_trans (below_size HW.zb) hn_))), Or.elim hk_ (fun hs_ => hs_.2) (fun hn_ => (Kd.freshB (g := gb569) (o := .cells #[.int .u8 x570000_1, .slice none 0 0] 77 (0, 0)) (HW.zB BK569.out) k_ hn_))⟩)) (below_size HW.zb)); have n3_ := Aside0.mk (blk_below (g := gb569) (o := .cells #[.int .u8 x570000_1, .slice none 0 0] 77 (0, 0)) (HW.zB BK569.out) hb); have n4_ := Aside0.mk (below_step HW.zb hb); clear HO_7; clear BK569; clear HB; have HO_7 := n0_; have HO583 := n1_; have HO586 := n2_; have BK569 := n3_; have HB := n4_; clear n0_ n1_ n2_ n3_ n4_; (try clear hb); (try clear hb2); (try clear hk); (try clear hi); (try clear ho0); (try clear ho1); obtain ⟨Ao18, co18, eo18⟩ := Kd.V_slice HO583.out; subst eo18))
        have n0_ := Aside0.mk (Kd.V_drew HO_7.out)
        have n1_ := Aside0.mk (Kd.V_drew HO583.out)
        have n2_ := Aside0.mk (Kd.V_drew HO586.out)
        have n3_ := Aside0.mk (blk_drew BK569.out)
        have n4_ := Aside0.mk (below_drew1 HB.out)
        clear HO_7
        clear HO583
        clear HO586
        clear BK569
        clear HB
        have HO_7 := n0_
        have HO583 := n1_
        have HO586 := n2_
        have BK569 := n3_
        have HB := n4_
        clear n0_ n1_ n2_ n3_ n4_
        have p597 : 0 ≤ (0 : Int) := (by omega)
        have q597 : 0 < (l1.length : Int) := of_decide_eq_true (by first | (with_reducible assumption) | assumption)
        obtain ⟨ad597, e597, hx597_0⟩ := Kd.at_string HR1.out 0 p597 q597
        have hw597_0 := hx597_0
        (try rw [show ((0 : Int)).toNat = 0 from rfl] at hw597_0)
        (try rw [show 0 * 1 = 0 from rfl] at hw597_0)
        (try rw [Addr.add_zero'] at hw597_0)
        cases e597
        have qi597 : (0 < l1.length) = True := eq_true (by omega)
        (try rw [show ((0 : Int)).toNat = 0 from rfl] at hx597_0)
        (try rw [Addr.add_zero'] at hx597_0)
        replace hx597_0 := (HB.out.cell (World.block_lt_of_cell? w _ hx597_0)).trans hx597_0
        replace p597 := eq_true p597
        replace q597 := eq_true q597
        refine start_ (n := 7) (S := fun w' => w'.cell? ad597 = some (.string (rdOf ByteArray.empty l1 0))) (ds := []) #[false, false, false, false, false, false, false] (by kernel_rfl) rfl rfl (((HB.out.cell (World.block_lt_of_cell? w _ hw597_0)).trans hw597_0)) (fun hHeld => ?_)
        generalize w17.drew = w19 at HO_7 HO583 HO586 BK569 HB hx597_0 hHeld ⊢
        refine HW.pz (i := 0) (N := some 55) #[true, false, false, false, false, false, false] ?_
        refine HW.pz (i := 3) (N := some 58) #[true, false, false, true, false, false, false] ?_
        refine HW.pz (i := 4) (N := some 59) #[true, false, false, true, true, false, false] ?_
        refine take_ (i := 5) (N := some 60) (v := ?_) (a' := ?_) #[true, false, false, true, true, true, false] rfl rfl (by kernel_rfl) (fun _ _ _ h => h) (Or.inl ⟨by rfl, ?_⟩) hHeld ?_ ?_
        rotate_left
        · intro w' s0
          go_simp
          with_reducible rfl
        rotate_left
        · simp only [Act.put, List.setIfInBounds_toArray, List.set_cons_zero, List.set_cons_succ, i64_w, i32_w]
          rfl
        refine one_ (i := 1) (N := some 56) #[true, true, false, true, true, true, false] rfl rfl (by kernel_rfl) (by decide) (fun K hK => ?_)
        refine goes_ Tryd.func46 (by kernel_rfl) rfl #[.slice Ao18 t581.length co18] (by rfl) rfl rfl (by (try simp only [List.map_toArray, List.map_cons, List.map_nil]); first | done | rfl | (simp only [List.length_drop, List.length_take]; rfl)) ?_
        with_reducible refine (bsoncore_Element_KeyBytes.calls (fun k_ => ((P0_ k_ ∨ w.heap.size ≤ k_) ∧ k_ ≠ gb569)) _ _ t581 t594 _ ?side1 A11.out).mono ?_
        (case side1 => exact HO583.out)
        rintro e w20 ⟨v595, rfl, ho0, hb⟩
        refine ⟨_, rfl, ?_⟩
        have n1_ := Aside0.mk (Kd.V_below (HW.zV HO583.out) hb)
        have n3_ := Aside0.mk (Kd.V_lower (Kd.V_mono (ok' := fun k_ => (P0_ k_ ∨ w.heap.size ≤ k_) ∧ k_ ≠ gb569) ho0 (fun k_ hk_ => ⟨Or.elim hk_ (fun hs_ => hs_.1) (fun hn_ => (.inr (Nat.le_trans (below_size HW.zb) hn_))), Or.elim hk_ (fun hs_ => hs_.2) (fun hn_ => (Kd.freshB (g := gb569) (o := .cells #[.int .u8 x570000_1, .slice none 0 0] 77 (0, 0)) (HW.zB BK569.out) k_ hn_))⟩)) (below_size HW.zb))
        have n4_ := Aside0.mk (blk_below (g := gb569) (o := .cells #[.int .u8 x570000_1, .slice none 0 0] 77 (0, 0)) (HW.zB BK569.out) hb)
        have n5_ := Aside0.mk (below_step HW.zb hb)
        clear HO583
        clear BK569
        clear HB
        have HO583 := n1_
        have HO596 := n3_
        have BK569 := n4_
        have HB := n5_
        clear n1_ n3_ n4_ n5_
        (try clear hb)
        (try clear hb2)
        (try clear hk)
        (try clear hi)
        (try clear ho0)
        refine hK.out _ _ (((HB.out.cell (World.block_lt_of_cell? w _ hw597_0)).trans hw597_0)) (fun hHeld => ?_)
        clear hK K
        refine HW.nz (N := (some 56)) ?_
        refine one_ (i := 2) (N := some 57) #[true, true, true, true, true, true, false] rfl rfl (by kernel_rfl) (by decide) (fun K hK => ?_)
        have hcv21 := HW.V_string (P := Tryd.prog) Tryd.underlying23 Tryd.underlying5 Tryd.underlying9 (HO596.out)
        refine value_ (w1 := ?_) (v := ?_) (by rfl) rfl ?_ ?_
        rotate_left 2
        · go_simp
          constructor
          · rfl
          rfl
        clear hcv21
        refine hK.out _ _ (((HB.out.cell (World.block_lt_of_cell? w _ hw597_0)).trans hw597_0)) (fun hHeld => ?_)
        clear hK K
        refine HW.nz (N := (some 57)) ?_
        refine HW.pz (i := 6) (N := some 61) #[true, true, true, true, true, true, true] ?_
        refine done_ (by kernel_rfl) ?_
        try go_wp2_with (first | ((with_reducible refine gate_callee (f := 37) rfl ?_); refine HW.gz (some 108) rfl rfl Tryd.func37 (by kernel_rfl) rfl #[.slice Ao18 t581.length co18] rfl ?_; (with_reducible refine (bsoncore_Element_ValueErr.calls k1 (fun k_ => ((P0_ k_ ∨ w.heap.size ≤ k_) ∧ k_ ≠ gb569)) _ _ t581 t598 t599 t602 _ ?side1 A15.out).mono ?_); (case side1 => exact HO583.out); rintro e w22 ⟨v600, rfl, ho0, hb⟩; refine ⟨_, rfl, ?_⟩; have n4_ := Aside0.mk (Kd.V_lower (Kd.V_mono (ok' := fun k_ => (P0_ k_ ∨ w.heap.size ≤ k_) ∧ k_ ≠ gb569) ho0 (fun k_ hk_ => ⟨Or.elim hk_ (fun hs_ => hs_.1) (fun hn_ => (.inr (Nat.le_trans (below_size HW.zb) hn_))), Or.elim hk_ (fun hs_ => hs_.2) (fun hn_ => (Kd.freshB (g := gb569) (o := .cells #[.int .u8 x570000_1, .slice none 0 0] 77 (0, 0)) (HW.zB BK569.out) k_ hn_))⟩)) (below_size HW.zb)); have n5_ := Aside0.mk (blk_below (g := gb569) (o := .cells #[.int .u8 x570000_1, .slice none 0 0] 77 (0, 0)) (HW.zB BK569.out) hb); have n6_ := Aside0.mk (below_step HW.zb hb); clear BK569; clear HB; have HO601 := n4_; have BK569 := n5_; have HB := n6_; clear n4_ n5_ n6_; (try clear hb); (try clear hb2); (try clear hk); (try clear hi); (try clear ho0); (try simp only [errW_none, errW_some]); have hcz23_0 := HW.zc BK569.out 0 (.int .u8 x570000_1); have hcz23_1 := HW.zc BK569.out 1 (.slice none 0 0); have hfz24_0 := blk_frozen BK569.out 0; have hfz24_1 := blk_frozen BK569.out 1; obtain ⟨Ao25, co25, eo25⟩ := Kd.V_slice HO601.out; subst eo25))
        refine bodyPost_ret (results_ct rfl _ _ gb569 77 #[.int .u8 t598, .slice Ao25 t599.length co25] (0, 0) _ rfl (by (with_reducible repeat (first | refine blk_drewN ?_ _ | refine blk_drew ?_ | refine blk_alloc ?_ _)); refine blk_put (cs := #[.int .u8 t598, .slice none 0 0]) ?_ 1 _ rfl; (with_reducible repeat (first | refine blk_drewN ?_ _ | refine blk_drew ?_ | refine blk_alloc ?_ _)); refine blk_put (cs := #[.int .u8 x570000_1, .slice none 0 0]) ?_ 0 _ rfl; (with_reducible repeat (first | refine blk_drewN ?_ _ | refine blk_drew ?_ | refine blk_alloc ?_ _)); exact BK569.out) Tryd.underlying77 rfl (by kernel_rfl)) rfl ?_
        exact ⟨_, by first | rfl | (simp [errW_none, errW_some] <;> rfl) | (simp [*, errW_none, errW_some] <;> rfl), by (with_reducible repeat (first | apply Kd.V_alloc | apply Kd.V_drewN | apply Kd.V_drew)); exact Kd.V_mono (Kd.V_far (p := ⟨gb569, 1, none⟩) (Kd.V_far (p := ⟨gb569, 0, none⟩) (Kd.V_mono HO601.out (fun k_ hk => (⟨hk, hk.2⟩ : _ ∧ k_ ≠ gb569))) (fun _ hk => hk.2) (.int .u8 t598)) (fun _ hk => hk.2) (.slice Ao25 t599.length co25)) (fun _ hk => hk.1.1), HW.zb⟩

/-! ### bson_convertFromCoreValue: function 33 -/
def bson_convertFromCoreValue.f (a0_0 : Int) (l0_1 : List Int) : Option (Int × List Int) := some (a0_0, l0_1)
set_option maxHeartbeats 8000000 in
set_option maxRecDepth 100000 in
theorem bson_convertFromCoreValue.calls (a0_0 : Int) (P0_1_ : Nat → Prop) (A0_1 : Option Addr) (c0_1 : Nat) (l0_1 : List Int) (r1 : Int) (r2 : List Int) (w : World) (hs0_1 : Kd.V (Kd.int .u8) 5 w w.heap.size (fun k_ => P0_1_ k_) (.slice A0_1 l0_1.length c0_1) l0_1) (h : bson_convertFromCoreValue.f a0_0 l0_1 = some (r1, r2)) :
    Calls Tryd.prog 33 #[.agg #[.int .u8 a0_0, .slice A0_1 l0_1.length c0_1]] w fun e w' => ∃ v1_ : Value, e = .returned (.agg #[.int .u8 r1, v1_]) ∧ Kd.V (Kd.int .u8) 5 w' w.heap.size (fun k_ => (P0_1_ k_ ∨ w.heap.size ≤ k_)) v1_ r2 ∧ Below w.heap.size w w' := by
  have hu77 := Tryd.underlying77
  have hu54 := Tryd.underlying54
  have HO0_1 := Aside0.mk (show Kd.V (Kd.int .u8) 5 w w.heap.size (fun k_ => (P0_1_ k_ ∨ w.heap.size ≤ k_)) (.slice A0_1 l0_1.length c0_1) l0_1 from Kd.V_mono hs0_1 (fun k_ hk => .inl hk))
  have HB := Aside0.mk (Below.refl w.heap.size w)
  have H : (some (a0_0, l0_1)) = some (r1, r2) := h
  clear h
  as_aux_lemma =>
    simp only [Option.some.injEq, Prod.mk.injEq] at H
    obtain ⟨rfl, rfl⟩ := H
    go_enter Tryd.func33, Tryd.ntmps33
    go_wp2_with (first | ((with_reducible refine gate_dst (N := 1) rfl ?_); refine box_event ?hg (N := 1) ?hd (cs := #[.int .u8 a0_0, .slice A0_1 l0_1.length c0_1]) (t := 77) ?hr ?_; (case hd => rfl); (case hg => rfl); (case hr => first | (go_simp; done) | (go_simp; rfl)); intro gb603 hg w2 hbox hb; have n0_ := Aside0.mk (Kd.V_below (Kd.V_elderB (HW.zV HO0_1.out) gb603 (Nat.le_of_eq hg.symm)) hb); have n1_ := Aside0.mk (below_step HW.zb hb); have n2_ := Aside0.mk (hbox); have n4_ := Aside0.mk ((by rw [hg]; exact (below_size HW.zb) : w.heap.size ≤ gb603)); clear HO0_1; clear HB; have HO0_1 := n0_; have HB := n1_; have BK603 := n2_; have GE603 := n4_; clear n0_ n1_ n2_ n4_; clear hb hbox hg) | ((with_reducible refine gate_dst (N := 2) rfl ?_); refine box_event ?hg (N := 2) ?hd (cs := #[.int .u8 0, .slice none 0 0]) (t := 54) ?hr ?_; (case hd => rfl); (case hg => rfl); (case hr => first | (go_simp; done) | (go_simp; rfl)); intro gb604 hg w3 hbox hb; have n0_ := Aside0.mk (Kd.V_below (Kd.V_elderB (HW.zV HO0_1.out) gb604 (Nat.le_of_eq hg.symm)) hb); have n1_ := Aside0.mk (blk_below (g := gb603) (o := .cells #[.int .u8 a0_0, .slice A0_1 l0_1.length c0_1] 77 (0, 0)) (HW.zB BK603.out) hb); have n2_ := Aside0.mk (below_step HW.zb hb); have n3_ := Aside0.mk (hbox); have n5_ := Aside0.mk ((by rw [hg]; exact (below_size HW.zb) : w.heap.size ≤ gb604)); have n6_ := Aside0.mk ((by rw [hg]; exact Nat.ne_of_lt (blk_lt (g := gb603) (o := .cells #[.int .u8 a0_0, .slice A0_1 l0_1.length c0_1] 77 (0, 0)) (HW.zB BK603.out)) : gb603 ≠ gb604)); have n7_ := Aside0.mk ((by rw [hg]; exact Nat.ne_of_gt (blk_lt (g := gb603) (o := .cells #[.int .u8 a0_0, .slice A0_1 l0_1.length c0_1] 77 (0, 0)) (HW.zB BK603.out)) : gb604 ≠ gb603)); clear HO0_1; clear BK603; clear HB; have HO0_1 := n0_; have BK603 := n1_; have HB := n2_; have BK604 := n3_; have GE604 := n5_; have NB603_604 := n6_; have NB604_603 := n7_; clear n0_ n1_ n2_ n3_ n5_ n6_ n7_; clear hb hbox hg; have hnb4 := NB603_604.out; have hnc4 := NB604_603.out; have hcz5_0 := HW.zc BK603.out 0 (.int .u8 a0_0); have hcz5_1 := HW.zc BK603.out 1 (.slice A0_1 l0_1.length c0_1); have hcz6_0 := HW.zc BK604.out 0 (.int .u8 0); have hcz6_1 := HW.zc BK604.out 1 (.slice none 0 0); have hfz7_0 := blk_frozen BK604.out 0; have hfz7_1 := blk_frozen BK604.out 1))
    refine bodyPost_ret (results_cell_row rfl _ _ gb604 54 #[.int .u8 a0_0, .slice A0_1 l0_1.length c0_1] (0, 0) _ rfl (by (with_reducible repeat (first | refine blk_drewN ?_ _ | refine blk_drew ?_ | refine blk_alloc ?_ _)); refine blk_put (cs := #[.int .u8 a0_0, .slice none 0 0]) ?_ 1 _ rfl; (with_reducible repeat (first | refine blk_drewN ?_ _ | refine blk_drew ?_ | refine blk_alloc ?_ _)); refine blk_put (cs := #[.int .u8 0, .slice none 0 0]) ?_ 0 _ rfl; (with_reducible repeat (first | refine blk_drewN ?_ _ | refine blk_drew ?_ | refine blk_alloc ?_ _)); exact BK604.out) Tryd.underlying54 rfl (by kernel_rfl)) rfl ?_
    exact ⟨_, by first | rfl | (simp [errW_none, errW_some] <;> rfl) | (simp [*, errW_none, errW_some] <;> rfl), by (with_reducible repeat (first | apply Kd.V_alloc | apply Kd.V_drewN | apply Kd.V_drew)); exact Kd.V_mono (Kd.V_far (p := ⟨gb604, 1, none⟩) (Kd.V_far (p := ⟨gb604, 0, none⟩) (Kd.V_mono HO0_1.out (fun k_ hk => (⟨hk, hk.2⟩ : _ ∧ k_ ≠ gb604))) (fun _ hk => hk.2) (.int .u8 a0_0)) (fun _ hk => hk.2) (.slice A0_1 l0_1.length c0_1)) (fun _ hk => hk.1.1.1), HW.zb⟩

/-! ### bson_Raw_LookupErr: function 22 -/
def bson_Raw_LookupErr.f (k : Nat) (l0 : List Int) (l1 : List ByteArray) : Option (Int × List Int × Option Int) := (bsoncore_Document_LookupErr.f k l0 l1).bind fun bt606 => ((bson_convertFromCoreValue.f bt606.1 bt606.2.1).bind fun bt612 => (some (bt612.1, bt612.2, bt606.2.2)))
theorem bson_Raw_LookupErr.mono : ∀ a0 a1 k, LeO (bson_Raw_LookupErr.f k a0 a1) (bson_Raw_LookupErr.f (k + 1) a0 a1) := by
  intro a0 a1 k
  unfold bson_Raw_LookupErr.f
  repeat' first
      | (with_reducible exact bsoncore_Document_LookupErr.mono _ _ _)
      | (with_reducible exact LeO.refl _)
      | (with_reducible exact LeO.none _)
      | (with_reducible refine LeO.ite ?_ ?_)
      | (with_reducible refine LeO.bind ?_ (fun _ => ?_))
      | exact bsoncore_Document_LookupErr.mono _ _ _
      | exact LeO.none _
      | refine LeO.ite ?_ ?_
      | refine LeO.bind ?_ (fun _ => ?_)
set_option maxHeartbeats 8000000 in
set_option maxRecDepth 100000 in
theorem bson_Raw_LookupErr.calls (k : Nat) (P0_ : Nat → Prop) (A0 : Option Addr) (c0 : Nat) (l0 : List Int) (A1 : Option Addr) (c1 : Nat) (l1 : List ByteArray) (r1 : Int) (r2 : List Int) (r3 : Option Int) (w : World) (hs0 : Kd.V (Kd.int .u8) 5 w w.heap.size (fun k_ => P0_ k_) (.slice A0 l0.length c0) l0) (hr1 : Kd.C Kd.string w A1 l1.length l1) (hc1 : l1.length ≤ c1) (h : bson_Raw_LookupErr.f k l0 l1 = some (r1, r2, r3)) :
    Calls Tryd.prog 22 #[.slice A0 l0.length c0, .slice A1 l1.length c1] w fun e w' => ∃ v1_ : Value, e = .returned (.tuple #[.agg #[.int .u8 r1, v1_], errW r3]) ∧ Kd.V (Kd.int .u8) 5 w' w.heap.size (fun k_ => (P0_ k_ ∨ w.heap.size ≤ k_)) v1_ r2 ∧ Below w.heap.size w w' := by
  have hu54 := Tryd.underlying54
  have hu77 := Tryd.underlying77
  have HO0 := Aside0.mk (show Kd.V (Kd.int .u8) 5 w w.heap.size (fun k_ => (P0_ k_ ∨ w.heap.size ≤ k_)) (.slice A0 l0.length c0) l0 from Kd.V_mono hs0 (fun k_ hk => .inl hk))
  have HR1 := Aside0.mk hr1
  have HC1 := Aside0.mk hc1
  clear hr1 hc1
  have HB := Aside0.mk (Below.refl w.heap.size w)
  have H : ((bsoncore_Document_LookupErr.f k l0 l1).bind fun bt606 => ((bson_convertFromCoreValue.f bt606.1 bt606.2.1).bind fun bt612 => (some (bt612.1, bt612.2, bt606.2.2)))) = some (r1, r2, r3) := h
  clear h
  replace H := Option.bind_eq_some_iff.mp H
  obtain ⟨⟨t606, t607, t610⟩, A30, H⟩ := H
  replace H : ((bson_convertFromCoreValue.f t606 t607).bind fun bt612 => (some (bt612.1, bt612.2, t610))) = some (r1, r2, r3) := H
  have A3 := Aside0.mk A30
  clear A30
  replace H := Option.bind_eq_some_iff.mp H
  obtain ⟨⟨t612, t613⟩, A40, H⟩ := H
  replace H : (some (t612, t613, t610)) = some (r1, r2, r3) := H
  have A4 := Aside0.mk A40
  clear A40
  as_aux_lemma =>
    simp only [Option.some.injEq, Prod.mk.injEq] at H
    obtain ⟨rfl, rfl, rfl⟩ := H
    go_enter Tryd.func22, Tryd.ntmps22
    go_wp2_with (first | ((with_reducible refine gate_dst (N := 4) rfl ?_); refine box_event ?hg (N := 4) ?hd (cs := #[.int .u8 0, .slice none 0 0]) (t := 54) ?hr ?_; (case hd => rfl); (case hg => rfl); (case hr => first | (go_simp; done) | (go_simp; rfl)); intro gb605 hg w5 hbox hb; have n0_ := Aside0.mk (Kd.V_below (Kd.V_elderB (HW.zV HO0.out) gb605 (Nat.le_of_eq hg.symm)) hb); have n1_ := Aside0.mk (below_step HW.zb hb); have n2_ := Aside0.mk (hbox); have n4_ := Aside0.mk ((by rw [hg]; exact (below_size HW.zb) : w.heap.size ≤ gb605)); clear HO0; clear HB; have HO0 := n0_; have HB := n1_; have BK605 := n2_; have GE605 := n4_; clear n0_ n1_ n2_ n4_; clear hb hbox hg) | ((with_reducible refine gate_callee (f := 32) rfl ?_); refine HW.gz (some 11) rfl rfl Tryd.func32 (by kernel_rfl) rfl #[.slice A0 l0.length c0, .slice A1 l1.length c1] rfl ?_; (with_reducible refine (bsoncore_Document_LookupErr.calls k (fun k_ => ((P0_ k_ ∨ w.heap.size ≤ k_) ∧ k_ ≠ gb605)) _ _ l0 _ _ l1 t606 t607 t610 _ ?side1 ?side2 ?side3 A3.out).mono ?_); (case side1 => exact HO0.out); (case side2 => repeat (first | exact (Kd.C_below HR1.out HB.out) | (with_reducible refine Kd.C_alloc ?_ _) | (with_reducible refine Kd.C_drewN ?_ _) | (with_reducible refine Kd.C_drew ?_))); (case side3 => exact HC1.out); rintro e w6 ⟨v608, rfl, ho0, hb⟩; refine ⟨_, rfl, ?_⟩; have n0_ := Aside0.mk (Kd.V_below (HW.zV HO0.out) hb); have n1_ := Aside0.mk (Kd.V_lower (Kd.V_mono (ok' := fun k_ => (P0_ k_ ∨ w.heap.size ≤ k_) ∧ k_ ≠ gb605) ho0 (fun k_ hk_ => ⟨Or.elim hk_ (fun hs_ => hs_.1) (fun hn_ => (.inr (Nat.le_trans (below_size HW.zb) hn_))), Or.elim hk_ (fun hs_ => hs_.2) (fun hn_ => (Kd.freshB (g := gb605) (o := .cells #[.int .u8 0, .slice none 0 0] 54 (0, 0)) (HW.zB BK605.out) k_ hn_))⟩)) (below_size HW.zb)); have n2_ := Aside0.mk (blk_below (g := gb605) (o := .cells #[.int .u8 0, .slice none 0 0] 54 (0, 0)) (HW.zB BK605.out) hb); have n3_ := Aside0.mk (below_step HW.zb hb); clear HO0; clear BK605; clear HB; have HO0 := n0_; have HO609 := n1_; have BK605 := n2_; have HB := n3_; clear n0_ n1_ n2_ n3_; (try clear hb); (try clear hb2); (try clear hk); (try clear hi); (try clear ho0); (try simp only [errW_none, errW_some])) | ((with_reducible refine gate_dst (N := 6) rfl ?_); refine box_event ?hg (N := 6) ?hd (cs := #[.int .u8 0, .slice none 0 0]) (t := 77) ?hr ?_; (case hd => rfl); (case hg => rfl); (case hr => first | (go_simp; done) | (go_simp; rfl)); intro gb611 hg w7 hbox hb; have n0_ := Aside0.mk (Kd.V_below (Kd.V_elderB (HW.zV HO0.out) gb611 (Nat.le_of_eq hg.symm)) hb); have n1_ := Aside0.mk (Kd.V_below (Kd.V_elderB (HW.zV HO609.out) gb611 (Nat.le_of_eq hg.symm)) hb); have n2_ := Aside0.mk (blk_below (g := gb605) (o := .cells #[.int .u8 0, .slice none 0 0] 54 (0, 0)) (HW.zB BK605.out) hb); have n3_ := Aside0.mk (below_step HW.zb hb); have n4_ := Aside0.mk (hbox); have n6_ := Aside0.mk ((by rw [hg]; exact (below_size HW.zb) : w.heap.size ≤ gb611)); have n7_ := Aside0.mk ((by rw [hg]; exact Nat.ne_of_lt (blk_lt (g := gb605) (o := .cells #[.int .u8 0, .slice none 0 0] 54 (0, 0)) (HW.zB BK605.out)) : gb605 ≠ gb611)); have n8_ := Aside0.mk ((by rw [hg]; exact Nat.ne_of_gt (blk_lt (g := gb605) (o := .cells #[.int .u8 0, .slice none 0 0] 54 (0, 0)) (HW.zB BK605.out)) : gb611 ≠ gb605)); clear HO0; clear HO609; clear BK605; clear HB; have HO0 := n0_; have HO609 := n1_; have BK605 := n2_; have HB := n3_; have BK611 := n4_; have GE611 := n6_; have NB605_611 := n7_; have NB611_605 := n8_; clear n0_ n1_ n2_ n3_ n4_ n6_ n7_ n8_; clear hb hbox hg; have hnb8 := NB611_605.out; have hnc8 := NB605_611.out; have hcz9_0 := HW.zc BK611.out 0 (.int .u8 0); have hcz9_1 := HW.zc BK611.out 1 (.slice none 0 0); have hfz10_0 := blk_frozen BK611.out 0; have hfz10_1 := blk_frozen BK611.out 1; obtain ⟨Ao11, co11, eo11⟩ := Kd.V_slice HO609.out; subst eo11) | ((with_reducible refine gate_store (t := 77) (p := 6) rfl ?_); refine store_event (t := 77) (p := 6) (v := ?vo_w12) (w1 := ((w7.setCell ⟨gb611, 0, none⟩ (.int .u8 t606)).setCell ⟨gb611, 1, none⟩ (.slice Ao11 t607.length co11))) ?hg ?ho ?hn ?hr ?_; (case ho => rfl); (case hg => rfl); (case hn => rfl); (case hr => first | (go_simp; done) | (go_simp; rfl)); intro w12 hw; have n0_ : Aside0 (Kd.V (Kd.int .u8) 5 w12 w.heap.size (fun k_ => (P0_ k_ ∨ w.heap.size ≤ k_) ∧ k_ ≠ gb605 ∧ k_ ≠ gb611) (.slice A0 l0.length c0) l0) := ⟨(by rw [hw]; exact (by (with_reducible repeat (first | apply Kd.V_alloc | apply Kd.V_drewN | apply Kd.V_drew)); exact Kd.V_mono (Kd.V_far (p := ⟨gb611, 1, none⟩) (Kd.V_far (p := ⟨gb611, 0, none⟩) (Kd.V_mono HO0.out (fun k_ hk => (⟨hk, hk.2⟩ : _ ∧ k_ ≠ gb611))) (fun _ hk => hk.2) (.int .u8 t606)) (fun _ hk => hk.2) (.slice Ao11 t607.length co11)) (fun _ hk => ⟨hk.1.1.1, ⟨hk.1.1.2, hk.1.2⟩⟩)))⟩; have n1_ : Aside0 (Kd.V (Kd.int .u8) 5 w12 w.heap.size (fun k_ => (P0_ k_ ∨ w.heap.size ≤ k_) ∧ k_ ≠ gb605 ∧ k_ ≠ gb611) (.slice Ao11 t607.length co11) t607) := ⟨(by rw [hw]; exact (by (with_reducible repeat (first | apply Kd.V_alloc | apply Kd.V_drewN | apply Kd.V_drew)); exact Kd.V_mono (Kd.V_far (p := ⟨gb611, 1, none⟩) (Kd.V_far (p := ⟨gb611, 0, none⟩) (Kd.V_mono HO609.out (fun k_ hk => (⟨hk, hk.2⟩ : _ ∧ k_ ≠ gb611))) (fun _ hk => hk.2) (.int .u8 t606)) (fun _ hk => hk.2) (.slice Ao11 t607.length co11)) (fun _ hk => ⟨hk.1.1.1, ⟨hk.1.1.2, hk.1.2⟩⟩)))⟩; have n2_ : Aside0 (w12.heap[gb605]? = some (.cells #[.int .u8 0, .slice none 0 0] 54 (0, 0))) := ⟨(by rw [hw]; exact (by (with_reducible repeat (first | refine blk_drewN ?_ _ | refine blk_drew ?_ | refine blk_alloc ?_ _)); refine blk_far ?_ NB605_611.out _; (with_reducible repeat (first | refine blk_drewN ?_ _ | refine blk_drew ?_ | refine blk_alloc ?_ _)); refine blk_far ?_ NB605_611.out _; (with_reducible repeat (first | refine blk_drewN ?_ _ | refine blk_drew ?_ | refine blk_alloc ?_ _)); exact BK605.out))⟩; have n3_ : Aside0 (w12.heap[gb611]? = some (.cells #[.int .u8 t606, .slice Ao11 t607.length co11] 77 (0, 0))) := ⟨(by rw [hw]; exact (by (with_reducible repeat (first | refine blk_drewN ?_ _ | refine blk_drew ?_ | refine blk_alloc ?_ _)); refine blk_put (cs := #[.int .u8 t606, .slice none 0 0]) ?_ 1 _ rfl; (with_reducible repeat (first | refine blk_drewN ?_ _ | refine blk_drew ?_ | refine blk_alloc ?_ _)); refine blk_put (cs := #[.int .u8 0, .slice none 0 0]) ?_ 0 _ rfl; (with_reducible repeat (first | refine blk_drewN ?_ _ | refine blk_drew ?_ | refine blk_alloc ?_ _)); exact BK611.out))⟩; have n4_ : Aside0 (Below w.heap.size w w12) := ⟨(by rw [hw]; exact HW.zb)⟩; clear hw; clear HO0; clear HO609; clear BK605; clear BK611; clear HB; have HO0 := n0_; have HO609 := n1_; have BK605 := n2_; have BK611 := n3_; have HB := n4_; clear n0_ n1_ n2_ n3_ n4_; have hcz13_0 := HW.zc BK611.out 0 (.int .u8 t606); have hcz13_1 := HW.zc BK611.out 1 (.slice Ao11 t607.length co11)) | ((with_reducible refine gate_callee (f := 33) rfl ?_); refine HW.gz (some 15) rfl rfl Tryd.func33 (by kernel_rfl) rfl #[.agg #[.int .u8 t606, .slice Ao11 t607.length co11]] rfl ?_; (with_reducible refine (bson_convertFromCoreValue.calls t606 (fun k_ => ((P0_ k_ ∨ w.heap.size ≤ k_) ∧ (k_ ≠ gb605 ∧ k_ ≠ gb611))) _ _ t607 t612 t613 _ ?side1 A4.out).mono ?_); (case side1 => exact HO609.out); rintro e w14 ⟨v614, rfl, ho0, hb⟩; refine ⟨_, rfl, ?_⟩; have n2_ := Aside0.mk (Kd.V_lower (Kd.V_mono (ok' := fun k_ => (P0_ k_ ∨ w.heap.size ≤ k_) ∧ k_ ≠ gb605 ∧ k_ ≠ gb611) ho0 (fun k_ hk_ => ⟨Or.elim hk_ (fun hs_ => hs_.1) (fun hn_ => (.inr (Nat.le_trans (below_size HW.zb) hn_))), Or.elim hk_ (fun hs_ => hs_.2.1) (fun hn_ => (Kd.freshB (g := gb605) (o := .cells #[.int .u8 0, .slice none 0 0] 54 (0, 0)) (HW.zB BK605.out) k_ hn_)), Or.elim hk_ (fun hs_ => hs_.2.2) (fun hn_ => (Kd.freshB (g := gb611) (o := .cells #[.int .u8 t606, .slice Ao11 t607.length co11] 77 (0, 0)) (HW.zB BK611.out) k_ hn_))⟩)) (below_size HW.zb)); have n3_ := Aside0.mk (blk_below (g := gb605) (o := .cells #[.int .u8 0, .slice none 0 0] 54 (0, 0)) (HW.zB BK605.out) hb); have n5_ := Aside0.mk (below_step HW.zb hb); clear BK605; clear HB; have HO615 := n2_; have BK605 := n3_; have HB := n5_; clear n2_ n3_ n5_; (try clear hb); (try clear hb2); (try clear hk); (try clear hi); (try clear ho0); have hcz15_0 := HW.zc BK605.out 0 (.int .u8 0); have hcz15_1 := HW.zc BK605.out 1 (.slice none 0 0); have hfz16_0 := blk_frozen BK605.out 0; have hfz16_1 := blk_frozen BK605.out 1; obtain ⟨Ao17, co17, eo17⟩ := Kd.V_slice HO615.out; subst eo17))
    refine bodyPost_ret (results_ct rfl _ _ gb605 54 #[.int .u8 t612, .slice Ao17 t613.length co17] (0, 0) _ rfl (by (with_reducible repeat (first | refine blk_drewN ?_ _ | refine blk_drew ?_ | refine blk_alloc ?_ _)); refine blk_put (cs := #[.int .u8 t612, .slice none 0 0]) ?_ 1 _ rfl; (with_reducible repeat (first | refine blk_drewN ?_ _ | refine blk_drew ?_ | refine blk_alloc ?_ _)); refine blk_put (cs := #[.int .u8 0, .slice none 0 0]) ?_ 0 _ rfl; (with_reducible repeat (first | refine blk_drewN ?_ _ | refine blk_drew ?_ | refine blk_alloc ?_ _)); exact BK605.out) Tryd.underlying54 rfl (by kernel_rfl)) rfl ?_
    exact ⟨_, by first | rfl | (simp [errW_none, errW_some] <;> rfl) | (simp [*, errW_none, errW_some] <;> rfl), by (with_reducible repeat (first | apply Kd.V_alloc | apply Kd.V_drewN | apply Kd.V_drew)); exact Kd.V_mono (Kd.V_far (p := ⟨gb605, 1, none⟩) (Kd.V_far (p := ⟨gb605, 0, none⟩) (Kd.V_mono HO615.out (fun k_ hk => (⟨hk, hk.2.1⟩ : _ ∧ k_ ≠ gb605))) (fun _ hk => hk.2) (.int .u8 t612)) (fun _ hk => hk.2) (.slice Ao17 t613.length co17)) (fun _ hk => hk.1.1), HW.zb⟩

/-! ### impl_own: function 26 -/
def impl_own.f (l0 : List Int) : Option (List Int) := if ([] : List Int).length + l0.length < 140737488355328 then (some (([] : List Int) ++ l0)) else (none)
set_option maxHeartbeats 8000000 in
set_option maxRecDepth 100000 in
theorem impl_own.calls (A0 : Option Addr) (c0 : Nat) (l0 : List Int) (r : List Int) (w : World) (hr0 : Kd.C (Kd.int .u8) w A0 l0.length l0) (hc0 : l0.length ≤ c0) (h : impl_own.f l0 = some r) :
    Calls Tryd.prog 26 #[.slice A0 l0.length c0] w fun e w' => ∃ v0_ : Value, e = .returned (v0_) ∧ Kd.R (Kd.int .u8) 5 w' w.heap.size (fun _ => True) v0_ r ∧ Below w.heap.size w w' := by
  have HR0 := Aside0.mk hr0
  have HC0 := Aside0.mk hc0
  clear hr0 hc0
  have HB := Aside0.mk (Below.refl w.heap.size w)
  have H : (if ([] : List Int).length + l0.length < 140737488355328 then (some (([] : List Int) ++ l0)) else (none)) = some r := h
  clear h
  by_cases c2 : ([] : List Int).length + l0.length < 140737488355328
  rotate_left
  · rw [if_neg c2] at H
    exact absurd H (by simp)
  rw [if_pos c2] at H
  have LMc2 := Aside0.mk c2
  clear c2
  obtain ⟨y616, hy616⟩ : ∃ y_ : List Int, y_ = (([] : List Int) ++ l0) := ⟨_, rfl⟩
  replace H : (some y616) = some r := by first | (rw [hy616]; with_reducible exact H) | (have H2_ := (Option.bind_some _ _).symm.trans H; rw [hy616]; with_reducible exact H2_) | (have H2_ := (Option.bind_some _ _).symm.trans H; with_reducible exact H2_) | with_reducible exact H | (rw [hy616]; exact H) | exact H
  have Ny616 := Aside0.mk hy616
  clear hy616
  as_aux_lemma =>
    obtain rfl := Option.some.inj H
    go_enter Tryd.func26, Tryd.ntmps26
    go_wp2_with (first | ((with_reducible refine gate_builtin (b := .append) (xs := #[.const (.slice none 0 0), .tmp 3]) rfl ?_); at_builtin; refine Kd.R_append_rows (Kd.int .u8) (w0 := w) w.heap.size rfl (.const (.slice none 0 0)) (.tmp 3) 23 5 (.int .u8 0) 1 rfl Tryd.underlying23 info5 rfl (by decide) (by omega) (.slice none 0 0) ([] : List Int) l0 _ _ _ (fun _ => True) (fun _ => False) rfl rfl ?aO ?aR (fun _ _ h => h) (fun _ h => h.elim) ?aF ?aB ?aS ?aL ?_; (case aR => repeat (first | exact HR0.out | (with_reducible refine Kd.C_alloc ?_ _) | (with_reducible refine Kd.C_drewN ?_ _) | (with_reducible refine Kd.C_drew ?_))); (case aB => exact HW.zb); (case aF => exact (fun _ _ => trivial)); (case aO => exact ((Kd.R_nil _ _ _ _ (fun _ => True)))); (case aS => exact (below_size HW.zb)); (case aL => have := LMc2.out; omega); intro v617 w3 ho hb hg hat; rw [← Ny616.out] at ho; have n0_ := Aside0.mk (hb); have n1_ := Aside0.mk (ho); clear HB; have HB := n0_; have HO618 := n1_; clear n0_ n1_; clear ho hb hg hat))
    go_ret
    exact ⟨_, by first | rfl | (simp [errW_none, errW_some] <;> rfl) | (simp [*, errW_none, errW_some] <;> rfl), HW.zR HO618.out, HW.zb⟩

/-! ### impl_some1: function 23 -/
def impl_some1.f (a0_0 : Int) (l0_1 : List Int) : Option (Int × List Int) := (impl_own.f l0_1).bind fun t621 => (some (wrap64 (a0_0), t621))
def impl_some1.T1 : Bool × List (List Nat × List Nat) := (true, [([], []), ([0], [0]), ([1], [1]), ([], []), ([3], [3]), ([4], [4]), ([2, 5], [2, 5]), ([6, 5, 0, 1, 2, 3, 4, 5, 6], [6])])
def impl_some1.B1 : List Nat := [0, 1, 3, 0, 8, 24, 63, 127]
theorem impl_some1.tab1 : rtab .any (opsOf Tryd.f23 1) = impl_some1.T1 := by kernel_rfl
theorem impl_some1.bits1 : waitsOk impl_some1.T1.2 impl_some1.B1 = true := by kernel_rfl
set_option maxHeartbeats 8000000 in
set_option maxRecDepth 100000 in
theorem impl_some1.calls (a0_0 : Int) (A0_1 : Option Addr) (c0_1 : Nat) (l0_1 : List Int) (r1 : Int) (r2 : List Int) (w : World) (hr0_1 : Kd.C (Kd.int .u8) w A0_1 l0_1.length l0_1) (hc0_1 : l0_1.length ≤ c0_1) (h : impl_some1.f a0_0 l0_1 = some (r1, r2)) :
    Calls Tryd.prog 23 #[.agg #[.int .u8 a0_0, .slice A0_1 l0_1.length c0_1]] w fun e w' => ∃ v1_ : Value, e = .returned (.agg #[.int .i64 r1, v1_]) ∧ Kd.R (Kd.int .u8) 5 w' w.heap.size (fun _ => True) v1_ r2 ∧ Below w.heap.size w w' := by
  have hu54 := Tryd.underlying54
  have hu36 := Tryd.underlying36
  have HR0_1 := Aside0.mk hr0_1
  have HC0_1 := Aside0.mk hc0_1
  clear hr0_1 hc0_1
  have HB := Aside0.mk (Below.refl w.heap.size w)
  have H : ((impl_own.f l0_1).bind fun t621 => (some (wrap64 (a0_0), t621))) = some (r1, r2) := h
  clear h
  replace H := Option.bind_eq_some_iff.mp H
  obtain ⟨t621, A20, H⟩ := H
  replace H : (some (wrap64 (a0_0), t621)) = some (r1, r2) := H
  have A2 := Aside0.mk A20
  clear A20
  as_aux_lemma =>
    simp only [Option.some.injEq, Prod.mk.injEq] at H
    obtain ⟨rfl, rfl⟩ := H
    go_enter Tryd.func23, Tryd.ntmps23
    try go_wp2_with (first | ((with_reducible refine gate_dst (N := 1) rfl ?_); refine box_event ?hg (N := 1) ?hd (cs := #[.int .u8 a0_0, .slice A0_1 l0_1.length c0_1]) (t := 54) ?hr ?_; (case hd => rfl); (case hg => rfl); (case hr => first | (go_simp; done) | (go_simp; rfl)); intro gb619 hg w3 hbox hb; have n0_ := Aside0.mk (below_step HW.zb hb); have n1_ := Aside0.mk (hbox); have n3_ := Aside0.mk ((by rw [hg]; exact (below_size HW.zb) : w.heap.size ≤ gb619)); clear HB; have HB := n0_; have BK619 := n1_; have GE619 := n3_; clear n0_ n1_ n3_; clear hb hbox hg) | ((with_reducible refine gate_dst (N := 2) rfl ?_); refine box_event ?hg (N := 2) ?hd (cs := #[.int .i64 0, .slice none 0 0]) (t := 36) ?hr ?_; (case hd => rfl); (case hg => rfl); (case hr => first | (go_simp; done) | (go_simp; rfl)); intro gb620 hg w4 hbox hb; have n0_ := Aside0.mk (blk_below (g := gb619) (o := .cells #[.int .u8 a0_0, .slice A0_1 l0_1.length c0_1] 54 (0, 0)) (HW.zB BK619.out) hb); have n1_ := Aside0.mk (below_step HW.zb hb); have n2_ := Aside0.mk (hbox); have n4_ := Aside0.mk ((by rw [hg]; exact (below_size HW.zb) : w.heap.size ≤ gb620)); have n5_ := Aside0.mk ((by rw [hg]; exact Nat.ne_of_lt (blk_lt (g := gb619) (o := .cells #[.int .u8 a0_0, .slice A0_1 l0_1.length c0_1] 54 (0, 0)) (HW.zB BK619.out)) : gb619 ≠ gb620)); have n6_ := Aside0.mk ((by rw [hg]; exact Nat.ne_of_gt (blk_lt (g := gb619) (o := .cells #[.int .u8 a0_0, .slice A0_1 l0_1.length c0_1] 54 (0, 0)) (HW.zB BK619.out)) : gb620 ≠ gb619)); clear BK619; clear HB; have BK619 := n0_; have HB := n1_; have BK620 := n2_; have GE620 := n4_; have NB619_620 := n5_; have NB620_619 := n6_; clear n0_ n1_ n2_ n4_ n5_ n6_; clear hb hbox hg))
    have n0_ := Aside0.mk (blk_drew BK619.out)
    have n1_ := Aside0.mk (blk_drew BK620.out)
    have n2_ := Aside0.mk (below_drew1 HB.out)
    clear BK619
    clear BK620
    clear HB
    have BK619 := n0_
    have BK620 := n1_
    have HB := n2_
    clear n0_ n1_ n2_
    refine start_ (n := 8) (S := fun w' => w'.cell? ⟨gb619, 0, none⟩ = some (.int .u8 a0_0) ∧ w'.cell? ⟨gb619, 1, none⟩ = some (.slice A0_1 l0_1.length c0_1)) (ds := []) #[false, false, false, false, false, false, false, false] (by kernel_rfl) rfl rfl ⟨(blk_cell BK619.out 0).trans rfl, (blk_cell BK619.out 1).trans rfl⟩ (fun hHeld => ?_); refine with_tabW impl_some1.tab1 impl_some1.bits1 (fun HT_ HW_ => ?_)
    generalize w4.drew = w5 at BK619 BK620 HB hHeld ⊢
    refine HW.pz (i := 0) (N := some 3) #[true, false, false, false, false, false, false, false] ?_ (hc := any_of HT_.out (by kernel_rfl))
    refine HW.pz (i := 3) (N := some 6) #[true, false, false, true, false, false, false, false] ?_ (hc := any_of HT_.out (by kernel_rfl))
    refine take_ (i := 1) (N := some 4) (v := ?_) (a' := ?_) #[true, true, false, true, false, false, false, false] rfl rfl (take_ofW HT_.out HW_.out (by kernel_rfl)) (fun _ _ _ h => h) (Or.inl ⟨by rfl, ?_⟩) hHeld ?_ ?_
    rotate_left
    · rintro w' ⟨s0, s1⟩
      go_simp
      with_reducible rfl
    rotate_left
    · simp only [Act.put, List.setIfInBounds_toArray, List.set_cons_zero, List.set_cons_succ, i64_w, i32_w]
      rfl
    refine HW.pz (i := 2) (N := some 5) #[true, true, true, true, false, false, false, false] ?_ (hc := any_of HT_.out (by kernel_rfl))
    refine take_ (i := 4) (N := some 7) (v := ?_) (a' := ?_) #[true, true, true, true, true, false, false, false] rfl rfl (take_ofW HT_.out HW_.out (by kernel_rfl)) (fun _ _ _ h => h) (Or.inl ⟨by rfl, ?_⟩) hHeld ?_ ?_
    rotate_left
    · rintro w' ⟨s0, s1⟩
      go_simp
      with_reducible rfl
    rotate_left
    · simp only [Act.put, List.setIfInBounds_toArray, List.set_cons_zero, List.set_cons_succ, i64_w, i32_w]
      rfl
    refine one_ (i := 5) (N := some 8) #[true, true, true, true, true, true, false, false] rfl rfl (one_of HT_.out (by kernel_rfl)) (by decide) (fun K hK => ?_)
    refine goes_ Tryd.func26 (by kernel_rfl) rfl #[.slice A0_1 l0_1.length c0_1] (by rfl) rfl rfl (by (try simp only [List.map_toArray, List.map_cons, List.map_nil]); first | done | rfl | (simp only [List.length_drop, List.length_take]; rfl)) ?_
    with_reducible refine (impl_own.calls _ _ l0_1 t621 _ ?side1 ?side2 A2.out).mono ?_
    (case side1 => repeat (first | exact (Kd.C_below HR0_1.out HB.out) | (with_reducible refine Kd.C_alloc ?_ _) | (with_reducible refine Kd.C_drewN ?_ _) | (with_reducible refine Kd.C_drew ?_)))
    (case side2 => exact HC0_1.out)
    rintro e w6 ⟨v622, rfl, ho0, hb⟩
    refine ⟨_, rfl, ?_⟩
    have n0_ := Aside0.mk (Kd.R_lower ho0 (below_size HW.zb))
    have n1_ := Aside0.mk (blk_below (g := gb619) (o := .cells #[.int .u8 a0_0, .slice A0_1 l0_1.length c0_1] 54 (0, 0)) (HW.zB BK619.out) hb)
    have n2_ := Aside0.mk (blk_below (g := gb620) (o := .cells #[.int .i64 0, .slice none 0 0] 36 (0, 0)) (HW.zB BK620.out) hb)
    have n3_ := Aside0.mk (below_step HW.zb hb)
    clear BK619
    clear BK620
    clear HB
    have HO623 := n0_
    have BK619 := n1_
    have BK620 := n2_
    have HB := n3_
    clear n0_ n1_ n2_ n3_
    (try clear hb)
    (try clear hb2)
    (try clear hk)
    (try clear hi)
    (try clear ho0)
    obtain ⟨Ao7, co7, eo7⟩ := Kd.R_slice HO623.out
    (first | subst eo7 | (injection eo7 with f1_ f2_ f3_; have f4_ := f1_.symm; have f5_ := f3_.symm; clear f1_ f2_ f3_; subst f4_; subst f5_))
    refine hK.out _ _ ⟨(blk_cell BK619.out 0).trans rfl, (blk_cell BK619.out 1).trans rfl⟩ (fun hHeld => ?_)
    clear hK K
    refine HW.nz (N := (some 8)) ?_
    refine HW.pz (i := 6) (N := some 9) #[true, true, true, true, true, true, true, false] ?_ (hc := any_of HT_.out (by kernel_rfl))
    refine one_ (i := 7) (N := none) #[true, true, true, true, true, true, true, true] rfl rfl (one_of HT_.out (by kernel_rfl)) (by decide) (fun K hK => ?_)
    have hs8 : w6.cell? ⟨gb620, 0, none⟩ = some (.int .i64 0) := (blk_cell BK620.out 0).trans rfl
    have hfs8 := blk_frozen BK620.out 0
    have hns8_0 := NB619_620.out
    have hms8_0 := NB620_619.out
    have hs9 : w6.cell? ⟨gb620, 1, none⟩ = some (.slice none 0 0) := (blk_cell BK620.out 1).trans rfl
    have hfs9 := blk_frozen BK620.out 1
    have hns9_0 := NB619_620.out
    have hms9_0 := NB620_619.out
    refine skip_ (w1 := ?_) (by rfl) rfl ?_ ?_
    rotate_left
    · go_simp
      rfl
    refine hK.out _ _ ⟨((cell_far (p := ⟨gb620, _, none⟩) NB619_620.out _).trans (((cell_far (p := ⟨gb620, _, none⟩) NB619_620.out _).trans (hHeld.1)))), ((cell_far (p := ⟨gb620, _, none⟩) NB619_620.out _).trans (((cell_far (p := ⟨gb620, _, none⟩) NB619_620.out _).trans (hHeld.2))))⟩ (fun hHeld => ?_)
    clear hK K
    refine done_ (done_of HT_.out (by kernel_rfl)) ?_
    try go_wp2
    refine bodyPost_ret (results_cell_row rfl _ _ gb620 36 #[.int .i64 (wrap64 (a0_0)), .slice Ao7 t621.length co7] (0, 0) _ rfl (by (with_reducible repeat (first | refine blk_drewN ?_ _ | refine blk_drew ?_ | refine blk_alloc ?_ _)); refine blk_put (cs := #[.int .i64 (wrap64 (a0_0)), .slice none 0 0]) ?_ 1 _ rfl; (with_reducible repeat (first | refine blk_drewN ?_ _ | refine blk_drew ?_ | refine blk_alloc ?_ _)); refine blk_put (cs := #[.int .i64 0, .slice none 0 0]) ?_ 0 _ rfl; (with_reducible repeat (first | refine blk_drewN ?_ _ | refine blk_drew ?_ | refine blk_alloc ?_ _)); exact BK620.out) Tryd.underlying36 rfl (by kernel_rfl)) rfl ?_
    exact ⟨_, by first | rfl | (simp [errW_none, errW_some] <;> rfl) | (simp [*, errW_none, errW_some] <;> rfl), by (with_reducible repeat (first | apply Kd.R_alloc | apply Kd.R_drewN | apply Kd.R_drew)); exact Kd.R_mono (Kd.R_far (p := ⟨gb620, 1, none⟩) (Kd.R_far (p := ⟨gb620, 0, none⟩) (Kd.R_types HO623.out BK620.out (by decide)) (fun _ hk => hk.2) (.int .i64 (wrap64 (a0_0)))) (fun _ hk => hk.2) (.slice Ao7 t621.length co7)) (fun _ hk => trivial), HW.zb⟩

-- NOT PRINTED: function 51 (reflectlite_TypeOf)

-- NOT PRINTED: function 52 (errors_is)

-- NOT PRINTED: function 34 (errors_Is)

/-! ### impl_code: function 24 -/
def impl_code.f (a0 : Option Int) : Option (Int) := if a0.isNone = true then (some 0) else (none)
set_option maxHeartbeats 8000000 in
set_option maxRecDepth 100000 in
theorem impl_code.calls (a0 : Option Int) (r : Int) (w : World) (h : impl_code.f a0 = some r) :
    Calls Tryd.prog 24 #[errW a0] w fun e w' => e = .returned (.int .i64 r) ∧ Below w.heap.size w w' := by
  have hu83 := Tryd.underlying83
  have hu87 := Tryd.underlying87
  have hu56 := Tryd.underlying56
  have HB := Aside0.mk (Below.refl w.heap.size w)
  have H : (if a0.isNone = true then (some 0) else (none)) = some r := h
  clear h
  rcases a0 with _ | q624
  rotate_left
  · have H1 : (none) = some r := by rw [if_neg (show ¬ (some q624).isNone = true by simp)] at H; exact H
    clear H
    have H := H1
    clear H1
    simp only [errW_none, errW_some]
    exact absurd H (by simp)
  have H1 : (some 0) = some r := by rw [if_pos (show (none : Option Int).isNone = true by rfl)] at H; exact H
  clear H
  have H := H1
  clear H1
  simp only [errW_none, errW_some]
  as_aux_lemma =>
    obtain rfl := Option.some.inj H
    go_enter Tryd.func24, Tryd.ntmps24
    go_wp2
    go_ret
    exact ⟨by first | rfl | (simp [errW_none, errW_some] <;> rfl) | (simp [*, errW_none, errW_some] <;> rfl), HW.zb⟩

/-! ### impl_RawLookup: function 11 -/
def impl_RawLookup.f (k : Nat) (l0 : List Int) (l1 : List ByteArray) : Option (Int × List Int × Int) := (bson_Raw_LookupErr.f k l0 l1).bind fun bt626 => ((impl_some1.f bt626.1 bt626.2.1).bind fun bt632 => ((impl_code.f bt626.2.2).bind fun t636 => (some (bt632.1, bt632.2, t636))))
theorem impl_RawLookup.mono : ∀ a0 a1 k, LeO (impl_RawLookup.f k a0 a1) (impl_RawLookup.f (k + 1) a0 a1) := by
  intro a0 a1 k
  unfold impl_RawLookup.f
  repeat' first
      | (with_reducible exact bson_Raw_LookupErr.mono _ _ _)
      | (with_reducible exact LeO.refl _)
      | (with_reducible exact LeO.none _)
      | (with_reducible refine LeO.ite ?_ ?_)
      | (with_reducible refine LeO.bind ?_ (fun _ => ?_))
      | exact bson_Raw_LookupErr.mono _ _ _
      | exact LeO.none _
      | refine LeO.ite ?_ ?_
      | refine LeO.bind ?_ (fun _ => ?_)
set_option maxHeartbeats 8000000 in
set_option maxRecDepth 100000 in
theorem impl_RawLookup.calls (k : Nat) (A0 : Option Addr) (c0 : Nat) (l0 : List Int) (A1 : Option Addr) (c1 : Nat) (l1 : List ByteArray) (r1 : Int) (r2 : List Int) (r3 : Int) (w : World) (hr0 : Kd.C (Kd.int .u8) w A0 l0.length l0) (hc0 : l0.length ≤ c0) (hr1 : Kd.C Kd.string w A1 l1.length l1) (hc1 : l1.length ≤ c1) (h : impl_RawLookup.f k l0 l1 = some (r1, r2, r3)) :
    Calls Tryd.prog 11 #[.slice A0 l0.length c0, .slice A1 l1.length c1] w fun e w' => ∃ v1_ : Value, e = .returned (.tuple #[.agg #[.int .i64 r1, v1_], .int .i64 r3]) ∧ Kd.R (Kd.int .u8) 5 w' w.heap.size (fun _ => True) v1_ r2 ∧ Below w.heap.size w w' := by
  have hu36 := Tryd.underlying36
  have hu54 := Tryd.underlying54
  have HR0 := Aside0.mk hr0
  have HC0 := Aside0.mk hc0
  clear hr0 hc0
  have HR1 := Aside0.mk hr1
  have HC1 := Aside0.mk hc1
  clear hr1 hc1
  have HB := Aside0.mk (Below.refl w.heap.size w)
  have H : ((bson_Raw_LookupErr.f k l0 l1).bind fun bt626 => ((impl_some1.f bt626.1 bt626.2.1).bind fun bt632 => ((impl_code.f bt626.2.2).bind fun t636 => (some (bt632.1, bt632.2, t636))))) = some (r1, r2, r3) := h
  clear h
  replace H := Option.bind_eq_some_iff.mp H
  obtain ⟨⟨t626, t627, t630⟩, A30, H⟩ := H
  replace H : ((impl_some1.f t626 t627).bind fun bt632 => ((impl_code.f t630).bind fun t636 => (some (bt632.1, bt632.2, t636)))) = some (r1, r2, r3) := H
  have A3 := Aside0.mk A30
  clear A30
  replace H := Option.bind_eq_some_iff.mp H
  obtain ⟨⟨t632, t633⟩, A40, H⟩ := H
  replace H : ((impl_code.f t630).bind fun t636 => (some (t632, t633, t636))) = some (r1, r2, r3) := H
  have A4 := Aside0.mk A40
  clear A40
  replace H := Option.bind_eq_some_iff.mp H
  obtain ⟨t636, A50, H⟩ := H
  replace H : (some (t632, t633, t636)) = some (r1, r2, r3) := H
  have A5 := Aside0.mk A50
  clear A50
  as_aux_lemma =>
    simp only [Option.some.injEq, Prod.mk.injEq] at H
    obtain ⟨rfl, rfl, rfl⟩ := H
    go_enter Tryd.func11, Tryd.ntmps11
    go_wp2_with (first | ((with_reducible refine gate_dst (N := 4) rfl ?_); refine box_event ?hg (N := 4) ?hd (cs := #[.int .i64 0, .slice none 0 0]) (t := 36) ?hr ?_; (case hd => rfl); (case hg => rfl); (case hr => first | (go_simp; done) | (go_simp; rfl)); intro gb625 hg w6 hbox hb; have n0_ := Aside0.mk (below_step HW.zb hb); have n1_ := Aside0.mk (hbox); have n2_ := Aside0.mk ((by rw [hg]; exact (below_size HW.zb) : w.heap.size ≤ gb625)); have n3_ := Aside0.mk ((by rw [hg]; exact (below_size HW.zb) : w.heap.size ≤ gb625)); clear HB; have HB := n0_; have BK625 := n1_; have GW625 := n2_; have GE625 := n3_; clear n0_ n1_ n2_ n3_; clear hb hbox hg) | ((with_reducible refine gate_callee (f := 22) rfl ?_); refine HW.gz (some 11) rfl rfl Tryd.func22 (by kernel_rfl) rfl #[.slice A0 l0.length c0, .slice A1 l1.length c1] rfl ?_; (with_reducible refine (bson_Raw_LookupErr.calls k (fun k_ => k_ < w.heap.size) _ _ l0 _ _ l1 t626 t627 t630 _ ?side1 ?side2 ?side3 A3.out).mono ?_); (case side1 => exact Kd.V_mk HC0.out (Kd.F_below (Kd.C_F (Kd.heap_int .u8) HR0.out) HW.zb)); (case side2 => repeat (first | exact (Kd.C_below HR1.out HB.out) | (with_reducible refine Kd.C_alloc ?_ _) | (with_reducible refine Kd.C_drewN ?_ _) | (with_reducible refine Kd.C_drew ?_))); (case side3 => exact HC1.out); rintro e w7 ⟨v628, rfl, ho0, hb⟩; refine ⟨_, rfl, ?_⟩; have n0_ := Aside0.mk (Kd.V_lower (Kd.V_mono (ok' := fun k_ => k_ ≠ gb625) ho0 (fun k_ hk_ => Or.elim hk_ (fun hs_ => fun e_ => Nat.not_le.2 hs_ (by rw [e_]; exact GW625.out)) (fun hn_ => (Kd.freshB (g := gb625) (o := .cells #[.int .i64 0, .slice none 0 0] 36 (0, 0)) (HW.zB BK625.out) k_ hn_)))) (below_size HW.zb)); have n1_ := Aside0.mk (blk_below (g := gb625) (o := .cells #[.int .i64 0, .slice none 0 0] 36 (0, 0)) (HW.zB BK625.out) hb); have n2_ := Aside0.mk (below_step HW.zb hb); clear BK625; clear HB; have HO629 := n0_; have BK625 := n1_; have HB := n2_; clear n0_ n1_ n2_; (try clear hb); (try clear hb2); (try clear hk); (try clear hi); (try clear ho0); (try simp only [errW_none, errW_some])) | ((with_reducible refine gate_dst (N := 6) rfl ?_); refine box_event ?hg (N := 6) ?hd (cs := #[.int .u8 0, .slice none 0 0]) (t := 54) ?hr ?_; (case hd => rfl); (case hg => rfl); (case hr => first | (go_simp; done) | (go_simp; rfl)); intro gb631 hg w8 hbox hb; have n0_ := Aside0.mk (Kd.V_below (Kd.V_elderB (HW.zV HO629.out) gb631 (Nat.le_of_eq hg.symm)) hb); have n1_ := Aside0.mk (blk_below (g := gb625) (o := .cells #[.int .i64 0, .slice none 0 0] 36 (0, 0)) (HW.zB BK625.out) hb); have n2_ := Aside0.mk (below_step HW.zb hb); have n3_ := Aside0.mk (hbox); have n5_ := Aside0.mk ((by rw [hg]; exact (below_size HW.zb) : w.heap.size ≤ gb631)); have n6_ := Aside0.mk ((by rw [hg]; exact Nat.ne_of_lt (blk_lt (g := gb625) (o := .cells #[.int .i64 0, .slice none 0 0] 36 (0, 0)) (HW.zB BK625.out)) : gb625 ≠ gb631)); have n7_ := Aside0.mk ((by rw [hg]; exact Nat.ne_of_gt (blk_lt (g := gb625) (o := .cells #[.int .i64 0, .slice none 0 0] 36 (0, 0)) (HW.zB BK625.out)) : gb631 ≠ gb625)); clear HO629; clear BK625; clear HB; have HO629 := n0_; have BK625 := n1_; have HB := n2_; have BK631 := n3_; have GE631 := n5_; have NB625_631 := n6_; have NB631_625 := n7_; clear n0_ n1_ n2_ n3_ n5_ n6_ n7_; clear hb hbox hg; have hnb9 := NB631_625.out; have hnc9 := NB625_631.out; have hcz10_0 := HW.zc BK631.out 0 (.int .u8 0); have hcz10_1 := HW.zc BK631.out 1 (.slice none 0 0); have hfz11_0 := blk_frozen BK631.out 0; have hfz11_1 := blk_frozen BK631.out 1; obtain ⟨Ao12, co12, eo12⟩ := Kd.V_slice HO629.out; subst eo12) | ((with_reducible refine gate_callee (f := 23) rfl ?_); refine HW.gz (some 15) rfl rfl Tryd.func23 (by kernel_rfl) rfl #[.agg #[.int .u8 t626, .slice Ao12 t627.length co12]] rfl ?_; (with_reducible refine (impl_some1.calls t626 _ _ t627 t632 t633 _ ?side1 ?side2 A4.out).mono ?_); (case side1 => refine (Kd.V_reads' (e := 5) (base := w.heap.size) (ok := fun k_ => (k_ ≠ gb625 ∧ k_ ≠ gb631)) (n := t627.length) (c := co12) ?_).2.2; exact (by (with_reducible repeat (first | apply Kd.V_alloc | apply Kd.V_drewN | apply Kd.V_drew)); exact (Kd.V_mono (Kd.V_far (p := ⟨gb631, 1, none⟩) (Kd.V_far (p := ⟨gb631, 0, none⟩) (Kd.V_mono HO629.out (fun k_ hk => (⟨hk, hk.2⟩ : _ ∧ k_ ≠ gb631))) (fun _ hk => hk.2) (.int .u8 t626)) (fun _ hk => hk.2) (.slice Ao12 t627.length co12)) (fun _ h_ => h_.1)))); (case side2 => exact (Kd.V_reads' HO629.out).2.1); rintro e w13 ⟨v634, rfl, ho0, hb⟩; refine ⟨_, rfl, ?_⟩; have n1_ := Aside0.mk (Kd.R_lower ho0 (below_size HW.zb)); have n2_ := Aside0.mk (blk_below (g := gb625) (o := .cells #[.int .i64 0, .slice none 0 0] 36 (0, 0)) (by (with_reducible repeat (first | refine blk_drewN ?_ _ | refine blk_drew ?_ | refine blk_alloc ?_ _)); refine blk_far ?_ NB625_631.out _; (with_reducible repeat (first | refine blk_drewN ?_ _ | refine blk_drew ?_ | refine blk_alloc ?_ _)); refine blk_far ?_ NB625_631.out _; (with_reducible repeat (first | refine blk_drewN ?_ _ | refine blk_drew ?_ | refine blk_alloc ?_ _)); exact BK625.out) hb); have n4_ := Aside0.mk (below_step HW.zb hb); clear BK625; clear HB; have HO635 := n1_; have BK625 := n2_; have HB := n4_; clear n1_ n2_ n4_; (try clear hb); (try clear hb2); (try clear hk); (try clear hi); (try clear ho0); have CA5 := fun W => impl_code.calls t630 t636 W A5.out; try simp only [errW_none, errW_some] at CA5) | (go_at_call 24; (with_reducible refine (CA5 _).mono ?_); rintro e w14 ⟨rfl, hb⟩; have n1_ := Aside0.mk (Kd.R_below (HW.zR HO635.out) hb); have n2_ := Aside0.mk (blk_below (g := gb625) (o := .cells #[.int .i64 0, .slice none 0 0] 36 (0, 0)) (HW.zB BK625.out) hb); have n4_ := Aside0.mk (below_step HW.zb hb); clear HO635; clear BK625; clear HB; have HO635 := n1_; have BK625 := n2_; have HB := n4_; clear n1_ n2_ n4_; (try clear hb); (try clear hb2); (try clear hk); (try clear hi); have hcz15_0 := HW.zc BK625.out 0 (.int .i64 0); have hcz15_1 := HW.zc BK625.out 1 (.slice none 0 0); have hfz16_0 := blk_frozen BK625.out 0; have hfz16_1 := blk_frozen BK625.out 1; obtain ⟨Ao17, co17, eo17⟩ := Kd.R_slice HO635.out; subst eo17))
    refine bodyPost_ret (results_ct rfl _ _ gb625 36 #[.int .i64 t632, .slice Ao17 t633.length co17] (0, 0) _ rfl (by (with_reducible repeat (first | refine blk_drewN ?_ _ | refine blk_drew ?_ | refine blk_alloc ?_ _)); refine blk_put (cs := #[.int .i64 t632, .slice none 0 0]) ?_ 1 _ rfl; (with_reducible repeat (first | refine blk_drewN ?_ _ | refine blk_drew ?_ | refine blk_alloc ?_ _)); refine blk_put (cs := #[.int .i64 0, .slice none 0 0]) ?_ 0 _ rfl; (with_reducible repeat (first | refine blk_drewN ?_ _ | refine blk_drew ?_ | refine blk_alloc ?_ _)); exact BK625.out) Tryd.underlying36 rfl (by kernel_rfl)) rfl ?_
    exact ⟨_, by first | rfl | (simp [errW_none, errW_some] <;> rfl) | (simp [*, errW_none, errW_some] <;> rfl), by (with_reducible repeat (first | apply Kd.R_alloc | apply Kd.R_drewN | apply Kd.R_drew)); exact Kd.R_mono (Kd.R_far (p := ⟨gb625, 1, none⟩) (Kd.R_far (p := ⟨gb625, 0, none⟩) (Kd.R_types HO635.out BK625.out (by decide)) (fun _ hk => hk.2) (.int .i64 t632)) (fun _ hk => hk.2) (.slice Ao17 t633.length co17)) (fun _ hk => trivial), HW.zb⟩

/-! ### spec_BindSame: function 12 -/
def spec_BindSame.f (a0_0 : Int) (l0_1 : List Int) (a1_0 : Int) (l1_1 : List Int) : Option (Bool) := if a0_0 = a1_0 then (some ((strOfNums l0_1).toList == (strOfNums l1_1).toList)) else (some false)
set_option maxHeartbeats 8000000 in
set_option maxRecDepth 100000 in
theorem spec_BindSame.calls (a0_0 : Int) (A0_1 : Option Addr) (c0_1 : Nat) (l0_1 : List Int) (a1_0 : Int) (A1_1 : Option Addr) (c1_1 : Nat) (l1_1 : List Int) (r : Bool) (w : World) (hr0_1 : Kd.C (Kd.int .u8) w A0_1 l0_1.length l0_1) (hc0_1 : l0_1.length ≤ c0_1) (hr1_1 : Kd.C (Kd.int .u8) w A1_1 l1_1.length l1_1) (hc1_1 : l1_1.length ≤ c1_1) (h : spec_BindSame.f a0_0 l0_1 a1_0 l1_1 = some r) :
    Calls Tryd.prog 12 #[.agg #[.int .i64 a0_0, .slice A0_1 l0_1.length c0_1], .agg #[.int .i64 a1_0, .slice A1_1 l1_1.length c1_1]] w fun e w' => e = .returned (.bool r) ∧ Below w.heap.size w w' := by
  have hu36 := Tryd.underlying36
  have HR0_1 := Aside0.mk hr0_1
  have HC0_1 := Aside0.mk hc0_1
  clear hr0_1 hc0_1
  have HR1_1 := Aside0.mk hr1_1
  have HC1_1 := Aside0.mk hc1_1
  clear hr1_1 hc1_1
  have HB := Aside0.mk (Below.refl w.heap.size w)
  have H : (if a0_0 = a1_0 then (some ((strOfNums l0_1).toList == (strOfNums l1_1).toList)) else (some false)) = some r := h
  clear h
  by_cases c3 : a0_0 = a1_0
  · rw [if_pos c3] at H
    have c3b0 : (a0_0 == a1_0) = true := beq_iff_eq.mpr c3
    have c3b1 : (a0_0 != a1_0) = false := bne_eq_false_iff_eq.mpr c3
    clear c3
    as_aux_lemma =>
      obtain rfl := Option.some.inj H
      go_enter Tryd.func12, Tryd.ntmps12
      go_wp2_with (first | ((with_reducible refine gate_dst (N := 2) rfl ?_); refine box_event ?hg (N := 2) ?hd (cs := #[.int .i64 a0_0, .slice A0_1 l0_1.length c0_1]) (t := 36) ?hr ?_; (case hd => rfl); (case hg => rfl); (case hr => first | (go_simp; done) | (go_simp; rfl)); intro gb637 hg w4 hbox hb; have n0_ := Aside0.mk (below_step HW.zb hb); have n1_ := Aside0.mk (hbox); have n3_ := Aside0.mk ((by rw [hg]; exact (below_size HW.zb) : w.heap.size ≤ gb637)); clear HB; have HB := n0_; have BK637 := n1_; have GE637 := n3_; clear n0_ n1_ n3_; clear hb hbox hg) | ((with_reducible refine gate_dst (N := 3) rfl ?_); refine box_event ?hg (N := 3) ?hd (cs := #[.int .i64 a1_0, .slice A1_1 l1_1.length c1_1]) (t := 36) ?hr ?_; (case hd => rfl); (case hg => rfl); (case hr => first | (go_simp; done) | (go_simp; rfl)); intro gb638 hg w5 hbox hb; have n0_ := Aside0.mk (blk_below (g := gb637) (o := .cells #[.int .i64 a0_0, .slice A0_1 l0_1.length c0_1] 36 (0, 0)) (HW.zB BK637.out) hb); have n1_ := Aside0.mk (below_step HW.zb hb); have n2_ := Aside0.mk (hbox); have n4_ := Aside0.mk ((by rw [hg]; exact (below_size HW.zb) : w.heap.size ≤ gb638)); have n5_ := Aside0.mk ((by rw [hg]; exact Nat.ne_of_lt (blk_lt (g := gb637) (o := .cells #[.int .i64 a0_0, .slice A0_1 l0_1.length c0_1] 36 (0, 0)) (HW.zB BK637.out)) : gb637 ≠ gb638)); have n6_ := Aside0.mk ((by rw [hg]; exact Nat.ne_of_gt (blk_lt (g := gb637) (o := .cells #[.int .i64 a0_0, .slice A0_1 l0_1.length c0_1] 36 (0, 0)) (HW.zB BK637.out)) : gb638 ≠ gb637)); clear BK637; clear HB; have BK637 := n0_; have HB := n1_; have BK638 := n2_; have GE638 := n4_; have NB637_638 := n5_; have NB638_637 := n6_; clear n0_ n1_ n2_ n4_ n5_ n6_; clear hb hbox hg; have hnb6 := NB637_638.out; have hnc6 := NB638_637.out; have hcz7_0 := HW.zc BK637.out 0 (.int .i64 a0_0); have hcz7_1 := HW.zc BK637.out 1 (.slice A0_1 l0_1.length c0_1); have hcz8_0 := HW.zc BK638.out 0 (.int .i64 a1_0); have hcz8_1 := HW.zc BK638.out 1 (.slice A1_1 l1_1.length c1_1); have hcv9 := Kd.C_string (P := Tryd.prog) (A := A0_1) (c := c0_1) Tryd.underlying23 Tryd.underlying5 Tryd.underlying9 (Kd.C_below HR0_1.out HB.out); have hcv10 := Kd.C_string (P := Tryd.prog) (A := A1_1) (c := c1_1) Tryd.underlying23 Tryd.underlying5 Tryd.underlying9 (Kd.C_below HR1_1.out HB.out)))
      go_ret
      exact ⟨by first | rfl | (simp [errW_none, errW_some] <;> rfl) | (simp [*, errW_none, errW_some] <;> rfl), HW.zb⟩
  rw [if_neg c3] at H
  have c3b0 : (a0_0 == a1_0) = false := beq_eq_false_iff_ne.mpr c3
  have c3b1 : (a0_0 != a1_0) = true := bne_iff_ne.mpr c3
  as_aux_lemma =>
    obtain rfl := Option.some.inj H
    go_enter Tryd.func12, Tryd.ntmps12
    go_wp2_with (first | ((with_reducible refine gate_dst (N := 2) rfl ?_); refine box_event ?hg (N := 2) ?hd (cs := #[.int .i64 a0_0, .slice A0_1 l0_1.length c0_1]) (t := 36) ?hr ?_; (case hd => rfl); (case hg => rfl); (case hr => first | (go_simp; done) | (go_simp; rfl)); intro gb637 hg w11 hbox hb; have n0_ := Aside0.mk (below_step HW.zb hb); have n1_ := Aside0.mk (hbox); have n3_ := Aside0.mk ((by rw [hg]; exact (below_size HW.zb) : w.heap.size ≤ gb637)); clear HB; have HB := n0_; have BK637 := n1_; have GE637 := n3_; clear n0_ n1_ n3_; clear hb hbox hg) | ((with_reducible refine gate_dst (N := 3) rfl ?_); refine box_event ?hg (N := 3) ?hd (cs := #[.int .i64 a1_0, .slice A1_1 l1_1.length c1_1]) (t := 36) ?hr ?_; (case hd => rfl); (case hg => rfl); (case hr => first | (go_simp; done) | (go_simp; rfl)); intro gb638 hg w12 hbox hb; have n0_ := Aside0.mk (blk_below (g := gb637) (o := .cells #[.int .i64 a0_0, .slice A0_1 l0_1.length c0_1] 36 (0, 0)) (HW.zB BK637.out) hb); have n1_ := Aside0.mk (below_step HW.zb hb); have n2_ := Aside0.mk (hbox); have n4_ := Aside0.mk ((by rw [hg]; exact (below_size HW.zb) : w.heap.size ≤ gb638)); have n5_ := Aside0.mk ((by rw [hg]; exact Nat.ne_of_lt (blk_lt (g := gb637) (o := .cells #[.int .i64 a0_0, .slice A0_1 l0_1.length c0_1] 36 (0, 0)) (HW.zB BK637.out)) : gb637 ≠ gb638)); have n6_ := Aside0.mk ((by rw [hg]; exact Nat.ne_of_gt (blk_lt (g := gb637) (o := .cells #[.int .i64 a0_0, .slice A0_1 l0_1.length c0_1] 36 (0, 0)) (HW.zB BK637.out)) : gb638 ≠ gb637)); clear BK637; clear HB; have BK637 := n0_; have HB := n1_; have BK638 := n2_; have GE638 := n4_; have NB637_638 := n5_; have NB638_637 := n6_; clear n0_ n1_ n2_ n4_ n5_ n6_; clear hb hbox hg; have hnb13 := NB637_638.out; have hnc13 := NB638_637.out; have hcz14_0 := HW.zc BK637.out 0 (.int .i64 a0_0); have hcz14_1 := HW.zc BK637.out 1 (.slice A0_1 l0_1.length c0_1); have hcz15_0 := HW.zc BK638.out 0 (.int .i64 a1_0); have hcz15_1 := HW.zc BK638.out 1 (.slice A1_1 l1_1.length c1_1)))
    go_ret
    exact ⟨by first | rfl | (simp [errW_none, errW_some] <;> rfl) | (simp [*, errW_none, errW_some] <;> rfl), HW.zb⟩

/-! ### bsoncore_Value_Validate: function 61 -/
def bsoncore_Value_Validate.f (k : Nat) (a0_0 : Int) (l0_1 : List Int) : Option (Option Int) := (bsoncore_readValue.f k l0_1 a0_0).bind fun bt640 => (if bt640.2.2 = true then (some none) else (none))
theorem bsoncore_Value_Validate.mono : ∀ a0 a1 k, LeO (bsoncore_Value_Validate.f k a0 a1) (bsoncore_Value_Validate.f (k + 1) a0 a1) := by
  intro a0 a1 k
  unfold bsoncore_Value_Validate.f
  repeat' first
      | (with_reducible exact bsoncore_readValue.mono _ _ _)
      | (with_reducible exact LeO.refl _)
      | (with_reducible exact LeO.none _)
      | (with_reducible refine LeO.ite ?_ ?_)
      | (with_reducible refine LeO.bind ?_ (fun _ => ?_))
      | exact bsoncore_readValue.mono _ _ _
      | exact LeO.none _
      | refine LeO.ite ?_ ?_
      | refine LeO.bind ?_ (fun _ => ?_)
set_option maxHeartbeats 8000000 in
set_option maxRecDepth 100000 in
theorem bsoncore_Value_Validate.calls (k : Nat) (a0_0 : Int) (A0_1 : Option Addr) (c0_1 : Nat) (l0_1 : List Int) (r : Option Int) (w : World) (hr0_1 : Kd.C (Kd.int .u8) w A0_1 l0_1.length l0_1) (hc0_1 : l0_1.length ≤ c0_1) (h : bsoncore_Value_Validate.f k a0_0 l0_1 = some r) :
    Calls Tryd.prog 61 #[.agg #[.int .u8 a0_0, .slice A0_1 l0_1.length c0_1]] w fun e w' => e = .returned (errW r) ∧ Below w.heap.size w w' := by
  have hu77 := Tryd.underlying77
  have hu56 := Tryd.underlying56
  have HR0_1 := Aside0.mk hr0_1
  have HC0_1 := Aside0.mk hc0_1
  clear hr0_1 hc0_1
  have HB := Aside0.mk (Below.refl w.heap.size w)
  have H : ((bsoncore_readValue.f k l0_1 a0_0).bind fun bt640 => (if bt640.2.2 = true then (some none) else (none))) = some r := h
  clear h
  replace H := Option.bind_eq_some_iff.mp H
  obtain ⟨⟨t640, t643, t646⟩, A20, H⟩ := H
  replace H : (if t646 = true then (some none) else (none)) = some r := H
  have A2 := Aside0.mk A20
  clear A20
  by_cases c3 : t646 = true
  rotate_left
  · replace c3 := Bool.eq_false_iff.mpr c3
    subst c3
    have H1 : (none) = some r := by rw [if_neg (show ¬ (false = true) by decide)] at H; exact H
    clear H
    have H := H1
    clear H1
    exact absurd H (by simp)
  subst c3
  have H1 : (some none) = some r := by rw [if_pos rfl] at H; exact H
  clear H
  have H := H1
  clear H1
  as_aux_lemma =>
    obtain rfl := Option.some.inj H
    go_enter Tryd.func61, Tryd.ntmps61
    go_wp2_with (first | ((with_reducible refine gate_dst (N := 1) rfl ?_); refine box_event ?hg (N := 1) ?hd (cs := #[.int .u8 a0_0, .slice A0_1 l0_1.length c0_1]) (t := 77) ?hr ?_; (case hd => rfl); (case hg => rfl); (case hr => first | (go_simp; done) | (go_simp; rfl)); intro gb639 hg w4 hbox hb; have n0_ := Aside0.mk (below_step HW.zb hb); have n1_ := Aside0.mk (hbox); have n3_ := Aside0.mk ((by rw [hg]; exact (below_size HW.zb) : w.heap.size ≤ gb639)); clear HB; have HB := n0_; have BK639 := n1_; have GE639 := n3_; clear n0_ n1_ n3_; clear hb hbox hg; have hcz5_0 := HW.zc BK639.out 0 (.int .u8 a0_0); have hcz5_1 := HW.zc BK639.out 1 (.slice A0_1 l0_1.length c0_1)) | ((with_reducible refine gate_callee (f := 63) rfl ?_); refine HW.gz (some 11) rfl rfl Tryd.func63 (by kernel_rfl) rfl #[.slice A0_1 l0_1.length c0_1, .int .u8 a0_0] rfl ?_; (with_reducible refine (bsoncore_readValue.calls k (fun k_ => k_ < w.heap.size) _ _ l0_1 a0_0 t640 t643 true _ ?side1 A2.out).mono ?_); (case side1 => exact Kd.V_mk HC0_1.out (Kd.F_below (Kd.C_F (Kd.heap_int .u8) HR0_1.out) HW.zb)); rintro e w6 ⟨v641, v644, rfl, ho0, ho1, hb⟩; refine ⟨_, rfl, ?_⟩; have n3_ := Aside0.mk (below_step HW.zb hb); clear HB; have HB := n3_; clear n3_; (try clear hb); (try clear hb2); (try clear hk); (try clear hi); (try clear ho0); (try clear ho1)))
    go_ret
    exact ⟨by first | rfl | (simp [errW_none, errW_some] <;> rfl) | (simp [*, errW_none, errW_some] <;> rfl), HW.zb⟩

end Go.Proofs.YtlcgakpnpdkjjaaDoor.PRd
