/- Printed by a program of this session (a turned copy of the printer of the kit): contracts of functions of the translation, each with the Lean function that it computes. Conditions: as each theorem states them. -/
import Derived.Test.YtlcgakpnpdkjjaaDoorPBzx0
import Derived.Test.YtlcgakpnpdkjjaaDoorPBzx8
import Derived.Test.YtlcgakpnpdkjjaaDoorPBzx10
import Derived.Test.YtlcgakpnpdkjjaaDoorPBzx11
namespace Go.Proofs.YtlcgakpnpdkjjaaDoor.PBz
open Go.RowKit Go.Proofs.YtlcgakpnpdkjjaaDoorW.PrintWords Go.Proofs.YtlcgakpnpdkjjaaDoorW.PrintLast Go.Proofs.YtlcgakpnpdkjjaaDoorW.PrintMore
attribute [local go_sem] max2_int min2_int max_two min_two max_three min_three max_four min_four   -- for this text's walks alone
set_option linter.unusedVariables false
set_option linter.unusedSimpArgs false

/-! ### bsoncore_Document_LookupErr: function 32 -/
mutual
def bsoncore_Document_LookupErr.l0 : Nat → List ByteArray → Int → List Int → Option (Int × List Int × Option Int)
  | 0, _, _, _ => none
  | k + 1, x1, x6, x7 => if x6 > 1 then ((bsoncore_ReadElement.f k x7).bind fun bt581 => (if bt581.2.2 = true then ((bsoncore_Element_KeyBytes.f bt581.1).bind fun t594 => (if 0 < (x1.length : Int) then (if (strOfNums t594).toList = (rdOf ByteArray.empty x1 0).toList then (if (x1.length : Int) > 1 then (if 0 < (bt581.1.length : Int) then (if (rd bt581.1 0) = 3 then ((bsoncore_Element_Value.f k bt581.1).bind fun bt599 => ((bsoncore_Value_Document.f bt599.1 bt599.2).bind fun t603 => (if 1 ≤ (x1.length : Int) then ((bsoncore_Document_LookupErr.f k t603 (x1.drop 1)).bind fun bt607 => (if bt607.2.2.isNone = true then (some (bt607.1, bt607.2.1, none)) else (none))) else (none)))) else (none)) else (none)) else ((bsoncore_Element_ValueErr.f k bt581.1).bind fun bt615 => (some (bt615.1, bt615.2.1, bt615.2.2)))) else (bsoncore_Document_LookupErr.l0 k x1 (wrap32 (x6 - (wrap32 ((bt581.1.length : Int))))) bt581.2.1)) else (none))) else (none))) else (none)
def bsoncore_Document_LookupErr.f : Nat → List Int → List ByteArray → Option (Int × List Int × Option Int)
  | 0, _, _ => none
  | k + 1, l0, l1 => if (l1.length : Int) < 1 then (none) else ((bsoncore_ReadLength.f l0).bind fun bt570 => (if bt570.2.2 = true then (bsoncore_Document_LookupErr.l0 k l1 (wrap32 (bt570.1 - 4)) bt570.2.1) else (none)))
end
theorem bsoncore_Document_LookupErr.mono_l : ∀ k, (∀ y0 y1, LeO (bsoncore_Document_LookupErr.f k y0 y1) (bsoncore_Document_LookupErr.f (k + 1) y0 y1)) ∧ (∀ y0 y1 y2, LeO (bsoncore_Document_LookupErr.l0 k y0 y1 y2) (bsoncore_Document_LookupErr.l0 (k + 1) y0 y1 y2))
  | 0 => ⟨fun _ _ r h => by simp [bsoncore_Document_LookupErr.f] at h, fun _ _ _ r h => by simp [bsoncore_Document_LookupErr.l0] at h⟩
  | k + 1 => by
    obtain ⟨ih0, ih1⟩ := bsoncore_Document_LookupErr.mono_l k
    refine ⟨?_, ?_⟩
    · intro y0 y1
      unfold bsoncore_Document_LookupErr.f
      repeat' first
      | (with_reducible exact ih0 _ _)
      | (with_reducible exact ih1 _ _ _)
      | (with_reducible exact bsoncore_Element_Value.mono _ _)
      | (with_reducible exact bsoncore_Element_ValueErr.mono _ _)
      | (with_reducible exact bsoncore_ReadElement.mono _ _)
      | (with_reducible exact LeO.refl _)
      | (with_reducible exact LeO.none _)
      | (with_reducible refine LeO.ite ?_ ?_)
      | (with_reducible refine LeO.bind ?_ (fun _ => ?_))
      | exact ih0 _ _
      | exact ih1 _ _ _
      | exact bsoncore_Element_Value.mono _ _
      | exact bsoncore_Element_ValueErr.mono _ _
      | exact bsoncore_ReadElement.mono _ _
      | exact LeO.none _
      | refine LeO.ite ?_ ?_
      | refine LeO.bind ?_ (fun _ => ?_)
    · intro y0 y1 y2
      unfold bsoncore_Document_LookupErr.l0
      repeat' first
      | (with_reducible exact ih0 _ _)
      | (with_reducible exact ih1 _ _ _)
      | (with_reducible exact bsoncore_Element_Value.mono _ _)
      | (with_reducible exact bsoncore_Element_ValueErr.mono _ _)
      | (with_reducible exact bsoncore_ReadElement.mono _ _)
      | (with_reducible exact LeO.refl _)
      | (with_reducible exact LeO.none _)
      | (with_reducible refine LeO.ite ?_ ?_)
      | (with_reducible refine LeO.bind ?_ (fun _ => ?_))
      | exact ih0 _ _
      | exact ih1 _ _ _
      | exact bsoncore_Element_Value.mono _ _
      | exact bsoncore_Element_ValueErr.mono _ _
      | exact bsoncore_ReadElement.mono _ _
      | exact LeO.none _
      | refine LeO.ite ?_ ?_
      | refine LeO.bind ?_ (fun _ => ?_)
theorem bsoncore_Document_LookupErr.mono : ∀ a0 a1 k, LeO (bsoncore_Document_LookupErr.f k a0 a1) (bsoncore_Document_LookupErr.f (k + 1) a0 a1) := by
  intro a0 a1 k
  obtain ⟨ih0, ih1⟩ := bsoncore_Document_LookupErr.mono_l k
  exact ih0 a0 a1
def bsoncore_Document_LookupErr.T19 : Bool × List (List Nat × List Nat) := (true, [([], []), ([0], [0]), ([1, 1], [1]), ([], []), ([3], [3]), ([2, 4, 2], [2, 4]), ([5], [5]), ([6], [6]), ([6], [6]), ([], []), ([9, 7, 5, 0, 1, 2, 3, 4, 5, 6, 7, 9], [7, 9]), ([8, 10, 0, 1, 2, 3, 4, 5, 6, 7, 8, 9, 10], [8])])
def bsoncore_Document_LookupErr.B19 : List Nat := [0, 1, 3, 0, 8, 31, 63, 127, 127, 0, 767, 2047]
theorem bsoncore_Document_LookupErr.tab19 : rtab .any (opsOf Tryd.f32 19) = bsoncore_Document_LookupErr.T19 := by kernel_rfl
theorem bsoncore_Document_LookupErr.bits19 : waitsOk bsoncore_Document_LookupErr.T19.2 bsoncore_Document_LookupErr.B19 = true := by kernel_rfl
set_option maxHeartbeats 8000000 in
set_option maxRecDepth 100000 in
theorem bsoncore_Document_LookupErr.calls (k : Nat) : ∀ (P0_ : Nat → Prop) (A0 : Option Addr) (c0 : Nat) (l0 : List Int) (A1 : Option Addr) (c1 : Nat) (l1 : List ByteArray) (r1 : Int) (r2 : List Int) (r3 : Option Int) (w : World) (hs0 : Kd.V (Kd.int .u8) 5 w w.heap.size (fun k_ => P0_ k_) (.slice A0 l0.length c0) l0) (hr1 : Kd.C Kd.string w A1 l1.length l1) (hc1 : l1.length ≤ c1) (h : bsoncore_Document_LookupErr.f k l0 l1 = some (r1, r2, r3)),
    Calls Tryd.prog 32 #[.slice A0 l0.length c0, .slice A1 l1.length c1] w fun e w' => ∃ v1_ : Value, e = .returned (.tuple #[.agg #[.int .u8 r1, v1_], errW r3]) ∧ Kd.V (Kd.int .u8) 5 w' w.heap.size (fun k_ => (P0_ k_ ∨ w.heap.size ≤ k_)) v1_ r2 ∧ Below w.heap.size w w' := by
  induction k using Nat.strongRecOn with
  | _ k ih =>
  intro P0_ A0 c0 l0 A1 c1 l1 r1 r2 r3 w hs0 hr1 hc1 h
  cases k with
  | zero => exact absurd h (by simp [bsoncore_Document_LookupErr.f])
  | succ k =>
  simp only [bsoncore_Document_LookupErr.f] at h
  have hu77 := Tryd.underlying77; have hu87 := Tryd.underlying87; have hu56 := Tryd.underlying56; have HO0 := Aside0.mk (show Kd.V (Kd.int .u8) 5 w w.heap.size (fun k_ => (P0_ k_ ∨ w.heap.size ≤ k_)) (.slice A0 l0.length c0) l0 from Kd.V_mono hs0 (fun k_ hk => .inl hk)); have HR1 := Aside0.mk hr1; have HC1 := Aside0.mk hc1; clear hr1 hc1; have HB := Aside0.mk (Below.refl w.heap.size w); have H : (if (l1.length : Int) < 1 then (none) else ((bsoncore_ReadLength.f l0).bind fun bt570 => (if bt570.2.2 = true then (bsoncore_Document_LookupErr.l0 k l1 (wrap32 (bt570.1 - 4)) bt570.2.1) else (none)))) = some (r1, r2, r3) := h; clear h
  by_cases c3 : (l1.length : Int) < 1
  · rw [if_pos c3] at H
    exact absurd H (by simp)
  rw [if_neg c3] at H; have c3b0 : decide ((l1.length : Int) < 1) = false := decide_eq_false c3
  have c3b1 : decide (l1.length < 1) = false := decide_eq_false (by omega)
  clear c3; replace H := Option.bind_eq_some_iff.mp H; obtain ⟨⟨t570, t571, t574⟩, A40, H⟩ := H; replace H : (if t574 = true then (bsoncore_Document_LookupErr.l0 k l1 (wrap32 (t570 - 4)) t571) else (none)) = some (r1, r2, r3) := H; have A4 := Aside0.mk A40; clear A40
  by_cases c5 : t574 = true
  rotate_left
  · replace c5 := Bool.eq_false_iff.mpr c5
    subst c5
    have H1 : (none) = some (r1, r2, r3) := by rw [if_neg (show ¬ (false = true) by decide)] at H; exact H
    clear H; have H := H1; clear H1
    exact absurd H (by simp)
  subst c5
  have H1 : (bsoncore_Document_LookupErr.l0 k l1 (wrap32 (t570 - 4)) t571) = some (r1, r2, r3) := by rw [if_pos rfl] at H; exact H
  clear H; have H := H1; clear H1; have H' := Aside0.mk H; clear H
  go_enter Tryd.func32, Tryd.ntmps32
  go_wp2_with (first | ((with_reducible refine gate_dst (N := 4) rfl ?_); refine box_event ?hg (N := 4) ?hd (cs := #[.int .u8 0, .slice none 0 0]) (t := 77) ?hr ?_; (case hd => rfl); (case hg => rfl); (case hr => first | (go_simp; done) | (go_simp; rfl)); intro gb569 hg w6 hbox hb; have n0_ := Aside0.mk (Kd.V_below (Kd.V_elderB (HW.zV HO0.out) gb569 (Nat.le_of_eq hg.symm)) hb); have n1_ := Aside0.mk (below_step HW.zb hb); have n2_ := Aside0.mk (hbox); have n4_ := Aside0.mk ((by rw [hg]; exact (below_size HW.zb) : w.heap.size ≤ gb569)); clear HO0; clear HB; have HO0 := n0_; have HB := n1_; have BK569 := n2_; have GE569 := n4_; clear n0_ n1_ n2_ n4_; clear hb hbox hg) | ((with_reducible refine gate_callee (f := 43) rfl ?_); refine HW.gz (some 22) rfl rfl Tryd.func43 (by kernel_rfl) rfl #[.slice A0 l0.length c0] rfl ?_; (with_reducible refine (bsoncore_ReadLength.calls (fun k_ => ((P0_ k_ ∨ w.heap.size ≤ k_) ∧ k_ ≠ gb569)) _ _ l0 t570 t571 true _ ?side1 A4.out).mono ?_); (case side1 => exact HO0.out); rintro e w7 ⟨v572, rfl, ho0, hb⟩; refine ⟨_, rfl, ?_⟩; have n1_ := Aside0.mk (Kd.V_lower (Kd.V_mono (ok' := fun k_ => (P0_ k_ ∨ w.heap.size ≤ k_) ∧ k_ ≠ gb569) ho0 (fun k_ hk_ => ⟨Or.elim hk_ (fun hs_ => hs_.1) (fun hn_ => (.inr (Nat.le_trans (below_size HW.zb) hn_))), Or.elim hk_ (fun hs_ => hs_.2) (fun hn_ => (Kd.freshB (g := gb569) (o := .cells #[.int .u8 0, .slice none 0 0] 77 (0, 0)) (HW.zB BK569.out) k_ hn_))⟩)) (below_size HW.zb)); have n2_ := Aside0.mk (blk_below (g := gb569) (o := .cells #[.int .u8 0, .slice none 0 0] 77 (0, 0)) (HW.zB BK569.out) hb); have n3_ := Aside0.mk (below_step HW.zb hb); clear BK569; clear HB; have HO573 := n1_; have BK569 := n2_; have HB := n3_; clear n1_ n2_ n3_; (try clear hb); (try clear hb2); (try clear hk); (try clear hi); (try clear ho0)))
  go_loopg [6, 7] k (fun kq v6 v7 w' => ∃ (x6_1 : Int) (x7_1 : List Int) (x570000_1 : Int), v6 = .int .i32 x6_1 ∧ Aside0 (bsoncore_Document_LookupErr.l0 kq l1 x6_1 x7_1 = some (r1, r2, r3)) ∧ Aside0 (kq ≤ k) ∧ Aside0 (Kd.V (Kd.int .u8) 5 w' w.heap.size (fun k_ => (P0_ k_ ∨ w.heap.size ≤ k_) ∧ k_ ≠ gb569) v7 x7_1) ∧ Aside0 (w'.heap[gb569]? = some (.cells #[.int .u8 x570000_1, (.slice none 0 0)] 77 (0, 0))) ∧ Aside0 (Below w.heap.size w w'))
  case atStart => exact ⟨(wrap32 (t570 - 4)), (t571), (0), (by first | rfl | (simp; done) | (simp [*]; done)), H', ⟨Nat.le_refl _⟩, ⟨HW.zV HO573.out⟩, ⟨by (with_reducible repeat (first | refine blk_drewN ?_ _ | refine blk_drew ?_ | refine blk_alloc ?_ _)); exact BK569.out⟩, ⟨HW.zb⟩⟩
  case round =>
    clear H'; (try clear c1); (try clear p2); (try clear c3); (try clear c3b0); (try clear c3b1); (try clear p3); (try clear c4); (try clear c5); obtain ⟨x6_1, x7_1, x570000_1, rfl, HA, HK1, HO_7, BK569, HB⟩ := hrel
    cases gk with
    | zero => exact absurd HA.out (by simp [bsoncore_Document_LookupErr.l0])
    | succ k1 =>
      have H := HA.out; clear HA
      simp only [bsoncore_Document_LookupErr.l0] at H
      by_cases c8 : x6_1 > 1
      rotate_left
      · rw [if_neg c8] at H
        exact absurd H (by simp)
      rw [if_pos c8] at H; have c8b0 : decide (1 < x6_1) = true := decide_eq_true c8; clear c8; replace H := Option.bind_eq_some_iff.mp H; obtain ⟨⟨t581, t584, t587⟩, A90, H⟩ := H
      replace H : (if t587 = true then ((bsoncore_Element_KeyBytes.f t581).bind fun t594 => (if 0 < (l1.length : Int) then (if (strOfNums t594).toList = (rdOf ByteArray.empty l1 0).toList then (if (l1.length : Int) > 1 then (if 0 < (t581.length : Int) then (if (rd t581 0) = 3 then ((bsoncore_Element_Value.f k1 t581).bind fun bt599 => ((bsoncore_Value_Document.f bt599.1 bt599.2).bind fun t603 => (if 1 ≤ (l1.length : Int) then ((bsoncore_Document_LookupErr.f k1 t603 (l1.drop 1)).bind fun bt607 => (if bt607.2.2.isNone = true then (some (bt607.1, bt607.2.1, none)) else (none))) else (none)))) else (none)) else (none)) else ((bsoncore_Element_ValueErr.f k1 t581).bind fun bt615 => (some (bt615.1, bt615.2.1, bt615.2.2)))) else (bsoncore_Document_LookupErr.l0 k1 l1 (wrap32 (x6_1 - (wrap32 ((t581.length : Int))))) t584)) else (none))) else (none)) = some (r1, r2, r3) := H
      have A9 := Aside0.mk A90; clear A90
      by_cases c10 : t587 = true
      rotate_left
      · replace c10 := Bool.eq_false_iff.mpr c10
        subst c10
        have H1 : (none) = some (r1, r2, r3) := by rw [if_neg (show ¬ (false = true) by decide)] at H; exact H
        clear H; have H := H1; clear H1
        exact absurd H (by simp)
      subst c10
      have H1 : ((bsoncore_Element_KeyBytes.f t581).bind fun t594 => (if 0 < (l1.length : Int) then (if (strOfNums t594).toList = (rdOf ByteArray.empty l1 0).toList then (if (l1.length : Int) > 1 then (if 0 < (t581.length : Int) then (if (rd t581 0) = 3 then ((bsoncore_Element_Value.f k1 t581).bind fun bt599 => ((bsoncore_Value_Document.f bt599.1 bt599.2).bind fun t603 => (if 1 ≤ (l1.length : Int) then ((bsoncore_Document_LookupErr.f k1 t603 (l1.drop 1)).bind fun bt607 => (if bt607.2.2.isNone = true then (some (bt607.1, bt607.2.1, none)) else (none))) else (none)))) else (none)) else (none)) else ((bsoncore_Element_ValueErr.f k1 t581).bind fun bt615 => (some (bt615.1, bt615.2.1, bt615.2.2)))) else (bsoncore_Document_LookupErr.l0 k1 l1 (wrap32 (x6_1 - (wrap32 ((t581.length : Int))))) t584)) else (none))) = some (r1, r2, r3) := by rw [if_pos rfl] at H; exact H
      clear H; have H := H1; clear H1; replace H := Option.bind_eq_some_iff.mp H; obtain ⟨t594, A110, H⟩ := H
      replace H : (if 0 < (l1.length : Int) then (if (strOfNums t594).toList = (rdOf ByteArray.empty l1 0).toList then (if (l1.length : Int) > 1 then (if 0 < (t581.length : Int) then (if (rd t581 0) = 3 then ((bsoncore_Element_Value.f k1 t581).bind fun bt599 => ((bsoncore_Value_Document.f bt599.1 bt599.2).bind fun t603 => (if 1 ≤ (l1.length : Int) then ((bsoncore_Document_LookupErr.f k1 t603 (l1.drop 1)).bind fun bt607 => (if bt607.2.2.isNone = true then (some (bt607.1, bt607.2.1, none)) else (none))) else (none)))) else (none)) else (none)) else ((bsoncore_Element_ValueErr.f k1 t581).bind fun bt615 => (some (bt615.1, bt615.2.1, bt615.2.2)))) else (bsoncore_Document_LookupErr.l0 k1 l1 (wrap32 (x6_1 - (wrap32 ((t581.length : Int))))) t584)) else (none)) = some (r1, r2, r3) := H
      have A11 := Aside0.mk A110; clear A110
      by_cases c12 : 0 < (l1.length : Int)
      rotate_left
      · rw [if_neg c12] at H
        exact absurd H (by simp)
      rw [if_pos c12] at H; have c12b0 : decide (0 < (l1.length : Int)) = true := decide_eq_true c12
      have c12b1 : decide (0 < l1.length) = true := decide_eq_true (by omega)
      clear c12
      by_cases c13 : (strOfNums t594).toList = (rdOf ByteArray.empty l1 0).toList
      rotate_left
      · rw [if_neg c13] at H
        have c13b0 : ((strOfNums t594).toList == (rdOf ByteArray.empty l1 0).toList) = false := beq_eq_false_iff_ne.mpr c13; have c13b1 : ((strOfNums t594).toList != (rdOf ByteArray.empty l1 0).toList) = true := bne_iff_ne.mpr c13
        as_aux_lemma =>
          have H' := Aside0.mk H; clear H; obtain ⟨Ao55, co55, eo55⟩ := Kd.V_slice HO_7.out; subst eo55
          try go_wp2_with (first | ((with_reducible refine gate_callee (f := 45) rfl ?_); refine HW.gz (some 39) rfl rfl Tryd.func45 (by kernel_rfl) rfl #[.slice Ao55 x7_1.length co55] rfl ?_; (with_reducible refine (bsoncore_ReadElement.calls k1 (fun k_ => ((P0_ k_ ∨ w.heap.size ≤ k_) ∧ k_ ≠ gb569)) _ _ x7_1 t581 t584 true _ ?side1 A9.out).mono ?_); (case side1 => exact HO_7.out); rintro e w56 ⟨v582, v585, rfl, ho0, ho1, hb⟩; refine ⟨_, rfl, ?_⟩; have n0_ := Aside0.mk (Kd.V_below (HW.zV HO_7.out) hb); have n1_ := Aside0.mk (Kd.V_lower (Kd.V_mono (ok' := fun k_ => (P0_ k_ ∨ w.heap.size ≤ k_) ∧ k_ ≠ gb569) ho0 (fun k_ hk_ => ⟨Or.elim hk_ (fun hs_ => hs_.1) (fun hn_ => (.inr (Nat.le_trans (below_size HW.zb) hn_))), Or.elim hk_ (fun hs_ => hs_.2) (fun hn_ => (Kd.freshB (g := gb569) (o := .cells #[.int .u8 x570000_1, .slice none 0 0] 77 (0, 0)) (HW.zB BK569.out) k_ hn_))⟩)) (below_size HW.zb)); have n2_ := Aside0.mk (Kd.V_lower (Kd.V_mono (ok' := fun k_ => (P0_ k_ ∨ w.heap.size ≤ k_) ∧ k_ ≠ gb569) ho1 (fun k_ hk_ => ⟨Or.elim hk_ (fun hs_ => hs_.1) (fun hn_ => (.inr (Nat.le_trans (below_size HW.zb) hn_))), Or.elim hk_ (fun hs_ => hs_.2) (fun hn_ => (Kd.freshB (g := gb569) (o := .cells #[.int .u8 x570000_1, .slice none 0 0] 77 (0, 0)) (HW.zB BK569.out) k_ hn_))⟩)) (below_size HW.zb)); have n3_ := Aside0.mk (blk_below (g := gb569) (o := .cells #[.int .u8 x570000_1, .slice none 0 0] 77 (0, 0)) (HW.zB BK569.out) hb); have n4_ := Aside0.mk (below_step HW.zb hb); clear HO_7; clear BK569; clear HB; have HO_7 := n0_; have HO583 := n1_; have HO586 := n2_; have BK569 := n3_; have HB := n4_; clear n0_ n1_ n2_ n3_ n4_; (try clear hb); (try clear hb2); (try clear hk); (try clear hi); (try clear ho0); (try clear ho1); obtain ⟨Ao57, co57, eo57⟩ := Kd.V_slice HO583.out; subst eo57))
          have n0_ := Aside0.mk (Kd.V_drew HO_7.out); have n1_ := Aside0.mk (Kd.V_drew HO583.out); have n2_ := Aside0.mk (Kd.V_drew HO586.out); have n3_ := Aside0.mk (blk_drew BK569.out); have n4_ := Aside0.mk (below_drew1 HB.out); clear HO_7; clear HO583; clear HO586; clear BK569; clear HB; have HO_7 := n0_; have HO583 := n1_; have HO586 := n2_; have BK569 := n3_; have HB := n4_; clear n0_ n1_ n2_ n3_ n4_
          have p597 : 0 ≤ (0 : Int) := (by omega)
          have q597 : 0 < (l1.length : Int) := of_decide_eq_true (by first | (with_reducible assumption) | assumption)
          obtain ⟨ad597, e597, hx597_0⟩ := Kd.at_string HR1.out 0 p597 q597; have hw597_0 := hx597_0
          (try rw [show ((0 : Int)).toNat = 0 from rfl] at hw597_0)
          (try rw [show 0 * 1 = 0 from rfl] at hw597_0)
          (try rw [Addr.add_zero'] at hw597_0)
          cases e597
          have qi597 : (0 < l1.length) = True := eq_true (by omega)
          (try rw [show ((0 : Int)).toNat = 0 from rfl] at hx597_0)
          (try rw [Addr.add_zero'] at hx597_0)
          replace hx597_0 := (HB.out.cell (World.block_lt_of_cell? w _ hx597_0)).trans hx597_0; replace p597 := eq_true p597; replace q597 := eq_true q597
          refine start_ (n := 7) (S := fun w' => w'.cell? ad597 = some (.string (rdOf ByteArray.empty l1 0))) (ds := []) #[false, false, false, false, false, false, false] (by kernel_rfl) rfl rfl (((HB.out.cell (World.block_lt_of_cell? w _ hw597_0)).trans hw597_0)) (fun hHeld => ?_)
          generalize w56.drew = w58 at HO_7 HO583 HO586 BK569 HB hx597_0 hHeld ⊢
          refine HW.pz (i := 0) (N := some 55) #[true, false, false, false, false, false, false] ?_
          refine HW.pz (i := 3) (N := some 58) #[true, false, false, true, false, false, false] ?_
          refine HW.pz (i := 4) (N := some 59) #[true, false, false, true, true, false, false] ?_
          refine take_ (i := 5) (N := some 60) (v := ?_) (a' := ?_) #[true, false, false, true, true, true, false] rfl rfl (by kernel_rfl) (fun _ _ _ h => h) (Or.inl ⟨by rfl, ?_⟩) hHeld ?_ ?_
          rotate_left
          · intro w' s0
            go_simp
            with_reducible rfl
          rotate_left
          · simp only [Act.put, List.setIfInBounds_toArray, List.set_cons_zero, List.set_cons_succ, i64_w, i32_w]
            rfl
          refine one_ (i := 1) (N := some 56) #[true, true, false, true, true, true, false] rfl rfl (by kernel_rfl) (by decide) (fun K hK => ?_)
          refine goes_ Tryd.func46 (by kernel_rfl) rfl #[.slice Ao57 t581.length co57] (by rfl) rfl rfl (by (try simp only [List.map_toArray, List.map_cons, List.map_nil]); first | done | rfl | (simp only [List.length_drop, List.length_take]; rfl)) ?_
          with_reducible refine (bsoncore_Element_KeyBytes.calls (fun k_ => ((P0_ k_ ∨ w.heap.size ≤ k_) ∧ k_ ≠ gb569)) _ _ t581 t594 _ ?side1 A11.out).mono ?_
          (case side1 => exact HO583.out)
          rintro e w59 ⟨v595, rfl, ho0, hb⟩
          refine ⟨_, rfl, ?_⟩
          have n0_ := Aside0.mk (Kd.V_below (HW.zV HO_7.out) hb); have n1_ := Aside0.mk (Kd.V_below (HW.zV HO583.out) hb); have n2_ := Aside0.mk (Kd.V_below (HW.zV HO586.out) hb); have n3_ := Aside0.mk (Kd.V_lower (Kd.V_mono (ok' := fun k_ => (P0_ k_ ∨ w.heap.size ≤ k_) ∧ k_ ≠ gb569) ho0 (fun k_ hk_ => ⟨Or.elim hk_ (fun hs_ => hs_.1) (fun hn_ => (.inr (Nat.le_trans (below_size HW.zb) hn_))), Or.elim hk_ (fun hs_ => hs_.2) (fun hn_ => (Kd.freshB (g := gb569) (o := .cells #[.int .u8 x570000_1, .slice none 0 0] 77 (0, 0)) (HW.zB BK569.out) k_ hn_))⟩)) (below_size HW.zb)); have n4_ := Aside0.mk (blk_below (g := gb569) (o := .cells #[.int .u8 x570000_1, .slice none 0 0] 77 (0, 0)) (HW.zB BK569.out) hb); have n5_ := Aside0.mk (below_step HW.zb hb); clear HO_7; clear HO583; clear HO586; clear BK569; clear HB; have HO_7 := n0_; have HO583 := n1_; have HO586 := n2_; have HO596 := n3_; have BK569 := n4_; have HB := n5_; clear n0_ n1_ n2_ n3_ n4_ n5_
          (try clear hb)
          (try clear hb2)
          (try clear hk)
          (try clear hi)
          (try clear ho0)
          refine hK.out _ _ (((HB.out.cell (World.block_lt_of_cell? w _ hw597_0)).trans hw597_0)) (fun hHeld => ?_)
          clear hK K
          refine HW.nz (N := (some 56)) ?_
          refine one_ (i := 2) (N := some 57) #[true, true, true, true, true, true, false] rfl rfl (by kernel_rfl) (by decide) (fun K hK => ?_)
          have hcv60 := HW.V_string (P := Tryd.prog) Tryd.underlying23 Tryd.underlying5 Tryd.underlying9 (HO596.out)
          refine value_ (w1 := ?_) (v := ?_) (by rfl) rfl ?_ ?_
          rotate_left 2
          · go_simp
            constructor
            · rfl
            rfl
          clear hcv60
          refine hK.out _ _ (((HB.out.cell (World.block_lt_of_cell? w _ hw597_0)).trans hw597_0)) (fun hHeld => ?_)
          clear hK K
          refine HW.nz (N := (some 57)) ?_
          refine HW.pz (i := 6) (N := some 61) #[true, true, true, true, true, true, true] ?_
          refine done_ (by kernel_rfl) ?_
          try go_wp2
          go_roundg k1
          case measure => have := HK1.out; omega
          case rel => exact ⟨(wrap32 (x6_1 - (wrap32 ((t581.length : Int))))), (t584), (x570000_1), (by first | rfl | (simp; done) | (simp [*]; done)), H', ⟨by have := HK1.out; omega⟩, ⟨HW.zV HO586.out⟩, ⟨by (with_reducible repeat (first | refine blk_drewN ?_ _ | refine blk_drew ?_ | refine blk_alloc ?_ _)); exact BK569.out⟩, ⟨HW.zb⟩⟩
      rw [if_pos c13] at H; have c13b0 : ((strOfNums t594).toList == (rdOf ByteArray.empty l1 0).toList) = true := beq_iff_eq.mpr c13; have c13b1 : ((strOfNums t594).toList != (rdOf ByteArray.empty l1 0).toList) = false := bne_eq_false_iff_eq.mpr c13; clear c13
      by_cases c14 : (l1.length : Int) > 1
      rotate_left
      · rw [if_neg c14] at H
        have c14b0 : decide (1 < (l1.length : Int)) = false := decide_eq_false c14
        have c14b1 : decide (1 < l1.length) = false := decide_eq_false (by omega)
        clear c14; replace H := Option.bind_eq_some_iff.mp H; obtain ⟨⟨t615, t616, t619⟩, A440, H⟩ := H; replace H : (some (t615, t616, t619)) = some (r1, r2, r3) := H; have A44 := Aside0.mk A440; clear A440
        as_aux_lemma =>
          simp only [Option.some.injEq, Prod.mk.injEq] at H
          obtain ⟨rfl, rfl, rfl⟩ := H; obtain ⟨Ao45, co45, eo45⟩ := Kd.V_slice HO_7.out; subst eo45
          try go_wp2_with (first | ((with_reducible refine gate_callee (f := 45) rfl ?_); refine HW.gz (some 39) rfl rfl Tryd.func45 (by kernel_rfl) rfl #[.slice Ao45 x7_1.length co45] rfl ?_; (with_reducible refine (bsoncore_ReadElement.calls k1 (fun k_ => ((P0_ k_ ∨ w.heap.size ≤ k_) ∧ k_ ≠ gb569)) _ _ x7_1 t581 t584 true _ ?side1 A9.out).mono ?_); (case side1 => exact HO_7.out); rintro e w46 ⟨v582, v585, rfl, ho0, ho1, hb⟩; refine ⟨_, rfl, ?_⟩; have n0_ := Aside0.mk (Kd.V_below (HW.zV HO_7.out) hb); have n1_ := Aside0.mk (Kd.V_lower (Kd.V_mono (ok' := fun k_ => (P0_ k_ ∨ w.heap.size ≤ k_) ∧ k_ ≠ gb569) ho0 (fun k_ hk_ => ⟨Or.elim hk_ (fun hs_ => hs_.1) (fun hn_ => (.inr (Nat.le_trans (below_size HW.zb) hn_))), Or.elim hk_ (fun hs_ => hs_.2) (fun hn_ => (Kd.freshB (g := gb569) (o := .cells #[.int .u8 x570000_1, .slice none 0 0] 77 (0, 0)) (HW.zB BK569.out) k_ hn_))⟩)) (below_size HW.zb)); have n2_ := Aside0.mk (Kd.V_lower (Kd.V_mono (ok' := fun k_ => (P0_ k_ ∨ w.heap.size ≤ k_) ∧ k_ ≠ gb569) ho1 (fun k_ hk_ => ⟨Or.elim hk_ (fun hs_ => hs_.1) (fun hn_ => (.inr (Nat.le_trans (below_size HW.zb) hn_))), Or.elim hk_ (fun hs_ => hs_.2) (fun hn_ => (Kd.freshB (g := gb569) (o := .cells #[.int .u8 x570000_1, .slice none 0 0] 77 (0, 0)) (HW.zB BK569.out) k_ hn_))⟩)) (below_size HW.zb)); have n3_ := Aside0.mk (blk_below (g := gb569) (o := .cells #[.int .u8 x570000_1, .slice none 0 0] 77 (0, 0)) (HW.zB BK569.out) hb); have n4_ := Aside0.mk (below_step HW.zb hb); clear HO_7; clear BK569; clear HB; have HO_7 := n0_; have HO583 := n1_; have HO586 := n2_; have BK569 := n3_; have HB := n4_; clear n0_ n1_ n2_ n3_ n4_; (try clear hb); (try clear hb2); (try clear hk); (try clear hi); (try clear ho0); (try clear ho1); obtain ⟨Ao47, co47, eo47⟩ := Kd.V_slice HO583.out; subst eo47))
          have n0_ := Aside0.mk (Kd.V_drew HO_7.out); have n1_ := Aside0.mk (Kd.V_drew HO583.out); have n2_ := Aside0.mk (Kd.V_drew HO586.out); have n3_ := Aside0.mk (blk_drew BK569.out); have n4_ := Aside0.mk (below_drew1 HB.out); clear HO_7; clear HO583; clear HO586; clear BK569; clear HB; have HO_7 := n0_; have HO583 := n1_; have HO586 := n2_; have BK569 := n3_; have HB := n4_; clear n0_ n1_ n2_ n3_ n4_
          have p597 : 0 ≤ (0 : Int) := (by omega)
          have q597 : 0 < (l1.length : Int) := of_decide_eq_true (by first | (with_reducible assumption) | assumption)
          obtain ⟨ad597, e597, hx597_0⟩ := Kd.at_string HR1.out 0 p597 q597; have hw597_0 := hx597_0
          (try rw [show ((0 : Int)).toNat = 0 from rfl] at hw597_0)
          (try rw [show 0 * 1 = 0 from rfl] at hw597_0)
          (try rw [Addr.add_zero'] at hw597_0)
          cases e597
          have qi597 : (0 < l1.length) = True := eq_true (by omega)
          (try rw [show ((0 : Int)).toNat = 0 from rfl] at hx597_0)
          (try rw [Addr.add_zero'] at hx597_0)
          replace hx597_0 := (HB.out.cell (World.block_lt_of_cell? w _ hx597_0)).trans hx597_0; replace p597 := eq_true p597; replace q597 := eq_true q597
          refine start_ (n := 7) (S := fun w' => w'.cell? ad597 = some (.string (rdOf ByteArray.empty l1 0))) (ds := []) #[false, false, false, false, false, false, false] (by kernel_rfl) rfl rfl (((HB.out.cell (World.block_lt_of_cell? w _ hw597_0)).trans hw597_0)) (fun hHeld => ?_)
          generalize w46.drew = w48 at HO_7 HO583 HO586 BK569 HB hx597_0 hHeld ⊢
          refine HW.pz (i := 0) (N := some 55) #[true, false, false, false, false, false, false] ?_
          refine HW.pz (i := 3) (N := some 58) #[true, false, false, true, false, false, false] ?_
          refine HW.pz (i := 4) (N := some 59) #[true, false, false, true, true, false, false] ?_
          refine take_ (i := 5) (N := some 60) (v := ?_) (a' := ?_) #[true, false, false, true, true, true, false] rfl rfl (by kernel_rfl) (fun _ _ _ h => h) (Or.inl ⟨by rfl, ?_⟩) hHeld ?_ ?_
          rotate_left
          · intro w' s0
            go_simp
            with_reducible rfl
          rotate_left
          · simp only [Act.put, List.setIfInBounds_toArray, List.set_cons_zero, List.set_cons_succ, i64_w, i32_w]
            rfl
          refine one_ (i := 1) (N := some 56) #[true, true, false, true, true, true, false] rfl rfl (by kernel_rfl) (by decide) (fun K hK => ?_)
          refine goes_ Tryd.func46 (by kernel_rfl) rfl #[.slice Ao47 t581.length co47] (by rfl) rfl rfl (by (try simp only [List.map_toArray, List.map_cons, List.map_nil]); first | done | rfl | (simp only [List.length_drop, List.length_take]; rfl)) ?_
          with_reducible refine (bsoncore_Element_KeyBytes.calls (fun k_ => ((P0_ k_ ∨ w.heap.size ≤ k_) ∧ k_ ≠ gb569)) _ _ t581 t594 _ ?side1 A11.out).mono ?_
          (case side1 => exact HO583.out)
          rintro e w49 ⟨v595, rfl, ho0, hb⟩
          refine ⟨_, rfl, ?_⟩
          have n0_ := Aside0.mk (Kd.V_below (HW.zV HO_7.out) hb); have n1_ := Aside0.mk (Kd.V_below (HW.zV HO583.out) hb); have n2_ := Aside0.mk (Kd.V_below (HW.zV HO586.out) hb); have n3_ := Aside0.mk (Kd.V_lower (Kd.V_mono (ok' := fun k_ => (P0_ k_ ∨ w.heap.size ≤ k_) ∧ k_ ≠ gb569) ho0 (fun k_ hk_ => ⟨Or.elim hk_ (fun hs_ => hs_.1) (fun hn_ => (.inr (Nat.le_trans (below_size HW.zb) hn_))), Or.elim hk_ (fun hs_ => hs_.2) (fun hn_ => (Kd.freshB (g := gb569) (o := .cells #[.int .u8 x570000_1, .slice none 0 0] 77 (0, 0)) (HW.zB BK569.out) k_ hn_))⟩)) (below_size HW.zb)); have n4_ := Aside0.mk (blk_below (g := gb569) (o := .cells #[.int .u8 x570000_1, .slice none 0 0] 77 (0, 0)) (HW.zB BK569.out) hb); have n5_ := Aside0.mk (below_step HW.zb hb); clear HO_7; clear HO583; clear HO586; clear BK569; clear HB; have HO_7 := n0_; have HO583 := n1_; have HO586 := n2_; have HO596 := n3_; have BK569 := n4_; have HB := n5_; clear n0_ n1_ n2_ n3_ n4_ n5_
          (try clear hb)
          (try clear hb2)
          (try clear hk)
          (try clear hi)
          (try clear ho0)
          refine hK.out _ _ (((HB.out.cell (World.block_lt_of_cell? w _ hw597_0)).trans hw597_0)) (fun hHeld => ?_)
          clear hK K
          refine HW.nz (N := (some 56)) ?_
          refine one_ (i := 2) (N := some 57) #[true, true, true, true, true, true, false] rfl rfl (by kernel_rfl) (by decide) (fun K hK => ?_)
          have hcv50 := HW.V_string (P := Tryd.prog) Tryd.underlying23 Tryd.underlying5 Tryd.underlying9 (HO596.out)
          refine value_ (w1 := ?_) (v := ?_) (by rfl) rfl ?_ ?_
          rotate_left 2
          · go_simp
            constructor
            · rfl
            rfl
          clear hcv50
          refine hK.out _ _ (((HB.out.cell (World.block_lt_of_cell? w _ hw597_0)).trans hw597_0)) (fun hHeld => ?_)
          clear hK K
          refine HW.nz (N := (some 57)) ?_
          refine HW.pz (i := 6) (N := some 61) #[true, true, true, true, true, true, true] ?_
          refine done_ (by kernel_rfl) ?_
          try go_wp2_with (first | ((with_reducible refine gate_callee (f := 37) rfl ?_); refine HW.gz (some 108) rfl rfl Tryd.func37 (by kernel_rfl) rfl #[.slice Ao47 t581.length co47] rfl ?_; (with_reducible refine (bsoncore_Element_ValueErr.calls k1 (fun k_ => ((P0_ k_ ∨ w.heap.size ≤ k_) ∧ k_ ≠ gb569)) _ _ t581 t615 t616 t619 _ ?side1 A44.out).mono ?_); (case side1 => exact HO583.out); rintro e w51 ⟨v617, rfl, ho0, hb⟩; refine ⟨_, rfl, ?_⟩; have n0_ := Aside0.mk (Kd.V_below (HW.zV HO_7.out) hb); have n1_ := Aside0.mk (Kd.V_below (HW.zV HO583.out) hb); have n2_ := Aside0.mk (Kd.V_below (HW.zV HO586.out) hb); have n3_ := Aside0.mk (Kd.V_below (HW.zV HO596.out) hb); have n4_ := Aside0.mk (Kd.V_lower (Kd.V_mono (ok' := fun k_ => (P0_ k_ ∨ w.heap.size ≤ k_) ∧ k_ ≠ gb569) ho0 (fun k_ hk_ => ⟨Or.elim hk_ (fun hs_ => hs_.1) (fun hn_ => (.inr (Nat.le_trans (below_size HW.zb) hn_))), Or.elim hk_ (fun hs_ => hs_.2) (fun hn_ => (Kd.freshB (g := gb569) (o := .cells #[.int .u8 x570000_1, .slice none 0 0] 77 (0, 0)) (HW.zB BK569.out) k_ hn_))⟩)) (below_size HW.zb)); have n5_ := Aside0.mk (blk_below (g := gb569) (o := .cells #[.int .u8 x570000_1, .slice none 0 0] 77 (0, 0)) (HW.zB BK569.out) hb); have n6_ := Aside0.mk (below_step HW.zb hb); clear HO_7; clear HO583; clear HO586; clear HO596; clear BK569; clear HB; have HO_7 := n0_; have HO583 := n1_; have HO586 := n2_; have HO596 := n3_; have HO618 := n4_; have BK569 := n5_; have HB := n6_; clear n0_ n1_ n2_ n3_ n4_ n5_ n6_; (try clear hb); (try clear hb2); (try clear hk); (try clear hi); (try clear ho0); (try simp only [errW_none, errW_some]); have hcz52_0 := HW.zc BK569.out 0 (.int .u8 x570000_1); have hcz52_1 := HW.zc BK569.out 1 (.slice none 0 0); have hfz53_0 := blk_frozen BK569.out 0; have hfz53_1 := blk_frozen BK569.out 1; obtain ⟨Ao54, co54, eo54⟩ := Kd.V_slice HO618.out; subst eo54))
          refine bodyPost_ret (results_ct rfl _ _ gb569 77 #[.int .u8 t615, .slice Ao54 t616.length co54] (0, 0) _ rfl (by (with_reducible repeat (first | refine blk_drewN ?_ _ | refine blk_drew ?_ | refine blk_alloc ?_ _)); refine blk_put (cs := #[.int .u8 t615, .slice none 0 0]) ?_ 1 _ rfl; (with_reducible repeat (first | refine blk_drewN ?_ _ | refine blk_drew ?_ | refine blk_alloc ?_ _)); refine blk_put (cs := #[.int .u8 x570000_1, .slice none 0 0]) ?_ 0 _ rfl; (with_reducible repeat (first | refine blk_drewN ?_ _ | refine blk_drew ?_ | refine blk_alloc ?_ _)); exact BK569.out) Tryd.underlying77 rfl (by kernel_rfl)) rfl ?_
          exact ⟨_, by first | rfl | (simp [errW_none, errW_some] <;> rfl) | (simp [*, errW_none, errW_some] <;> rfl), by (with_reducible repeat (first | apply Kd.V_alloc | apply Kd.V_drewN | apply Kd.V_drew)); exact Kd.V_mono (Kd.V_far (p := ⟨gb569, 1, none⟩) (Kd.V_far (p := ⟨gb569, 0, none⟩) (Kd.V_mono HO618.out (fun k_ hk => (⟨hk, hk.2⟩ : _ ∧ k_ ≠ gb569))) (fun _ hk => hk.2) (.int .u8 t615)) (fun _ hk => hk.2) (.slice Ao54 t616.length co54)) (fun _ hk => hk.1.1), HW.zb⟩
      rw [if_pos c14] at H; have c14b0 : decide (1 < (l1.length : Int)) = true := decide_eq_true c14
      have c14b1 : decide (1 < l1.length) = true := decide_eq_true (by omega)
      clear c14
      by_cases c15 : 0 < (t581.length : Int)
      rotate_left
      · rw [if_neg c15] at H
        exact absurd H (by simp)
      rw [if_pos c15] at H; have c15b0 : decide (0 < (t581.length : Int)) = true := decide_eq_true c15
      have c15b1 : decide (0 < t581.length) = true := decide_eq_true (by omega)
      clear c15
      by_cases c16 : (rd t581 0) = 3
      rotate_left
      · rw [if_neg c16] at H
        exact absurd H (by simp)
      rw [if_pos c16] at H; have c16b0 : ((rd t581 0) == 3) = true := beq_iff_eq.mpr c16; have c16b1 : ((rd t581 0) != 3) = false := bne_eq_false_iff_eq.mpr c16; clear c16; replace H := Option.bind_eq_some_iff.mp H; obtain ⟨⟨t599, t600⟩, A170, H⟩ := H; replace H : ((bsoncore_Value_Document.f t599 t600).bind fun t603 => (if 1 ≤ (l1.length : Int) then ((bsoncore_Document_LookupErr.f k1 t603 (l1.drop 1)).bind fun bt607 => (if bt607.2.2.isNone = true then (some (bt607.1, bt607.2.1, none)) else (none))) else (none))) = some (r1, r2, r3) := H; have A17 := Aside0.mk A170; clear A170; replace H := Option.bind_eq_some_iff.mp H; obtain ⟨t603, A180, H⟩ := H; replace H : (if 1 ≤ (l1.length : Int) then ((bsoncore_Document_LookupErr.f k1 t603 (l1.drop 1)).bind fun bt607 => (if bt607.2.2.isNone = true then (some (bt607.1, bt607.2.1, none)) else (none))) else (none)) = some (r1, r2, r3) := H; have A18 := Aside0.mk A180; clear A180
      by_cases c19 : 1 ≤ (l1.length : Int)
      rotate_left
      · rw [if_neg c19] at H
        exact absurd H (by simp)
      rw [if_pos c19] at H; have c19b0 := eq_true c19; have c19b1 : decide (1 ≤ (l1.length : Int)) = true := decide_eq_true c19; clear c19; replace H := Option.bind_eq_some_iff.mp H; obtain ⟨⟨t607, t608, t611⟩, A200, H⟩ := H; replace H : (if t611.isNone = true then (some (t607, t608, none)) else (none)) = some (r1, r2, r3) := H; have A20 := Aside0.mk A200; clear A200
      rcases t611 with _ | q613
      rotate_left
      · have H1 : (none) = some (r1, r2, r3) := by rw [if_neg (show ¬ (some q613).isNone = true by simp)] at H; exact H
        clear H; have H := H1; clear H1
        try simp only [errW_none, errW_some]
        exact absurd H (by simp)
      have H1 : (some (t607, t608, none)) = some (r1, r2, r3) := by rw [if_pos (show (none : Option Int).isNone = true by rfl)] at H; exact H
      clear H; have H := H1; clear H1
      try simp only [errW_none, errW_some]
      as_aux_lemma =>
        simp only [Option.some.injEq, Prod.mk.injEq] at H
        obtain ⟨rfl, rfl, rfl⟩ := H; obtain ⟨Ao21, co21, eo21⟩ := Kd.V_slice HO_7.out; subst eo21
        try go_wp2_with (first | ((with_reducible refine gate_callee (f := 45) rfl ?_); refine HW.gz (some 39) rfl rfl Tryd.func45 (by kernel_rfl) rfl #[.slice Ao21 x7_1.length co21] rfl ?_; (with_reducible refine (bsoncore_ReadElement.calls k1 (fun k_ => ((P0_ k_ ∨ w.heap.size ≤ k_) ∧ k_ ≠ gb569)) _ _ x7_1 t581 t584 true _ ?side1 A9.out).mono ?_); (case side1 => exact HO_7.out); rintro e w22 ⟨v582, v585, rfl, ho0, ho1, hb⟩; refine ⟨_, rfl, ?_⟩; have n0_ := Aside0.mk (Kd.V_below (HW.zV HO_7.out) hb); have n1_ := Aside0.mk (Kd.V_lower (Kd.V_mono (ok' := fun k_ => (P0_ k_ ∨ w.heap.size ≤ k_) ∧ k_ ≠ gb569) ho0 (fun k_ hk_ => ⟨Or.elim hk_ (fun hs_ => hs_.1) (fun hn_ => (.inr (Nat.le_trans (below_size HW.zb) hn_))), Or.elim hk_ (fun hs_ => hs_.2) (fun hn_ => (Kd.freshB (g := gb569) (o := .cells #[.int .u8 x570000_1, .slice none 0 0] 77 (0, 0)) (HW.zB BK569.out) k_ hn_))⟩)) (below_size HW.zb)); have n2_ := Aside0.mk (Kd.V_lower (Kd.V_mono (ok' := fun k_ => (P0_ k_ ∨ w.heap.size ≤ k_) ∧ k_ ≠ gb569) ho1 (fun k_ hk_ => ⟨Or.elim hk_ (fun hs_ => hs_.1) (fun hn_ => (.inr (Nat.le_trans (below_size HW.zb) hn_))), Or.elim hk_ (fun hs_ => hs_.2) (fun hn_ => (Kd.freshB (g := gb569) (o := .cells #[.int .u8 x570000_1, .slice none 0 0] 77 (0, 0)) (HW.zB BK569.out) k_ hn_))⟩)) (below_size HW.zb)); have n3_ := Aside0.mk (blk_below (g := gb569) (o := .cells #[.int .u8 x570000_1, .slice none 0 0] 77 (0, 0)) (HW.zB BK569.out) hb); have n4_ := Aside0.mk (below_step HW.zb hb); clear HO_7; clear BK569; clear HB; have HO_7 := n0_; have HO583 := n1_; have HO586 := n2_; have BK569 := n3_; have HB := n4_; clear n0_ n1_ n2_ n3_ n4_; (try clear hb); (try clear hb2); (try clear hk); (try clear hi); (try clear ho0); (try clear ho1); obtain ⟨Ao23, co23, eo23⟩ := Kd.V_slice HO583.out; subst eo23))
        have n0_ := Aside0.mk (Kd.V_drew HO_7.out); have n1_ := Aside0.mk (Kd.V_drew HO583.out); have n2_ := Aside0.mk (Kd.V_drew HO586.out); have n3_ := Aside0.mk (blk_drew BK569.out); have n4_ := Aside0.mk (below_drew1 HB.out); clear HO_7; clear HO583; clear HO586; clear BK569; clear HB; have HO_7 := n0_; have HO583 := n1_; have HO586 := n2_; have BK569 := n3_; have HB := n4_; clear n0_ n1_ n2_ n3_ n4_
        have p597 : 0 ≤ (0 : Int) := (by omega)
        have q597 : 0 < (l1.length : Int) := of_decide_eq_true (by first | (with_reducible assumption) | assumption)
        obtain ⟨ad597, e597, hx597_0⟩ := Kd.at_string HR1.out 0 p597 q597; have hw597_0 := hx597_0
        (try rw [show ((0 : Int)).toNat = 0 from rfl] at hw597_0)
        (try rw [show 0 * 1 = 0 from rfl] at hw597_0)
        (try rw [Addr.add_zero'] at hw597_0)
        cases e597
        have qi597 : (0 < l1.length) = True := eq_true (by omega)
        (try rw [show ((0 : Int)).toNat = 0 from rfl] at hx597_0)
        (try rw [Addr.add_zero'] at hx597_0)
        replace hx597_0 := (HB.out.cell (World.block_lt_of_cell? w _ hx597_0)).trans hx597_0; replace p597 := eq_true p597; replace q597 := eq_true q597
        refine start_ (n := 7) (S := fun w' => w'.cell? ad597 = some (.string (rdOf ByteArray.empty l1 0))) (ds := []) #[false, false, false, false, false, false, false] (by kernel_rfl) rfl rfl (((HB.out.cell (World.block_lt_of_cell? w _ hw597_0)).trans hw597_0)) (fun hHeld => ?_)
        generalize w22.drew = w24 at HO_7 HO583 HO586 BK569 HB hx597_0 hHeld ⊢
        refine HW.pz (i := 0) (N := some 55) #[true, false, false, false, false, false, false] ?_
        refine HW.pz (i := 3) (N := some 58) #[true, false, false, true, false, false, false] ?_
        refine HW.pz (i := 4) (N := some 59) #[true, false, false, true, true, false, false] ?_
        refine take_ (i := 5) (N := some 60) (v := ?_) (a' := ?_) #[true, false, false, true, true, true, false] rfl rfl (by kernel_rfl) (fun _ _ _ h => h) (Or.inl ⟨by rfl, ?_⟩) hHeld ?_ ?_
        rotate_left
        · intro w' s0
          go_simp
          with_reducible rfl
        rotate_left
        · simp only [Act.put, List.setIfInBounds_toArray, List.set_cons_zero, List.set_cons_succ, i64_w, i32_w]
          rfl
        refine one_ (i := 1) (N := some 56) #[true, true, false, true, true, true, false] rfl rfl (by kernel_rfl) (by decide) (fun K hK => ?_)
        refine goes_ Tryd.func46 (by kernel_rfl) rfl #[.slice Ao23 t581.length co23] (by rfl) rfl rfl (by (try simp only [List.map_toArray, List.map_cons, List.map_nil]); first | done | rfl | (simp only [List.length_drop, List.length_take]; rfl)) ?_
        with_reducible refine (bsoncore_Element_KeyBytes.calls (fun k_ => ((P0_ k_ ∨ w.heap.size ≤ k_) ∧ k_ ≠ gb569)) _ _ t581 t594 _ ?side1 A11.out).mono ?_
        (case side1 => exact HO583.out)
        rintro e w25 ⟨v595, rfl, ho0, hb⟩
        refine ⟨_, rfl, ?_⟩
        have n0_ := Aside0.mk (Kd.V_below (HW.zV HO_7.out) hb); have n1_ := Aside0.mk (Kd.V_below (HW.zV HO583.out) hb); have n2_ := Aside0.mk (Kd.V_below (HW.zV HO586.out) hb); have n3_ := Aside0.mk (Kd.V_lower (Kd.V_mono (ok' := fun k_ => (P0_ k_ ∨ w.heap.size ≤ k_) ∧ k_ ≠ gb569) ho0 (fun k_ hk_ => ⟨Or.elim hk_ (fun hs_ => hs_.1) (fun hn_ => (.inr (Nat.le_trans (below_size HW.zb) hn_))), Or.elim hk_ (fun hs_ => hs_.2) (fun hn_ => (Kd.freshB (g := gb569) (o := .cells #[.int .u8 x570000_1, .slice none 0 0] 77 (0, 0)) (HW.zB BK569.out) k_ hn_))⟩)) (below_size HW.zb)); have n4_ := Aside0.mk (blk_below (g := gb569) (o := .cells #[.int .u8 x570000_1, .slice none 0 0] 77 (0, 0)) (HW.zB BK569.out) hb); have n5_ := Aside0.mk (below_step HW.zb hb); clear HO_7; clear HO583; clear HO586; clear BK569; clear HB; have HO_7 := n0_; have HO583 := n1_; have HO586 := n2_; have HO596 := n3_; have BK569 := n4_; have HB := n5_; clear n0_ n1_ n2_ n3_ n4_ n5_
        (try clear hb)
        (try clear hb2)
        (try clear hk)
        (try clear hi)
        (try clear ho0)
        refine hK.out _ _ (((HB.out.cell (World.block_lt_of_cell? w _ hw597_0)).trans hw597_0)) (fun hHeld => ?_)
        clear hK K
        refine HW.nz (N := (some 56)) ?_
        refine one_ (i := 2) (N := some 57) #[true, true, true, true, true, true, false] rfl rfl (by kernel_rfl) (by decide) (fun K hK => ?_)
        have hcv26 := HW.V_string (P := Tryd.prog) Tryd.underlying23 Tryd.underlying5 Tryd.underlying9 (HO596.out)
        refine value_ (w1 := ?_) (v := ?_) (by rfl) rfl ?_ ?_
        rotate_left 2
        · go_simp
          constructor
          · rfl
          rfl
        clear hcv26
        refine hK.out _ _ (((HB.out.cell (World.block_lt_of_cell? w _ hw597_0)).trans hw597_0)) (fun hHeld => ?_)
        clear hK K
        refine HW.nz (N := (some 57)) ?_
        refine HW.pz (i := 6) (N := some 61) #[true, true, true, true, true, true, true] ?_
        refine done_ (by kernel_rfl) ?_
        have p598 : 0 ≤ (0 : Int) := (by omega)
        have q598 : 0 < (t581.length : Int) := of_decide_eq_true (by first | (with_reducible assumption) | assumption)
        obtain ⟨ad598, e598, hx598_0⟩ := Kd.at_int (Kd.V_reads' HO583.out).2.2 0 p598 q598
        cases e598
        have qi598 : (0 < t581.length) = True := eq_true (by omega)
        (try rw [show ((0 : Int)).toNat = 0 from rfl] at hx598_0)
        (try rw [Addr.add_zero'] at hx598_0)
        replace p598 := eq_true p598; replace q598 := eq_true q598
        try go_wp2
        have n0_ := Aside0.mk (Kd.V_drew HO_7.out); have n1_ := Aside0.mk (Kd.V_drew HO583.out); have n2_ := Aside0.mk (Kd.V_drew HO586.out); have n3_ := Aside0.mk (Kd.V_drew HO596.out); have n4_ := Aside0.mk (blk_drew BK569.out); have n5_ := Aside0.mk (below_drew1 HB.out); clear HO_7; clear HO583; clear HO586; clear HO596; clear BK569; clear HB; have HO_7 := n0_; have HO583 := n1_; have HO586 := n2_; have HO596 := n3_; have BK569 := n4_; have HB := n5_; clear n0_ n1_ n2_ n3_ n4_ n5_; obtain ⟨i028, hi028, _, hsz28, _⟩ := info_parts info9
        obtain ⟨A28, hcut28, hA28, hC28⟩ := print_drop_of (P := Tryd.prog) Value.string (⟨#[]⟩ : ByteArray) 39 9 .i64 Tryd.underlying39 hi028 hsz28 (some ad597) c1 l1 1 (by omega) (of_decide_eq_true (by first | (with_reducible assumption) | assumption)) HC1.out
        have HR606 := Aside0.mk (Kd.C_of_reads (h1 := fun _ => rfl) (hA28 _ (Kd.reads_of_C HR1.out))); have HC606 := Aside0.mk hC28; clear hA28 hC28 hi028 hsz28
        refine start_ (n := 12) (S := fun w' => True) (ds := []) #[false, false, false, false, false, false, false, false, false, false, false, false] (by kernel_rfl) rfl rfl trivial (fun hHeld => ?_); refine with_tabW bsoncore_Document_LookupErr.tab19 bsoncore_Document_LookupErr.bits19 (fun HT_ HW_ => ?_)
        generalize w25.drew = w27 at HO_7 HO583 HO586 HO596 BK569 HB HR606 hHeld ⊢
        refine HW.pz (i := 0) (N := some 78) #[true, false, false, false, false, false, false, false, false, false, false, false] ?_ (hc := any_of HT_.out (by kernel_rfl))
        refine HW.pz (i := 3) (N := some 81) #[true, false, false, true, false, false, false, false, false, false, false, false] ?_ (hc := any_of HT_.out (by kernel_rfl))
        refine HW.pz (i := 4) (N := some 82) #[true, false, false, true, true, false, false, false, false, false, false, false] ?_ (hc := any_of HT_.out (by kernel_rfl))
        refine join_ (σ := Value × Value × Value × Nat) 2 #[true, true, true, true, true, true, true, true, true, true, false, false] (fun s_ => [(79, .agg #[.int .u8 t599, s_.1]), (80, s_.2.1), (83, .tuple #[.agg #[.int .u8 t607, s_.2.2.1], errW none]), (11, .pointer (some ⟨s_.2.2.2, 0, none⟩)), (77, .tuple #[.agg #[.int .u8 t607, s_.2.2.1], errW none]), (84, .agg #[.int .u8 t607, s_.2.2.1]), (85, errW none)]) (fun s_ w' => (Kd.V (Kd.int .u8) 5 w' w.heap.size (fun k_ => (P0_ k_ ∨ w.heap.size ≤ k_) ∧ k_ ≠ gb569 ∧ k_ ≠ s_.2.2.2) (.slice (some ad598) t581.length co23) t581) ∧ (Kd.V (Kd.int .u8) 5 w' w.heap.size (fun k_ => (P0_ k_ ∨ w.heap.size ≤ k_) ∧ k_ ≠ gb569 ∧ k_ ≠ s_.2.2.2) v585 t584) ∧ (Kd.V (Kd.int .u8) 5 w' w.heap.size (fun k_ => (P0_ k_ ∨ w.heap.size ≤ k_) ∧ k_ ≠ gb569 ∧ k_ ≠ s_.2.2.2) v595 t594) ∧ (Kd.V (Kd.int .u8) 5 w' w.heap.size (fun k_ => (P0_ k_ ∨ w.heap.size ≤ k_) ∧ k_ ≠ gb569 ∧ k_ ≠ s_.2.2.2) s_.1 t600) ∧ (Kd.V (Kd.int .u8) 5 w' w.heap.size (fun k_ => (P0_ k_ ∨ w.heap.size ≤ k_) ∧ k_ ≠ gb569 ∧ k_ ≠ s_.2.2.2) s_.2.1 t603) ∧ (Kd.V (Kd.int .u8) 5 w' w.heap.size (fun k_ => (P0_ k_ ∨ w.heap.size ≤ k_) ∧ k_ ≠ gb569 ∧ k_ ≠ s_.2.2.2) s_.2.2.1 t608) ∧ (Kd.V (Kd.int .u8) 5 w' w.heap.size (fun k_ => (P0_ k_ ∨ w.heap.size ≤ k_) ∧ k_ ≠ gb569 ∧ k_ ≠ s_.2.2.2) (.slice Ao21 x7_1.length co21) x7_1) ∧ (w'.heap[gb569]? = some (.cells #[.int .u8 x570000_1, .slice none 0 0] 77 (0, 0))) ∧ (w'.heap[s_.2.2.2]? = some (.cells #[.int .u8 0, .slice none 0 0] 77 (0, 0))) ∧ (w.heap.size ≤ s_.2.2.2) ∧ (w.heap.size ≤ s_.2.2.2) ∧ (gb569 ≠ s_.2.2.2) ∧ (s_.2.2.2 ≠ gb569) ∧ (Below w.heap.size w w')) ?_ ?_
        rotate_left
        · intro hCont
          refine two_ (i := 1) (j := 9) (Ni := some 79) (Nj := some 11) #[true, true, false, true, true, false, false, false, false, false, false, false] #[true, false, false, true, true, false, false, false, false, true, false, false] rfl rfl rfl rfl (two_of HT_.out (by kernel_rfl)) (by decide) (by decide) (fun K hK => ?_) (fun K hK => ?_)
          · skip
            refine goes_ Tryd.func47 (by kernel_rfl) rfl #[.slice (some ad598) t581.length co23] (by rfl) rfl rfl (by (try simp only [List.map_toArray, List.map_cons, List.map_nil]); first | done | rfl | (simp only [List.length_drop, List.length_take]; rfl)) ?_
            with_reducible refine (bsoncore_Element_Value.calls k1 (fun k_ => ((P0_ k_ ∨ w.heap.size ≤ k_) ∧ k_ ≠ gb569)) _ _ t581 t599 t600 _ ?side1 A17.out).mono ?_
            (case side1 => exact HO583.out)
            rintro e w29 ⟨v601, rfl, ho0, hb⟩
            refine ⟨_, rfl, ?_⟩
            have n0_ := Aside0.mk (Kd.V_below (HW.zV HO_7.out) hb); have n1_ := Aside0.mk (Kd.V_below (HW.zV HO583.out) hb); have n2_ := Aside0.mk (Kd.V_below (HW.zV HO586.out) hb); have n3_ := Aside0.mk (Kd.V_below (HW.zV HO596.out) hb); have n4_ := Aside0.mk (Kd.V_lower (Kd.V_mono (ok' := fun k_ => (P0_ k_ ∨ w.heap.size ≤ k_) ∧ k_ ≠ gb569) ho0 (fun k_ hk_ => ⟨Or.elim hk_ (fun hs_ => hs_.1) (fun hn_ => (.inr (Nat.le_trans (below_size HW.zb) hn_))), Or.elim hk_ (fun hs_ => hs_.2) (fun hn_ => (Kd.freshB (g := gb569) (o := .cells #[.int .u8 x570000_1, .slice none 0 0] 77 (0, 0)) (HW.zB BK569.out) k_ hn_))⟩)) (below_size HW.zb)); have n5_ := Aside0.mk (blk_below (g := gb569) (o := .cells #[.int .u8 x570000_1, .slice none 0 0] 77 (0, 0)) (HW.zB BK569.out) hb); have n6_ := Aside0.mk (below_step HW.zb hb); clear HO_7; clear HO583; clear HO586; clear HO596; clear BK569; clear HB; have HO_7 := n0_; have HO583 := n1_; have HO586 := n2_; have HO596 := n3_; have HO602 := n4_; have BK569 := n5_; have HB := n6_; clear n0_ n1_ n2_ n3_ n4_ n5_ n6_
            (try clear hb)
            (try clear hb2)
            (try clear hk)
            (try clear hi)
            (try clear ho0)
            obtain ⟨Ao30, co30, eo30⟩ := Kd.V_slice HO602.out
            (first | subst eo30 | (injection eo30 with f1_ f2_ f3_; have f4_ := f1_.symm; have f5_ := f3_.symm; clear f1_ f2_ f3_; subst f4_; subst f5_))
            refine hK.out _ _ trivial (fun hHeld => ?_)
            clear hK K
            refine HW.nz (N := (some 79)) ?_
            refine two_ (i := 2) (j := 9) (Ni := some 80) (Nj := some 11) #[true, true, true, true, true, false, false, false, false, false, false, false] #[true, true, false, true, true, false, false, false, false, true, false, false] rfl rfl rfl rfl (two_of HT_.out (by kernel_rfl)) (by decide) (by decide) (fun K hK => ?_) (fun K hK => ?_)
            · skip
              refine goes_ Tryd.func48 (by kernel_rfl) rfl #[.agg #[.int .u8 t599, .slice Ao30 t600.length co30]] (by rfl) rfl rfl (by (try simp only [List.map_toArray, List.map_cons, List.map_nil]); first | done | rfl | (simp only [List.length_drop, List.length_take]; rfl)) ?_
              with_reducible refine (bsoncore_Value_Document.calls t599 (fun k_ => ((P0_ k_ ∨ w.heap.size ≤ k_) ∧ k_ ≠ gb569)) _ _ t600 t603 _ ?side1 A18.out).mono ?_
              (case side1 => exact HO602.out)
              rintro e w31 ⟨v604, rfl, ho0, hb⟩
              refine ⟨_, rfl, ?_⟩
              have n0_ := Aside0.mk (Kd.V_below (HW.zV HO_7.out) hb); have n1_ := Aside0.mk (Kd.V_below (HW.zV HO583.out) hb); have n2_ := Aside0.mk (Kd.V_below (HW.zV HO586.out) hb); have n3_ := Aside0.mk (Kd.V_below (HW.zV HO596.out) hb); have n4_ := Aside0.mk (Kd.V_below (HW.zV HO602.out) hb); have n5_ := Aside0.mk (Kd.V_lower (Kd.V_mono (ok' := fun k_ => (P0_ k_ ∨ w.heap.size ≤ k_) ∧ k_ ≠ gb569) ho0 (fun k_ hk_ => ⟨Or.elim hk_ (fun hs_ => hs_.1) (fun hn_ => (.inr (Nat.le_trans (below_size HW.zb) hn_))), Or.elim hk_ (fun hs_ => hs_.2) (fun hn_ => (Kd.freshB (g := gb569) (o := .cells #[.int .u8 x570000_1, .slice none 0 0] 77 (0, 0)) (HW.zB BK569.out) k_ hn_))⟩)) (below_size HW.zb)); have n6_ := Aside0.mk (blk_below (g := gb569) (o := .cells #[.int .u8 x570000_1, .slice none 0 0] 77 (0, 0)) (HW.zB BK569.out) hb); have n7_ := Aside0.mk (below_step HW.zb hb); clear HO_7; clear HO583; clear HO586; clear HO596; clear HO602; clear BK569; clear HB; have HO_7 := n0_; have HO583 := n1_; have HO586 := n2_; have HO596 := n3_; have HO602 := n4_; have HO605 := n5_; have BK569 := n6_; have HB := n7_; clear n0_ n1_ n2_ n3_ n4_ n5_ n6_ n7_
              (try clear hb)
              (try clear hb2)
              (try clear hk)
              (try clear hi)
              (try clear ho0)
              obtain ⟨Ao32, co32, eo32⟩ := Kd.V_slice HO605.out
              (first | subst eo32 | (injection eo32 with f1_ f2_ f3_; have f4_ := f1_.symm; have f5_ := f3_.symm; clear f1_ f2_ f3_; subst f4_; subst f5_))
              refine hK.out _ _ trivial (fun hHeld => ?_)
              clear hK K
              refine HW.nz (N := (some 80)) ?_
              refine two_ (i := 5) (j := 9) (Ni := some 83) (Nj := some 11) #[true, true, true, true, true, true, false, false, false, false, false, false] #[true, true, true, true, true, false, false, false, false, true, false, false] rfl rfl rfl rfl (two_of HT_.out (by kernel_rfl)) (by decide) (by decide) (fun K hK => ?_) (fun K hK => ?_)
              · skip
                refine goes_ Tryd.func32 (by kernel_rfl) rfl #[.slice Ao32 t603.length co32, .slice A28 (l1.drop 1).length (c1 - 1)] (by rfl) rfl rfl (by (try simp only [List.map_toArray, List.map_cons, List.map_nil]); first | done | (rw [show (l1.drop 1).length = (l1.length - 1) from List.length_drop] <;> rfl) | rfl | (simp only [List.length_drop, List.length_take]; rfl)) ?_
                with_reducible refine (ih k1 (by have := HK1.out; omega) (fun k_ => ((P0_ k_ ∨ w.heap.size ≤ k_) ∧ k_ ≠ gb569)) _ _ t603 _ _ (l1.drop 1) t607 t608 none _ ?side1 ?side2 ?side3 A20.out).mono ?_
                (case side1 => exact HO605.out)
                (case side2 => repeat (first | exact (Kd.C_below HR606.out HB.out) | (with_reducible refine Kd.C_alloc ?_ _) | (with_reducible refine Kd.C_drewN ?_ _) | (with_reducible refine Kd.C_drew ?_)))
                (case side3 => exact HC606.out)
                rintro e w33 ⟨v609, rfl, ho0, hb⟩
                refine ⟨_, rfl, ?_⟩
                have n0_ := Aside0.mk (Kd.V_below (HW.zV HO_7.out) hb); have n1_ := Aside0.mk (Kd.V_below (HW.zV HO583.out) hb); have n2_ := Aside0.mk (Kd.V_below (HW.zV HO586.out) hb); have n3_ := Aside0.mk (Kd.V_below (HW.zV HO596.out) hb); have n4_ := Aside0.mk (Kd.V_below (HW.zV HO602.out) hb); have n5_ := Aside0.mk (Kd.V_below (HW.zV HO605.out) hb); have n6_ := Aside0.mk (Kd.V_lower (Kd.V_mono (ok' := fun k_ => (P0_ k_ ∨ w.heap.size ≤ k_) ∧ k_ ≠ gb569) ho0 (fun k_ hk_ => ⟨Or.elim hk_ (fun hs_ => hs_.1) (fun hn_ => (.inr (Nat.le_trans (below_size HW.zb) hn_))), Or.elim hk_ (fun hs_ => hs_.2) (fun hn_ => (Kd.freshB (g := gb569) (o := .cells #[.int .u8 x570000_1, .slice none 0 0] 77 (0, 0)) (HW.zB BK569.out) k_ hn_))⟩)) (below_size HW.zb)); have n7_ := Aside0.mk (blk_below (g := gb569) (o := .cells #[.int .u8 x570000_1, .slice none 0 0] 77 (0, 0)) (HW.zB BK569.out) hb); have n8_ := Aside0.mk (below_step HW.zb hb); clear HO_7; clear HO583; clear HO586; clear HO596; clear HO602; clear HO605; clear BK569; clear HB; have HO_7 := n0_; have HO583 := n1_; have HO586 := n2_; have HO596 := n3_; have HO602 := n4_; have HO605 := n5_; have HO610 := n6_; have BK569 := n7_; have HB := n8_; clear n0_ n1_ n2_ n3_ n4_ n5_ n6_ n7_ n8_
                (try clear hb)
                (try clear hb2)
                (try clear hk)
                (try clear hi)
                (try clear ho0)
                (try simp only [errW_none, errW_some])
                refine hK.out _ _ trivial (fun hHeld => ?_)
                clear hK K
                refine HW.nz (N := (some 83)) ?_
                refine HW.pz (i := 6) (N := some 77) #[true, true, true, true, true, true, true, false, false, false, false, false] ?_ (hc := any_of HT_.out (by kernel_rfl))
                refine HW.pz (i := 7) (N := some 84) #[true, true, true, true, true, true, true, true, false, false, false, false] ?_ (hc := any_of HT_.out (by kernel_rfl))
                refine HW.pz (i := 8) (N := some 85) #[true, true, true, true, true, true, true, true, true, false, false, false] ?_ (hc := any_of HT_.out (by kernel_rfl))
                refine one_ (i := 9) (N := some 11) #[true, true, true, true, true, true, true, true, true, true, false, false] rfl rfl (one_of HT_.out (by kernel_rfl)) (by decide) (fun K hK => ?_)
                refine box_step ?hg (N := 11) ?hd (cs := #[.int .u8 0, .slice none 0 0]) (t := 77) ?hr ?_; (case hd => rfl); (case hg => rfl); (case hr => first | (go_simp; done) | (go_simp; rfl))
                intro gb612 hg w34 hbox hb
                have n0_ := Aside0.mk (Kd.V_below (Kd.V_elderB (HW.zV HO_7.out) gb612 (Nat.le_of_eq hg.symm)) hb); have n1_ := Aside0.mk (Kd.V_below (Kd.V_elderB (HW.zV HO583.out) gb612 (Nat.le_of_eq hg.symm)) hb); have n2_ := Aside0.mk (Kd.V_below (Kd.V_elderB (HW.zV HO586.out) gb612 (Nat.le_of_eq hg.symm)) hb); have n3_ := Aside0.mk (Kd.V_below (Kd.V_elderB (HW.zV HO596.out) gb612 (Nat.le_of_eq hg.symm)) hb); have n4_ := Aside0.mk (Kd.V_below (Kd.V_elderB (HW.zV HO602.out) gb612 (Nat.le_of_eq hg.symm)) hb); have n5_ := Aside0.mk (Kd.V_below (Kd.V_elderB (HW.zV HO605.out) gb612 (Nat.le_of_eq hg.symm)) hb); have n6_ := Aside0.mk (Kd.V_below (Kd.V_elderB (HW.zV HO610.out) gb612 (Nat.le_of_eq hg.symm)) hb); have n7_ := Aside0.mk (blk_below (g := gb569) (o := .cells #[.int .u8 x570000_1, .slice none 0 0] 77 (0, 0)) (HW.zB BK569.out) hb); have n8_ := Aside0.mk (below_step HW.zb hb); have n9_ := Aside0.mk (hbox)
                have n10_ := Aside0.mk ((by rw [hg]; exact (below_size HW.zb) : w.heap.size ≤ gb612))
                have n11_ := Aside0.mk ((by rw [hg]; exact (below_size HW.zb) : w.heap.size ≤ gb612))
                have n12_ := Aside0.mk ((by rw [hg]; exact Nat.ne_of_lt (blk_lt (g := gb569) (o := .cells #[.int .u8 x570000_1, .slice none 0 0] 77 (0, 0)) (HW.zB BK569.out)) : gb569 ≠ gb612))
                have n13_ := Aside0.mk ((by rw [hg]; exact Nat.ne_of_gt (blk_lt (g := gb569) (o := .cells #[.int .u8 x570000_1, .slice none 0 0] 77 (0, 0)) (HW.zB BK569.out)) : gb612 ≠ gb569))
                clear HO_7; clear HO583; clear HO586; clear HO596; clear HO602; clear HO605; clear HO610; clear BK569; clear HB; have HO_7 := n0_; have HO583 := n1_; have HO586 := n2_; have HO596 := n3_; have HO602 := n4_; have HO605 := n5_; have HO610 := n6_; have BK569 := n7_; have HB := n8_; have BK612 := n9_; have GW612 := n10_; have GE612 := n11_; have NB569_612 := n12_; have NB612_569 := n13_; clear n0_ n1_ n2_ n3_ n4_ n5_ n6_ n7_ n8_ n9_ n10_ n11_ n12_ n13_; clear hb hbox hg
                refine hK.out _ _ trivial (fun hHeld => ?_)
                clear hK K
                refine HW.nz (N := (some 11)) ?_
                exact norm_ (by simp only [putAll, Act.put, List.setIfInBounds_toArray, List.set_cons_zero, List.set_cons_succ, errW_none]) (hCont (.slice Ao30 t600.length co30, .slice Ao32 t603.length co32, v609, gb612) _ ⟨(HW.zV (Kd.V_mono HO583.out (fun _ hk => ⟨hk.1.1, ⟨hk.1.2, hk.2⟩⟩))), (HW.zV (Kd.V_mono HO586.out (fun _ hk => ⟨hk.1.1, ⟨hk.1.2, hk.2⟩⟩))), (HW.zV (Kd.V_mono HO596.out (fun _ hk => ⟨hk.1.1, ⟨hk.1.2, hk.2⟩⟩))), (HW.zV (Kd.V_mono HO602.out (fun _ hk => ⟨hk.1.1, ⟨hk.1.2, hk.2⟩⟩))), (HW.zV (Kd.V_mono HO605.out (fun _ hk => ⟨hk.1.1, ⟨hk.1.2, hk.2⟩⟩))), (HW.zV (Kd.V_mono HO610.out (fun _ hk => ⟨hk.1.1, ⟨hk.1.2, hk.2⟩⟩))), (HW.zV (Kd.V_mono HO_7.out (fun _ hk => ⟨hk.1.1, ⟨hk.1.2, hk.2⟩⟩))), (HW.zB BK569.out), (HW.zB BK612.out), GW612.out, GE612.out, NB569_612.out, NB612_569.out, HW.zb⟩)
              skip
              refine box_step ?hg (N := 11) ?hd (cs := #[.int .u8 0, .slice none 0 0]) (t := 77) ?hr ?_; (case hd => rfl); (case hg => rfl); (case hr => first | (go_simp; done) | (go_simp; rfl))
              intro gb612 hg w32 hbox hb
              have n0_ := Aside0.mk (Kd.V_below (Kd.V_elderB (HW.zV HO_7.out) gb612 (Nat.le_of_eq hg.symm)) hb); have n1_ := Aside0.mk (Kd.V_below (Kd.V_elderB (HW.zV HO583.out) gb612 (Nat.le_of_eq hg.symm)) hb); have n2_ := Aside0.mk (Kd.V_below (Kd.V_elderB (HW.zV HO586.out) gb612 (Nat.le_of_eq hg.symm)) hb); have n3_ := Aside0.mk (Kd.V_below (Kd.V_elderB (HW.zV HO596.out) gb612 (Nat.le_of_eq hg.symm)) hb); have n4_ := Aside0.mk (Kd.V_below (Kd.V_elderB (HW.zV HO602.out) gb612 (Nat.le_of_eq hg.symm)) hb); have n5_ := Aside0.mk (Kd.V_below (Kd.V_elderB (HW.zV HO605.out) gb612 (Nat.le_of_eq hg.symm)) hb); have n6_ := Aside0.mk (blk_below (g := gb569) (o := .cells #[.int .u8 x570000_1, .slice none 0 0] 77 (0, 0)) (HW.zB BK569.out) hb); have n7_ := Aside0.mk (below_step HW.zb hb); have n8_ := Aside0.mk (hbox)
              have n9_ := Aside0.mk ((by rw [hg]; exact (below_size HW.zb) : w.heap.size ≤ gb612))
              have n10_ := Aside0.mk ((by rw [hg]; exact (below_size HW.zb) : w.heap.size ≤ gb612))
              have n11_ := Aside0.mk ((by rw [hg]; exact Nat.ne_of_lt (blk_lt (g := gb569) (o := .cells #[.int .u8 x570000_1, .slice none 0 0] 77 (0, 0)) (HW.zB BK569.out)) : gb569 ≠ gb612))
              have n12_ := Aside0.mk ((by rw [hg]; exact Nat.ne_of_gt (blk_lt (g := gb569) (o := .cells #[.int .u8 x570000_1, .slice none 0 0] 77 (0, 0)) (HW.zB BK569.out)) : gb612 ≠ gb569))
              clear HO_7; clear HO583; clear HO586; clear HO596; clear HO602; clear HO605; clear BK569; clear HB; have HO_7 := n0_; have HO583 := n1_; have HO586 := n2_; have HO596 := n3_; have HO602 := n4_; have HO605 := n5_; have BK569 := n6_; have HB := n7_; have BK612 := n8_; have GW612 := n9_; have GE612 := n10_; have NB569_612 := n11_; have NB612_569 := n12_; clear n0_ n1_ n2_ n3_ n4_ n5_ n6_ n7_ n8_ n9_ n10_ n11_ n12_; clear hb hbox hg; obtain ⟨Ao33, co33, eo33⟩ := Kd.V_slice HO605.out
              (first | subst eo33 | (injection eo33 with f1_ f2_ f3_; have f4_ := f1_.symm; have f5_ := f3_.symm; clear f1_ f2_ f3_; subst f4_; subst f5_))
              refine hK.out _ _ trivial (fun hHeld => ?_)
              clear hK K
              refine HW.nz (N := (some 11)) ?_
              refine one_ (i := 5) (N := some 83) #[true, true, true, true, true, true, false, false, false, true, false, false] rfl rfl (one_of HT_.out (by kernel_rfl)) (by decide) (fun K hK => ?_)
              refine goes_ Tryd.func32 (by kernel_rfl) rfl #[.slice Ao33 t603.length co33, .slice A28 (l1.drop 1).length (c1 - 1)] (by rfl) rfl rfl (by (try simp only [List.map_toArray, List.map_cons, List.map_nil]); first | done | (rw [show (l1.drop 1).length = (l1.length - 1) from List.length_drop] <;> rfl) | rfl | (simp only [List.length_drop, List.length_take]; rfl)) ?_
              with_reducible refine (ih k1 (by have := HK1.out; omega) (fun k_ => (((P0_ k_ ∨ w.heap.size ≤ k_) ∧ k_ ≠ gb569) ∧ k_ ≠ gb612)) _ _ t603 _ _ (l1.drop 1) t607 t608 none _ ?side1 ?side2 ?side3 A20.out).mono ?_
              (case side1 => exact HO605.out)
              (case side2 => repeat (first | exact (Kd.C_below HR606.out HB.out) | (with_reducible refine Kd.C_alloc ?_ _) | (with_reducible refine Kd.C_drewN ?_ _) | (with_reducible refine Kd.C_drew ?_)))
              (case side3 => exact HC606.out)
              rintro e w34 ⟨v609, rfl, ho0, hb⟩
              refine ⟨_, rfl, ?_⟩
              have n0_ := Aside0.mk (Kd.V_below (HW.zV HO_7.out) hb); have n1_ := Aside0.mk (Kd.V_below (HW.zV HO583.out) hb); have n2_ := Aside0.mk (Kd.V_below (HW.zV HO586.out) hb); have n3_ := Aside0.mk (Kd.V_below (HW.zV HO596.out) hb); have n4_ := Aside0.mk (Kd.V_below (HW.zV HO602.out) hb); have n5_ := Aside0.mk (Kd.V_below (HW.zV HO605.out) hb); have n6_ := Aside0.mk (Kd.V_lower (Kd.V_mono (ok' := fun k_ => (P0_ k_ ∨ w.heap.size ≤ k_) ∧ k_ ≠ gb569 ∧ k_ ≠ gb612) ho0 (fun k_ hk_ => ⟨Or.elim hk_ (fun hs_ => hs_.1.1) (fun hn_ => (.inr (Nat.le_trans (below_size HW.zb) hn_))), Or.elim hk_ (fun hs_ => hs_.1.2) (fun hn_ => (Kd.freshB (g := gb569) (o := .cells #[.int .u8 x570000_1, .slice none 0 0] 77 (0, 0)) (HW.zB BK569.out) k_ hn_)), Or.elim hk_ (fun hs_ => hs_.2) (fun hn_ => (Kd.freshB (g := gb612) (o := .cells #[.int .u8 0, .slice none 0 0] 77 (0, 0)) (HW.zB BK612.out) k_ hn_))⟩)) (below_size HW.zb)); have n7_ := Aside0.mk (blk_below (g := gb569) (o := .cells #[.int .u8 x570000_1, .slice none 0 0] 77 (0, 0)) (HW.zB BK569.out) hb); have n8_ := Aside0.mk (blk_below (g := gb612) (o := .cells #[.int .u8 0, .slice none 0 0] 77 (0, 0)) (HW.zB BK612.out) hb); have n9_ := Aside0.mk (below_step HW.zb hb); clear HO_7; clear HO583; clear HO586; clear HO596; clear HO602; clear HO605; clear BK569; clear BK612; clear HB; have HO_7 := n0_; have HO583 := n1_; have HO586 := n2_; have HO596 := n3_; have HO602 := n4_; have HO605 := n5_; have HO610 := n6_; have BK569 := n7_; have BK612 := n8_
              have HB := n9_; clear n0_ n1_ n2_ n3_ n4_ n5_ n6_ n7_ n8_ n9_
              (try clear hb)
              (try clear hb2)
              (try clear hk)
              (try clear hi)
              (try clear ho0)
              (try simp only [errW_none, errW_some])
              refine hK.out _ _ trivial (fun hHeld => ?_)
              clear hK K
              refine HW.nz (N := (some 83)) ?_
              refine HW.pz (i := 6) (N := some 77) #[true, true, true, true, true, true, true, false, false, true, false, false] ?_ (hc := any_of HT_.out (by kernel_rfl))
              refine HW.pz (i := 7) (N := some 84) #[true, true, true, true, true, true, true, true, false, true, false, false] ?_ (hc := any_of HT_.out (by kernel_rfl))
              refine HW.pz (i := 8) (N := some 85) #[true, true, true, true, true, true, true, true, true, true, false, false] ?_ (hc := any_of HT_.out (by kernel_rfl))
              exact norm_ (by simp only [putAll, Act.put, List.setIfInBounds_toArray, List.set_cons_zero, List.set_cons_succ, errW_none]) (hCont (.slice Ao30 t600.length co30, .slice Ao33 t603.length co33, v609, gb612) _ ⟨(HW.zV (Kd.V_mono HO583.out (fun _ hk => ⟨hk.1.1, ⟨hk.1.2, hk.2⟩⟩))), (HW.zV (Kd.V_mono HO586.out (fun _ hk => ⟨hk.1.1, ⟨hk.1.2, hk.2⟩⟩))), (HW.zV (Kd.V_mono HO596.out (fun _ hk => ⟨hk.1.1, ⟨hk.1.2, hk.2⟩⟩))), (HW.zV (Kd.V_mono HO602.out (fun _ hk => ⟨hk.1.1, ⟨hk.1.2, hk.2⟩⟩))), (HW.zV (Kd.V_mono HO605.out (fun _ hk => ⟨hk.1.1, ⟨hk.1.2, hk.2⟩⟩))), (HW.zV HO610.out), (HW.zV (Kd.V_mono HO_7.out (fun _ hk => ⟨hk.1.1, ⟨hk.1.2, hk.2⟩⟩))), (HW.zB BK569.out), (HW.zB BK612.out), GW612.out, GE612.out, NB569_612.out, NB612_569.out, HW.zb⟩)
            skip
            refine box_step ?hg (N := 11) ?hd (cs := #[.int .u8 0, .slice none 0 0]) (t := 77) ?hr ?_; (case hd => rfl); (case hg => rfl); (case hr => first | (go_simp; done) | (go_simp; rfl))
            intro gb612 hg w30 hbox hb
            have n0_ := Aside0.mk (Kd.V_below (Kd.V_elderB (HW.zV HO_7.out) gb612 (Nat.le_of_eq hg.symm)) hb); have n1_ := Aside0.mk (Kd.V_below (Kd.V_elderB (HW.zV HO583.out) gb612 (Nat.le_of_eq hg.symm)) hb); have n2_ := Aside0.mk (Kd.V_below (Kd.V_elderB (HW.zV HO586.out) gb612 (Nat.le_of_eq hg.symm)) hb); have n3_ := Aside0.mk (Kd.V_below (Kd.V_elderB (HW.zV HO596.out) gb612 (Nat.le_of_eq hg.symm)) hb); have n4_ := Aside0.mk (Kd.V_below (Kd.V_elderB (HW.zV HO602.out) gb612 (Nat.le_of_eq hg.symm)) hb); have n5_ := Aside0.mk (blk_below (g := gb569) (o := .cells #[.int .u8 x570000_1, .slice none 0 0] 77 (0, 0)) (HW.zB BK569.out) hb); have n6_ := Aside0.mk (below_step HW.zb hb); have n7_ := Aside0.mk (hbox)
            have n8_ := Aside0.mk ((by rw [hg]; exact (below_size HW.zb) : w.heap.size ≤ gb612))
            have n9_ := Aside0.mk ((by rw [hg]; exact (below_size HW.zb) : w.heap.size ≤ gb612))
            have n10_ := Aside0.mk ((by rw [hg]; exact Nat.ne_of_lt (blk_lt (g := gb569) (o := .cells #[.int .u8 x570000_1, .slice none 0 0] 77 (0, 0)) (HW.zB BK569.out)) : gb569 ≠ gb612))
            have n11_ := Aside0.mk ((by rw [hg]; exact Nat.ne_of_gt (blk_lt (g := gb569) (o := .cells #[.int .u8 x570000_1, .slice none 0 0] 77 (0, 0)) (HW.zB BK569.out)) : gb612 ≠ gb569))
            clear HO_7; clear HO583; clear HO586; clear HO596; clear HO602; clear BK569; clear HB; have HO_7 := n0_; have HO583 := n1_; have HO586 := n2_; have HO596 := n3_; have HO602 := n4_; have BK569 := n5_; have HB := n6_; have BK612 := n7_; have GW612 := n8_; have GE612 := n9_; have NB569_612 := n10_; have NB612_569 := n11_; clear n0_ n1_ n2_ n3_ n4_ n5_ n6_ n7_ n8_ n9_ n10_ n11_; clear hb hbox hg; obtain ⟨Ao31, co31, eo31⟩ := Kd.V_slice HO602.out
            (first | subst eo31 | (injection eo31 with f1_ f2_ f3_; have f4_ := f1_.symm; have f5_ := f3_.symm; clear f1_ f2_ f3_; subst f4_; subst f5_))
            refine hK.out _ _ trivial (fun hHeld => ?_)
            clear hK K
            refine HW.nz (N := (some 11)) ?_
            refine one_ (i := 2) (N := some 80) #[true, true, true, true, true, false, false, false, false, true, false, false] rfl rfl (one_of HT_.out (by kernel_rfl)) (by decide) (fun K hK => ?_)
            refine goes_ Tryd.func48 (by kernel_rfl) rfl #[.agg #[.int .u8 t599, .slice Ao31 t600.length co31]] (by rfl) rfl rfl (by (try simp only [List.map_toArray, List.map_cons, List.map_nil]); first | done | rfl | (simp only [List.length_drop, List.length_take]; rfl)) ?_
            with_reducible refine (bsoncore_Value_Document.calls t599 (fun k_ => (((P0_ k_ ∨ w.heap.size ≤ k_) ∧ k_ ≠ gb569) ∧ k_ ≠ gb612)) _ _ t600 t603 _ ?side1 A18.out).mono ?_
            (case side1 => exact HO602.out)
            rintro e w32 ⟨v604, rfl, ho0, hb⟩
            refine ⟨_, rfl, ?_⟩
            have n0_ := Aside0.mk (Kd.V_below (HW.zV HO_7.out) hb); have n1_ := Aside0.mk (Kd.V_below (HW.zV HO583.out) hb); have n2_ := Aside0.mk (Kd.V_below (HW.zV HO586.out) hb); have n3_ := Aside0.mk (Kd.V_below (HW.zV HO596.out) hb); have n4_ := Aside0.mk (Kd.V_below (HW.zV HO602.out) hb); have n5_ := Aside0.mk (Kd.V_lower (Kd.V_mono (ok' := fun k_ => (P0_ k_ ∨ w.heap.size ≤ k_) ∧ k_ ≠ gb569 ∧ k_ ≠ gb612) ho0 (fun k_ hk_ => ⟨Or.elim hk_ (fun hs_ => hs_.1.1) (fun hn_ => (.inr (Nat.le_trans (below_size HW.zb) hn_))), Or.elim hk_ (fun hs_ => hs_.1.2) (fun hn_ => (Kd.freshB (g := gb569) (o := .cells #[.int .u8 x570000_1, .slice none 0 0] 77 (0, 0)) (HW.zB BK569.out) k_ hn_)), Or.elim hk_ (fun hs_ => hs_.2) (fun hn_ => (Kd.freshB (g := gb612) (o := .cells #[.int .u8 0, .slice none 0 0] 77 (0, 0)) (HW.zB BK612.out) k_ hn_))⟩)) (below_size HW.zb)); have n6_ := Aside0.mk (blk_below (g := gb569) (o := .cells #[.int .u8 x570000_1, .slice none 0 0] 77 (0, 0)) (HW.zB BK569.out) hb); have n7_ := Aside0.mk (blk_below (g := gb612) (o := .cells #[.int .u8 0, .slice none 0 0] 77 (0, 0)) (HW.zB BK612.out) hb); have n8_ := Aside0.mk (below_step HW.zb hb); clear HO_7; clear HO583; clear HO586; clear HO596; clear HO602; clear BK569; clear BK612; clear HB; have HO_7 := n0_; have HO583 := n1_; have HO586 := n2_; have HO596 := n3_; have HO602 := n4_; have HO605 := n5_; have BK569 := n6_; have BK612 := n7_; have HB := n8_; clear n0_ n1_ n2_ n3_ n4_ n5_ n6_ n7_ n8_
            (try clear hb)
            (try clear hb2)
            (try clear hk)
            (try clear hi)
            (try clear ho0)
            obtain ⟨Ao33, co33, eo33⟩ := Kd.V_slice HO605.out
            (first | subst eo33 | (injection eo33 with f1_ f2_ f3_; have f4_ := f1_.symm; have f5_ := f3_.symm; clear f1_ f2_ f3_; subst f4_; subst f5_))
            refine hK.out _ _ trivial (fun hHeld => ?_)
            clear hK K
            refine HW.nz (N := (some 80)) ?_
            refine one_ (i := 5) (N := some 83) #[true, true, true, true, true, true, false, false, false, true, false, false] rfl rfl (one_of HT_.out (by kernel_rfl)) (by decide) (fun K hK => ?_)
            refine goes_ Tryd.func32 (by kernel_rfl) rfl #[.slice Ao33 t603.length co33, .slice A28 (l1.drop 1).length (c1 - 1)] (by rfl) rfl rfl (by (try simp only [List.map_toArray, List.map_cons, List.map_nil]); first | done | (rw [show (l1.drop 1).length = (l1.length - 1) from List.length_drop] <;> rfl) | rfl | (simp only [List.length_drop, List.length_take]; rfl)) ?_
            with_reducible refine (ih k1 (by have := HK1.out; omega) (fun k_ => ((P0_ k_ ∨ w.heap.size ≤ k_) ∧ (k_ ≠ gb569 ∧ k_ ≠ gb612))) _ _ t603 _ _ (l1.drop 1) t607 t608 none _ ?side1 ?side2 ?side3 A20.out).mono ?_
            (case side1 => exact HO605.out)
            (case side2 => repeat (first | exact (Kd.C_below HR606.out HB.out) | (with_reducible refine Kd.C_alloc ?_ _) | (with_reducible refine Kd.C_drewN ?_ _) | (with_reducible refine Kd.C_drew ?_)))
            (case side3 => exact HC606.out)
            rintro e w34 ⟨v609, rfl, ho0, hb⟩
            refine ⟨_, rfl, ?_⟩
            have n0_ := Aside0.mk (Kd.V_below (HW.zV HO_7.out) hb); have n1_ := Aside0.mk (Kd.V_below (HW.zV HO583.out) hb); have n2_ := Aside0.mk (Kd.V_below (HW.zV HO586.out) hb); have n3_ := Aside0.mk (Kd.V_below (HW.zV HO596.out) hb); have n4_ := Aside0.mk (Kd.V_below (HW.zV HO602.out) hb); have n5_ := Aside0.mk (Kd.V_below (HW.zV HO605.out) hb); have n6_ := Aside0.mk (Kd.V_lower (Kd.V_mono (ok' := fun k_ => (P0_ k_ ∨ w.heap.size ≤ k_) ∧ k_ ≠ gb569 ∧ k_ ≠ gb612) ho0 (fun k_ hk_ => ⟨Or.elim hk_ (fun hs_ => hs_.1) (fun hn_ => (.inr (Nat.le_trans (below_size HW.zb) hn_))), Or.elim hk_ (fun hs_ => hs_.2.1) (fun hn_ => (Kd.freshB (g := gb569) (o := .cells #[.int .u8 x570000_1, .slice none 0 0] 77 (0, 0)) (HW.zB BK569.out) k_ hn_)), Or.elim hk_ (fun hs_ => hs_.2.2) (fun hn_ => (Kd.freshB (g := gb612) (o := .cells #[.int .u8 0, .slice none 0 0] 77 (0, 0)) (HW.zB BK612.out) k_ hn_))⟩)) (below_size HW.zb)); have n7_ := Aside0.mk (blk_below (g := gb569) (o := .cells #[.int .u8 x570000_1, .slice none 0 0] 77 (0, 0)) (HW.zB BK569.out) hb); have n8_ := Aside0.mk (blk_below (g := gb612) (o := .cells #[.int .u8 0, .slice none 0 0] 77 (0, 0)) (HW.zB BK612.out) hb); have n9_ := Aside0.mk (below_step HW.zb hb); clear HO_7; clear HO583; clear HO586; clear HO596; clear HO602; clear HO605; clear BK569; clear BK612; clear HB; have HO_7 := n0_; have HO583 := n1_; have HO586 := n2_; have HO596 := n3_; have HO602 := n4_; have HO605 := n5_; have HO610 := n6_; have BK569 := n7_; have BK612 := n8_
            have HB := n9_; clear n0_ n1_ n2_ n3_ n4_ n5_ n6_ n7_ n8_ n9_
            (try clear hb)
            (try clear hb2)
            (try clear hk)
            (try clear hi)
            (try clear ho0)
            (try simp only [errW_none, errW_some])
            refine hK.out _ _ trivial (fun hHeld => ?_)
            clear hK K
            refine HW.nz (N := (some 83)) ?_
            refine HW.pz (i := 6) (N := some 77) #[true, true, true, true, true, true, true, false, false, true, false, false] ?_ (hc := any_of HT_.out (by kernel_rfl))
            refine HW.pz (i := 7) (N := some 84) #[true, true, true, true, true, true, true, true, false, true, false, false] ?_ (hc := any_of HT_.out (by kernel_rfl))
            refine HW.pz (i := 8) (N := some 85) #[true, true, true, true, true, true, true, true, true, true, false, false] ?_ (hc := any_of HT_.out (by kernel_rfl))
            exact norm_ (by simp only [putAll, Act.put, List.setIfInBounds_toArray, List.set_cons_zero, List.set_cons_succ, errW_none]) (hCont (.slice Ao31 t600.length co31, .slice Ao33 t603.length co33, v609, gb612) _ ⟨(HW.zV (Kd.V_mono HO583.out (fun _ hk => ⟨hk.1.1, ⟨hk.1.2, hk.2⟩⟩))), (HW.zV (Kd.V_mono HO586.out (fun _ hk => ⟨hk.1.1, ⟨hk.1.2, hk.2⟩⟩))), (HW.zV (Kd.V_mono HO596.out (fun _ hk => ⟨hk.1.1, ⟨hk.1.2, hk.2⟩⟩))), (HW.zV (Kd.V_mono HO602.out (fun _ hk => ⟨hk.1.1, ⟨hk.1.2, hk.2⟩⟩))), (HW.zV HO605.out), (HW.zV HO610.out), (HW.zV (Kd.V_mono HO_7.out (fun _ hk => ⟨hk.1.1, ⟨hk.1.2, hk.2⟩⟩))), (HW.zB BK569.out), (HW.zB BK612.out), GW612.out, GE612.out, NB569_612.out, NB612_569.out, HW.zb⟩)
          skip
          refine box_step ?hg (N := 11) ?hd (cs := #[.int .u8 0, .slice none 0 0]) (t := 77) ?hr ?_; (case hd => rfl); (case hg => rfl); (case hr => first | (go_simp; done) | (go_simp; rfl))
          intro gb612 hg w29 hbox hb
          have n0_ := Aside0.mk (Kd.V_below (Kd.V_elderB (HW.zV HO_7.out) gb612 (Nat.le_of_eq hg.symm)) hb); have n1_ := Aside0.mk (Kd.V_below (Kd.V_elderB (HW.zV HO583.out) gb612 (Nat.le_of_eq hg.symm)) hb); have n2_ := Aside0.mk (Kd.V_below (Kd.V_elderB (HW.zV HO586.out) gb612 (Nat.le_of_eq hg.symm)) hb); have n3_ := Aside0.mk (Kd.V_below (Kd.V_elderB (HW.zV HO596.out) gb612 (Nat.le_of_eq hg.symm)) hb); have n4_ := Aside0.mk (blk_below (g := gb569) (o := .cells #[.int .u8 x570000_1, .slice none 0 0] 77 (0, 0)) (HW.zB BK569.out) hb); have n5_ := Aside0.mk (below_step HW.zb hb); have n6_ := Aside0.mk (hbox)
          have n7_ := Aside0.mk ((by rw [hg]; exact (below_size HW.zb) : w.heap.size ≤ gb612))
          have n8_ := Aside0.mk ((by rw [hg]; exact (below_size HW.zb) : w.heap.size ≤ gb612))
          have n9_ := Aside0.mk ((by rw [hg]; exact Nat.ne_of_lt (blk_lt (g := gb569) (o := .cells #[.int .u8 x570000_1, .slice none 0 0] 77 (0, 0)) (HW.zB BK569.out)) : gb569 ≠ gb612))
          have n10_ := Aside0.mk ((by rw [hg]; exact Nat.ne_of_gt (blk_lt (g := gb569) (o := .cells #[.int .u8 x570000_1, .slice none 0 0] 77 (0, 0)) (HW.zB BK569.out)) : gb612 ≠ gb569))
          clear HO_7; clear HO583; clear HO586; clear HO596; clear BK569; clear HB; have HO_7 := n0_; have HO583 := n1_; have HO586 := n2_; have HO596 := n3_; have BK569 := n4_; have HB := n5_; have BK612 := n6_; have GW612 := n7_; have GE612 := n8_; have NB569_612 := n9_; have NB612_569 := n10_; clear n0_ n1_ n2_ n3_ n4_ n5_ n6_ n7_ n8_ n9_ n10_; clear hb hbox hg
          refine hK.out _ _ trivial (fun hHeld => ?_)
          clear hK K
          refine HW.nz (N := (some 11)) ?_
          refine one_ (i := 1) (N := some 79) #[true, true, false, true, true, false, false, false, false, true, false, false] rfl rfl (one_of HT_.out (by kernel_rfl)) (by decide) (fun K hK => ?_)
          refine goes_ Tryd.func47 (by kernel_rfl) rfl #[.slice (some ad598) t581.length co23] (by rfl) rfl rfl (by (try simp only [List.map_toArray, List.map_cons, List.map_nil]); first | done | rfl | (simp only [List.length_drop, List.length_take]; rfl)) ?_
          with_reducible refine (bsoncore_Element_Value.calls k1 (fun k_ => (((P0_ k_ ∨ w.heap.size ≤ k_) ∧ k_ ≠ gb569) ∧ k_ ≠ gb612)) _ _ t581 t599 t600 _ ?side1 A17.out).mono ?_
          (case side1 => exact HO583.out)
          rintro e w30 ⟨v601, rfl, ho0, hb⟩
          refine ⟨_, rfl, ?_⟩
          have n0_ := Aside0.mk (Kd.V_below (HW.zV HO_7.out) hb); have n1_ := Aside0.mk (Kd.V_below (HW.zV HO583.out) hb); have n2_ := Aside0.mk (Kd.V_below (HW.zV HO586.out) hb); have n3_ := Aside0.mk (Kd.V_below (HW.zV HO596.out) hb); have n4_ := Aside0.mk (Kd.V_lower (Kd.V_mono (ok' := fun k_ => (P0_ k_ ∨ w.heap.size ≤ k_) ∧ k_ ≠ gb569 ∧ k_ ≠ gb612) ho0 (fun k_ hk_ => ⟨Or.elim hk_ (fun hs_ => hs_.1.1) (fun hn_ => (.inr (Nat.le_trans (below_size HW.zb) hn_))), Or.elim hk_ (fun hs_ => hs_.1.2) (fun hn_ => (Kd.freshB (g := gb569) (o := .cells #[.int .u8 x570000_1, .slice none 0 0] 77 (0, 0)) (HW.zB BK569.out) k_ hn_)), Or.elim hk_ (fun hs_ => hs_.2) (fun hn_ => (Kd.freshB (g := gb612) (o := .cells #[.int .u8 0, .slice none 0 0] 77 (0, 0)) (HW.zB BK612.out) k_ hn_))⟩)) (below_size HW.zb)); have n5_ := Aside0.mk (blk_below (g := gb569) (o := .cells #[.int .u8 x570000_1, .slice none 0 0] 77 (0, 0)) (HW.zB BK569.out) hb); have n6_ := Aside0.mk (blk_below (g := gb612) (o := .cells #[.int .u8 0, .slice none 0 0] 77 (0, 0)) (HW.zB BK612.out) hb); have n7_ := Aside0.mk (below_step HW.zb hb); clear HO_7; clear HO583; clear HO586; clear HO596; clear BK569; clear BK612; clear HB; have HO_7 := n0_; have HO583 := n1_; have HO586 := n2_; have HO596 := n3_; have HO602 := n4_; have BK569 := n5_; have BK612 := n6_; have HB := n7_; clear n0_ n1_ n2_ n3_ n4_ n5_ n6_ n7_
          (try clear hb)
          (try clear hb2)
          (try clear hk)
          (try clear hi)
          (try clear ho0)
          obtain ⟨Ao31, co31, eo31⟩ := Kd.V_slice HO602.out
          (first | subst eo31 | (injection eo31 with f1_ f2_ f3_; have f4_ := f1_.symm; have f5_ := f3_.symm; clear f1_ f2_ f3_; subst f4_; subst f5_))
          refine hK.out _ _ trivial (fun hHeld => ?_)
          clear hK K
          refine HW.nz (N := (some 79)) ?_
          refine one_ (i := 2) (N := some 80) #[true, true, true, true, true, false, false, false, false, true, false, false] rfl rfl (one_of HT_.out (by kernel_rfl)) (by decide) (fun K hK => ?_)
          refine goes_ Tryd.func48 (by kernel_rfl) rfl #[.agg #[.int .u8 t599, .slice Ao31 t600.length co31]] (by rfl) rfl rfl (by (try simp only [List.map_toArray, List.map_cons, List.map_nil]); first | done | rfl | (simp only [List.length_drop, List.length_take]; rfl)) ?_
          with_reducible refine (bsoncore_Value_Document.calls t599 (fun k_ => ((P0_ k_ ∨ w.heap.size ≤ k_) ∧ (k_ ≠ gb569 ∧ k_ ≠ gb612))) _ _ t600 t603 _ ?side1 A18.out).mono ?_
          (case side1 => exact HO602.out)
          rintro e w32 ⟨v604, rfl, ho0, hb⟩
          refine ⟨_, rfl, ?_⟩
          have n0_ := Aside0.mk (Kd.V_below (HW.zV HO_7.out) hb); have n1_ := Aside0.mk (Kd.V_below (HW.zV HO583.out) hb); have n2_ := Aside0.mk (Kd.V_below (HW.zV HO586.out) hb); have n3_ := Aside0.mk (Kd.V_below (HW.zV HO596.out) hb); have n4_ := Aside0.mk (Kd.V_below (HW.zV HO602.out) hb); have n5_ := Aside0.mk (Kd.V_lower (Kd.V_mono (ok' := fun k_ => (P0_ k_ ∨ w.heap.size ≤ k_) ∧ k_ ≠ gb569 ∧ k_ ≠ gb612) ho0 (fun k_ hk_ => ⟨Or.elim hk_ (fun hs_ => hs_.1) (fun hn_ => (.inr (Nat.le_trans (below_size HW.zb) hn_))), Or.elim hk_ (fun hs_ => hs_.2.1) (fun hn_ => (Kd.freshB (g := gb569) (o := .cells #[.int .u8 x570000_1, .slice none 0 0] 77 (0, 0)) (HW.zB BK569.out) k_ hn_)), Or.elim hk_ (fun hs_ => hs_.2.2) (fun hn_ => (Kd.freshB (g := gb612) (o := .cells #[.int .u8 0, .slice none 0 0] 77 (0, 0)) (HW.zB BK612.out) k_ hn_))⟩)) (below_size HW.zb)); have n6_ := Aside0.mk (blk_below (g := gb569) (o := .cells #[.int .u8 x570000_1, .slice none 0 0] 77 (0, 0)) (HW.zB BK569.out) hb); have n7_ := Aside0.mk (blk_below (g := gb612) (o := .cells #[.int .u8 0, .slice none 0 0] 77 (0, 0)) (HW.zB BK612.out) hb); have n8_ := Aside0.mk (below_step HW.zb hb); clear HO_7; clear HO583; clear HO586; clear HO596; clear HO602; clear BK569; clear BK612; clear HB; have HO_7 := n0_; have HO583 := n1_; have HO586 := n2_; have HO596 := n3_; have HO602 := n4_; have HO605 := n5_; have BK569 := n6_; have BK612 := n7_; have HB := n8_; clear n0_ n1_ n2_ n3_ n4_ n5_ n6_ n7_ n8_
          (try clear hb)
          (try clear hb2)
          (try clear hk)
          (try clear hi)
          (try clear ho0)
          obtain ⟨Ao33, co33, eo33⟩ := Kd.V_slice HO605.out
          (first | subst eo33 | (injection eo33 with f1_ f2_ f3_; have f4_ := f1_.symm; have f5_ := f3_.symm; clear f1_ f2_ f3_; subst f4_; subst f5_))
          refine hK.out _ _ trivial (fun hHeld => ?_)
          clear hK K
          refine HW.nz (N := (some 80)) ?_
          refine one_ (i := 5) (N := some 83) #[true, true, true, true, true, true, false, false, false, true, false, false] rfl rfl (one_of HT_.out (by kernel_rfl)) (by decide) (fun K hK => ?_)
          refine goes_ Tryd.func32 (by kernel_rfl) rfl #[.slice Ao33 t603.length co33, .slice A28 (l1.drop 1).length (c1 - 1)] (by rfl) rfl rfl (by (try simp only [List.map_toArray, List.map_cons, List.map_nil]); first | done | (rw [show (l1.drop 1).length = (l1.length - 1) from List.length_drop] <;> rfl) | rfl | (simp only [List.length_drop, List.length_take]; rfl)) ?_
          with_reducible refine (ih k1 (by have := HK1.out; omega) (fun k_ => ((P0_ k_ ∨ w.heap.size ≤ k_) ∧ (k_ ≠ gb569 ∧ k_ ≠ gb612))) _ _ t603 _ _ (l1.drop 1) t607 t608 none _ ?side1 ?side2 ?side3 A20.out).mono ?_
          (case side1 => exact HO605.out)
          (case side2 => repeat (first | exact (Kd.C_below HR606.out HB.out) | (with_reducible refine Kd.C_alloc ?_ _) | (with_reducible refine Kd.C_drewN ?_ _) | (with_reducible refine Kd.C_drew ?_)))
          (case side3 => exact HC606.out)
          rintro e w34 ⟨v609, rfl, ho0, hb⟩
          refine ⟨_, rfl, ?_⟩
          have n0_ := Aside0.mk (Kd.V_below (HW.zV HO_7.out) hb); have n1_ := Aside0.mk (Kd.V_below (HW.zV HO583.out) hb); have n2_ := Aside0.mk (Kd.V_below (HW.zV HO586.out) hb); have n3_ := Aside0.mk (Kd.V_below (HW.zV HO596.out) hb); have n4_ := Aside0.mk (Kd.V_below (HW.zV HO602.out) hb); have n5_ := Aside0.mk (Kd.V_below (HW.zV HO605.out) hb); have n6_ := Aside0.mk (Kd.V_lower (Kd.V_mono (ok' := fun k_ => (P0_ k_ ∨ w.heap.size ≤ k_) ∧ k_ ≠ gb569 ∧ k_ ≠ gb612) ho0 (fun k_ hk_ => ⟨Or.elim hk_ (fun hs_ => hs_.1) (fun hn_ => (.inr (Nat.le_trans (below_size HW.zb) hn_))), Or.elim hk_ (fun hs_ => hs_.2.1) (fun hn_ => (Kd.freshB (g := gb569) (o := .cells #[.int .u8 x570000_1, .slice none 0 0] 77 (0, 0)) (HW.zB BK569.out) k_ hn_)), Or.elim hk_ (fun hs_ => hs_.2.2) (fun hn_ => (Kd.freshB (g := gb612) (o := .cells #[.int .u8 0, .slice none 0 0] 77 (0, 0)) (HW.zB BK612.out) k_ hn_))⟩)) (below_size HW.zb)); have n7_ := Aside0.mk (blk_below (g := gb569) (o := .cells #[.int .u8 x570000_1, .slice none 0 0] 77 (0, 0)) (HW.zB BK569.out) hb); have n8_ := Aside0.mk (blk_below (g := gb612) (o := .cells #[.int .u8 0, .slice none 0 0] 77 (0, 0)) (HW.zB BK612.out) hb); have n9_ := Aside0.mk (below_step HW.zb hb); clear HO_7; clear HO583; clear HO586; clear HO596; clear HO602; clear HO605; clear BK569; clear BK612; clear HB; have HO_7 := n0_; have HO583 := n1_; have HO586 := n2_; have HO596 := n3_; have HO602 := n4_; have HO605 := n5_; have HO610 := n6_; have BK569 := n7_; have BK612 := n8_
          have HB := n9_; clear n0_ n1_ n2_ n3_ n4_ n5_ n6_ n7_ n8_ n9_
          (try clear hb)
          (try clear hb2)
          (try clear hk)
          (try clear hi)
          (try clear ho0)
          (try simp only [errW_none, errW_some])
          refine hK.out _ _ trivial (fun hHeld => ?_)
          clear hK K
          refine HW.nz (N := (some 83)) ?_
          refine HW.pz (i := 6) (N := some 77) #[true, true, true, true, true, true, true, false, false, true, false, false] ?_ (hc := any_of HT_.out (by kernel_rfl))
          refine HW.pz (i := 7) (N := some 84) #[true, true, true, true, true, true, true, true, false, true, false, false] ?_ (hc := any_of HT_.out (by kernel_rfl))
          refine HW.pz (i := 8) (N := some 85) #[true, true, true, true, true, true, true, true, true, true, false, false] ?_ (hc := any_of HT_.out (by kernel_rfl))
          exact norm_ (by simp only [putAll, Act.put, List.setIfInBounds_toArray, List.set_cons_zero, List.set_cons_succ, errW_none]) (hCont (.slice Ao31 t600.length co31, .slice Ao33 t603.length co33, v609, gb612) _ ⟨(HW.zV (Kd.V_mono HO583.out (fun _ hk => ⟨hk.1.1, ⟨hk.1.2, hk.2⟩⟩))), (HW.zV (Kd.V_mono HO586.out (fun _ hk => ⟨hk.1.1, ⟨hk.1.2, hk.2⟩⟩))), (HW.zV (Kd.V_mono HO596.out (fun _ hk => ⟨hk.1.1, ⟨hk.1.2, hk.2⟩⟩))), (HW.zV HO602.out), (HW.zV HO605.out), (HW.zV HO610.out), (HW.zV (Kd.V_mono HO_7.out (fun _ hk => ⟨hk.1.1, ⟨hk.1.2, hk.2⟩⟩))), (HW.zB BK569.out), (HW.zB BK612.out), GW612.out, GE612.out, NB569_612.out, NB612_569.out, HW.zb⟩)
        rintro ⟨v601, v604, v609, gb612⟩ w35 ⟨h0_, h1_, h2_, h3_, h4_, h5_, h6_, h7_, h8_, h9_, h10_, h11_, h12_, h13_⟩
        have n0_ : Aside0 (Kd.V (Kd.int .u8) 5 w35 w.heap.size (fun k_ => (P0_ k_ ∨ w.heap.size ≤ k_) ∧ k_ ≠ gb569 ∧ k_ ≠ gb612) (.slice (some ad598) t581.length co23) t581) := ⟨h0_⟩; have n1_ : Aside0 (Kd.V (Kd.int .u8) 5 w35 w.heap.size (fun k_ => (P0_ k_ ∨ w.heap.size ≤ k_) ∧ k_ ≠ gb569 ∧ k_ ≠ gb612) v585 t584) := ⟨h1_⟩; have n2_ : Aside0 (Kd.V (Kd.int .u8) 5 w35 w.heap.size (fun k_ => (P0_ k_ ∨ w.heap.size ≤ k_) ∧ k_ ≠ gb569 ∧ k_ ≠ gb612) v595 t594) := ⟨h2_⟩; have n3_ : Aside0 (Kd.V (Kd.int .u8) 5 w35 w.heap.size (fun k_ => (P0_ k_ ∨ w.heap.size ≤ k_) ∧ k_ ≠ gb569 ∧ k_ ≠ gb612) v601 t600) := ⟨h3_⟩; have n4_ : Aside0 (Kd.V (Kd.int .u8) 5 w35 w.heap.size (fun k_ => (P0_ k_ ∨ w.heap.size ≤ k_) ∧ k_ ≠ gb569 ∧ k_ ≠ gb612) v604 t603) := ⟨h4_⟩; have n5_ : Aside0 (Kd.V (Kd.int .u8) 5 w35 w.heap.size (fun k_ => (P0_ k_ ∨ w.heap.size ≤ k_) ∧ k_ ≠ gb569 ∧ k_ ≠ gb612) v609 t608) := ⟨h5_⟩; have n6_ : Aside0 (Kd.V (Kd.int .u8) 5 w35 w.heap.size (fun k_ => (P0_ k_ ∨ w.heap.size ≤ k_) ∧ k_ ≠ gb569 ∧ k_ ≠ gb612) (.slice Ao21 x7_1.length co21) x7_1) := ⟨h6_⟩; have n7_ : Aside0 (w35.heap[gb569]? = some (.cells #[.int .u8 x570000_1, .slice none 0 0] 77 (0, 0))) := ⟨h7_⟩; have n8_ : Aside0 (w35.heap[gb612]? = some (.cells #[.int .u8 0, .slice none 0 0] 77 (0, 0))) := ⟨h8_⟩; have n9_ : Aside0 (w.heap.size ≤ gb612) := ⟨h9_⟩; have n10_ : Aside0 (w.heap.size ≤ gb612) := ⟨h10_⟩; have n11_ : Aside0 (gb569 ≠ gb612) := ⟨h11_⟩; have n12_ : Aside0 (gb612 ≠ gb569) := ⟨h12_⟩
        have n13_ : Aside0 (Below w.heap.size w w35) := ⟨h13_⟩; clear HO_7; clear HO583; clear HO586; clear HO596; clear BK569; clear HB; clear h0_ h1_ h2_ h3_ h4_ h5_ h6_ h7_ h8_ h9_ h10_ h11_ h12_ h13_; have HO583 := n0_; have HO586 := n1_; have HO596 := n2_; have HO602 := n3_; have HO605 := n4_; have HO610 := n5_; have HO_7 := n6_; have BK569 := n7_; have BK612 := n8_; have GW612 := n9_; have GE612 := n10_; have NB569_612 := n11_; have NB612_569 := n12_; have HB := n13_; clear n0_ n1_ n2_ n3_ n4_ n5_ n6_ n7_ n8_ n9_ n10_ n11_ n12_ n13_; have hHeld := trivial; obtain ⟨Ao37, co37, eo37⟩ := Kd.V_slice HO610.out
        (first | subst eo37 | (injection eo37 with f1_ f2_ f3_; have f4_ := f1_.symm; have f5_ := f3_.symm; clear f1_ f2_ f3_; subst f4_; subst f5_))
        refine norm_ (a' := ?_) ?_ ?_
        rotate_left
        · simp only [putAll, Act.put, List.setIfInBounds_toArray, List.set_cons_zero, List.set_cons_succ, errW_none]
          rfl
        refine one_ (i := 10) (N := none) #[true, true, true, true, true, true, true, true, true, true, true, false] rfl rfl (one_of HT_.out (by kernel_rfl)) (by decide) (fun K hK => ?_)
        have hs36 : w35.cell? ⟨gb612, 0, none⟩ = some (.int .u8 0) := (blk_cell BK612.out 0).trans rfl; have hfs36 := blk_frozen BK612.out 0; have hns36_0 := NB569_612.out; have hms36_0 := NB612_569.out; have hs38 : w35.cell? ⟨gb612, 1, none⟩ = some (.slice none 0 0) := (blk_cell BK612.out 1).trans rfl; have hfs38 := blk_frozen BK612.out 1; have hns38_0 := NB569_612.out; have hms38_0 := NB612_569.out
        refine skip_ (w1 := ?_) (by rfl) rfl ?_ ?_
        rotate_left
        · go_simp
          rfl
        refine hK.out _ _ trivial (fun hHeld => ?_)
        clear hK K
        refine HW.pz (i := 11) (N := some 12) #[true, true, true, true, true, true, true, true, true, true, true, true] ?_ (hc := any_of HT_.out (by kernel_rfl))
        refine done_ (done_of HT_.out (by kernel_rfl)) ?_
        have hnb39 := NB612_569.out; have hnc39 := NB569_612.out; have hcz40_0 := HW.zc BK612.out 0 (.int .u8 0); have hcz40_1 := HW.zc BK612.out 1 (.slice none 0 0); have hfz41_0 := blk_frozen BK612.out 0; have hfz41_1 := blk_frozen BK612.out 1; have hcz42_0 := HW.zc BK569.out 0 (.int .u8 x570000_1); have hcz42_1 := HW.zc BK569.out 1 (.slice none 0 0); have hfz43_0 := blk_frozen BK569.out 0; have hfz43_1 := blk_frozen BK569.out 1
        try go_wp2
        refine bodyPost_ret (results_ct rfl _ _ gb569 77 #[.int .u8 t607, .slice Ao37 t608.length co37] (0, 0) _ rfl (by (with_reducible repeat (first | refine blk_drewN ?_ _ | refine blk_drew ?_ | refine blk_alloc ?_ _)); refine blk_put (cs := #[.int .u8 t607, .slice none 0 0]) ?_ 1 _ rfl; (with_reducible repeat (first | refine blk_drewN ?_ _ | refine blk_drew ?_ | refine blk_alloc ?_ _)); refine blk_put (cs := #[.int .u8 x570000_1, .slice none 0 0]) ?_ 0 _ rfl; (with_reducible repeat (first | refine blk_drewN ?_ _ | refine blk_drew ?_ | refine blk_alloc ?_ _)); refine blk_far ?_ NB569_612.out _; (with_reducible repeat (first | refine blk_drewN ?_ _ | refine blk_drew ?_ | refine blk_alloc ?_ _)); refine blk_far ?_ NB569_612.out _; (with_reducible repeat (first | refine blk_drewN ?_ _ | refine blk_drew ?_ | refine blk_alloc ?_ _)); exact BK569.out) Tryd.underlying77 rfl (by kernel_rfl)) rfl ?_
        exact ⟨_, by first | rfl | (simp [errW_none, errW_some] <;> rfl) | (simp [*, errW_none, errW_some] <;> rfl), by (with_reducible repeat (first | apply Kd.V_alloc | apply Kd.V_drewN | apply Kd.V_drew)); exact Kd.V_mono (Kd.V_far (p := ⟨gb569, 1, none⟩) (Kd.V_far (p := ⟨gb569, 0, none⟩) (Kd.V_far (p := ⟨gb612, 1, none⟩) (Kd.V_far (p := ⟨gb612, 0, none⟩) (Kd.V_mono (Kd.V_mono HO610.out (fun k_ hk => (⟨hk, hk.2.2⟩ : _ ∧ k_ ≠ gb612))) (fun k_ hk => (⟨hk, hk.1.2.1⟩ : _ ∧ k_ ≠ gb569))) (fun _ hk => hk.1.2) (.int .u8 t607)) (fun _ hk => hk.1.2) (.slice Ao37 t608.length co37)) (fun _ hk => hk.2) (.int .u8 t607)) (fun _ hk => hk.2) (.slice Ao37 t608.length co37)) (fun _ hk => hk.1.1.1), HW.zb⟩

end Go.Proofs.YtlcgakpnpdkjjaaDoor.PBz
