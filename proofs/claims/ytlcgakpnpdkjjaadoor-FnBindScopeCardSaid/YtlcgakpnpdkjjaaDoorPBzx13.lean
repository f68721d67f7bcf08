/- Printed by a program of this session (a turned copy of the printer of the kit): contracts of functions of the translation, each with the Lean function that it computes. Conditions: as each theorem states them. -/
import Derived.Test.YtlcgakpnpdkjjaaDoorPBzx0
import Derived.Test.YtlcgakpnpdkjjaaDoorPBzx12
namespace Go.Proofs.YtlcgakpnpdkjjaaDoor.PBz
open Go.RowKit Go.Proofs.YtlcgakpnpdkjjaaDoorW.PrintWords Go.Proofs.YtlcgakpnpdkjjaaDoorW.PrintLast Go.Proofs.YtlcgakpnpdkjjaaDoorW.PrintMore
attribute [local go_sem] max2_int min2_int max_two min_two max_three min_three max_four min_four   -- for this text's walks alone
set_option linter.unusedVariables false
set_option linter.unusedSimpArgs false

/-! ### bson_convertFromCoreValue: function 33 -/
def bson_convertFromCoreValue.f (a0_0 : Int) (l0_1 : List Int) : Option (Int × List Int) := some (a0_0, l0_1)
set_option maxHeartbeats 8000000 in
set_option maxRecDepth 100000 in
theorem bson_convertFromCoreValue.calls (a0_0 : Int) (P0_1_ : Nat → Prop) (A0_1 : Option Addr) (c0_1 : Nat) (l0_1 : List Int) (r1 : Int) (r2 : List Int) (w : World) (hs0_1 : Kd.V (Kd.int .u8) 5 w w.heap.size (fun k_ => P0_1_ k_) (.slice A0_1 l0_1.length c0_1) l0_1) (h : bson_convertFromCoreValue.f a0_0 l0_1 = some (r1, r2)) :
    Calls Tryd.prog 33 #[.agg #[.int .u8 a0_0, .slice A0_1 l0_1.length c0_1]] w fun e w' => ∃ v1_ : Value, e = .returned (.agg #[.int .u8 r1, v1_]) ∧ Kd.V (Kd.int .u8) 5 w' w.heap.size (fun k_ => (P0_1_ k_ ∨ w.heap.size ≤ k_)) v1_ r2 ∧ Below w.heap.size w w' := by
  have hu77 := Tryd.underlying77
  have hu54 := Tryd.underlying54
  have HO0_1 := Aside0.mk (show Kd.V (Kd.int .u8) 5 w w.heap.size (fun k_ => (P0_1_ k_ ∨ w.heap.size ≤ k_)) (.slice A0_1 l0_1.length c0_1) l0_1 from Kd.V_mono hs0_1 (fun k_ hk => .inl hk))
  have HB := Aside0.mk (Below.refl w.heap.size w)
  have H : (some (a0_0, l0_1)) = some (r1, r2) := h
  clear h
  as_aux_lemma =>
    simp only [Option.some.injEq, Prod.mk.injEq] at H
    obtain ⟨rfl, rfl⟩ := H
    go_enter Tryd.func33, Tryd.ntmps33
    go_wp2_with (first | ((with_reducible refine gate_dst (N := 1) rfl ?_); refine box_event ?hg (N := 1) ?hd (cs := #[.int .u8 a0_0, .slice A0_1 l0_1.length c0_1]) (t := 77) ?hr ?_; (case hd => rfl); (case hg => rfl); (case hr => first | (go_simp; done) | (go_simp; rfl)); intro gb620 hg w2 hbox hb; have n0_ := Aside0.mk (Kd.V_below (Kd.V_elderB (HW.zV HO0_1.out) gb620 (Nat.le_of_eq hg.symm)) hb); have n1_ := Aside0.mk (below_step HW.zb hb); have n2_ := Aside0.mk (hbox); have n4_ := Aside0.mk ((by rw [hg]; exact (below_size HW.zb) : w.heap.size ≤ gb620)); clear HO0_1; clear HB; have HO0_1 := n0_; have HB := n1_; have BK620 := n2_; have GE620 := n4_; clear n0_ n1_ n2_ n4_; clear hb hbox hg) | ((with_reducible refine gate_dst (N := 2) rfl ?_); refine box_event ?hg (N := 2) ?hd (cs := #[.int .u8 0, .slice none 0 0]) (t := 54) ?hr ?_; (case hd => rfl); (case hg => rfl); (case hr => first | (go_simp; done) | (go_simp; rfl)); intro gb621 hg w3 hbox hb; have n0_ := Aside0.mk (Kd.V_below (Kd.V_elderB (HW.zV HO0_1.out) gb621 (Nat.le_of_eq hg.symm)) hb); have n1_ := Aside0.mk (blk_below (g := gb620) (o := .cells #[.int .u8 a0_0, .slice A0_1 l0_1.length c0_1] 77 (0, 0)) (HW.zB BK620.out) hb); have n2_ := Aside0.mk (below_step HW.zb hb); have n3_ := Aside0.mk (hbox); have n5_ := Aside0.mk ((by rw [hg]; exact (below_size HW.zb) : w.heap.size ≤ gb621)); have n6_ := Aside0.mk ((by rw [hg]; exact Nat.ne_of_lt (blk_lt (g := gb620) (o := .cells #[.int .u8 a0_0, .slice A0_1 l0_1.length c0_1] 77 (0, 0)) (HW.zB BK620.out)) : gb620 ≠ gb621)); have n7_ := Aside0.mk ((by rw [hg]; exact Nat.ne_of_gt (blk_lt (g := gb620) (o := .cells #[.int .u8 a0_0, .slice A0_1 l0_1.length c0_1] 77 (0, 0)) (HW.zB BK620.out)) : gb621 ≠ gb620)); clear HO0_1; clear BK620; clear HB; have HO0_1 := n0_; have BK620 := n1_; have HB := n2_; have BK621 := n3_; have GE621 := n5_; have NB620_621 := n6_; have NB621_620 := n7_; clear n0_ n1_ n2_ n3_ n5_ n6_ n7_; clear hb hbox hg; have hnb4 := NB620_621.out; have hnc4 := NB621_620.out; have hcz5_0 := HW.zc BK620.out 0 (.int .u8 a0_0); have hcz5_1 := HW.zc BK620.out 1 (.slice A0_1 l0_1.length c0_1); have hcz6_0 := HW.zc BK621.out 0 (.int .u8 0); have hcz6_1 := HW.zc BK621.out 1 (.slice none 0 0); have hfz7_0 := blk_frozen BK621.out 0; have hfz7_1 := blk_frozen BK621.out 1))
    refine bodyPost_ret (results_cell_row rfl _ _ gb621 54 #[.int .u8 a0_0, .slice A0_1 l0_1.length c0_1] (0, 0) _ rfl (by (with_reducible repeat (first | refine blk_drewN ?_ _ | refine blk_drew ?_ | refine blk_alloc ?_ _)); refine blk_put (cs := #[.int .u8 a0_0, .slice none 0 0]) ?_ 1 _ rfl; (with_reducible repeat (first | refine blk_drewN ?_ _ | refine blk_drew ?_ | refine blk_alloc ?_ _)); refine blk_put (cs := #[.int .u8 0, .slice none 0 0]) ?_ 0 _ rfl; (with_reducible repeat (first | refine blk_drewN ?_ _ | refine blk_drew ?_ | refine blk_alloc ?_ _)); exact BK621.out) Tryd.underlying54 rfl (by kernel_rfl)) rfl ?_
    exact ⟨_, by first | rfl | (simp [errW_none, errW_some] <;> rfl) | (simp [*, errW_none, errW_some] <;> rfl), by (with_reducible repeat (first | apply Kd.V_alloc | apply Kd.V_drewN | apply Kd.V_drew)); exact Kd.V_mono (Kd.V_far (p := ⟨gb621, 1, none⟩) (Kd.V_far (p := ⟨gb621, 0, none⟩) (Kd.V_mono HO0_1.out (fun k_ hk => (⟨hk, hk.2⟩ : _ ∧ k_ ≠ gb621))) (fun _ hk => hk.2) (.int .u8 a0_0)) (fun _ hk => hk.2) (.slice A0_1 l0_1.length c0_1)) (fun _ hk => hk.1.1.1), HW.zb⟩

/-! ### bson_Raw_LookupErr: function 22 -/
def bson_Raw_LookupErr.f (k : Nat) (l0 : List Int) (l1 : List ByteArray) : Option (Int × List Int × Option Int) := (bsoncore_Document_LookupErr.f k l0 l1).bind fun bt623 => ((bson_convertFromCoreValue.f bt623.1 bt623.2.1).bind fun bt629 => (some (bt629.1, bt629.2, bt623.2.2)))
theorem bson_Raw_LookupErr.mono : ∀ a0 a1 k, LeO (bson_Raw_LookupErr.f k a0 a1) (bson_Raw_LookupErr.f (k + 1) a0 a1) := by
  intro a0 a1 k
  unfold bson_Raw_LookupErr.f
  repeat' first
      | (with_reducible exact bsoncore_Document_LookupErr.mono _ _ _)
      | (with_reducible exact LeO.refl _)
      | (with_reducible exact LeO.none _)
      | (with_reducible refine LeO.ite ?_ ?_)
      | (with_reducible refine LeO.bind ?_ (fun _ => ?_))
      | exact bsoncore_Document_LookupErr.mono _ _ _
      | exact LeO.none _
      | refine LeO.ite ?_ ?_
      | refine LeO.bind ?_ (fun _ => ?_)
set_option maxHeartbeats 8000000 in
set_option maxRecDepth 100000 in
theorem bson_Raw_LookupErr.calls (k : Nat) (P0_ : Nat → Prop) (A0 : Option Addr) (c0 : Nat) (l0 : List Int) (A1 : Option Addr) (c1 : Nat) (l1 : List ByteArray) (r1 : Int) (r2 : List Int) (r3 : Option Int) (w : World) (hs0 : Kd.V (Kd.int .u8) 5 w w.heap.size (fun k_ => P0_ k_) (.slice A0 l0.length c0) l0) (hr1 : Kd.C Kd.string w A1 l1.length l1) (hc1 : l1.length ≤ c1) (h : bson_Raw_LookupErr.f k l0 l1 = some (r1, r2, r3)) :
    Calls Tryd.prog 22 #[.slice A0 l0.length c0, .slice A1 l1.length c1] w fun e w' => ∃ v1_ : Value, e = .returned (.tuple #[.agg #[.int .u8 r1, v1_], errW r3]) ∧ Kd.V (Kd.int .u8) 5 w' w.heap.size (fun k_ => (P0_ k_ ∨ w.heap.size ≤ k_)) v1_ r2 ∧ Below w.heap.size w w' := by
  have hu54 := Tryd.underlying54
  have hu77 := Tryd.underlying77
  have HO0 := Aside0.mk (show Kd.V (Kd.int .u8) 5 w w.heap.size (fun k_ => (P0_ k_ ∨ w.heap.size ≤ k_)) (.slice A0 l0.length c0) l0 from Kd.V_mono hs0 (fun k_ hk => .inl hk))
  have HR1 := Aside0.mk hr1
  have HC1 := Aside0.mk hc1
  clear hr1 hc1
  have HB := Aside0.mk (Below.refl w.heap.size w)
  have H : ((bsoncore_Document_LookupErr.f k l0 l1).bind fun bt623 => ((bson_convertFromCoreValue.f bt623.1 bt623.2.1).bind fun bt629 => (some (bt629.1, bt629.2, bt623.2.2)))) = some (r1, r2, r3) := h
  clear h
  replace H := Option.bind_eq_some_iff.mp H
  obtain ⟨⟨t623, t624, t627⟩, A30, H⟩ := H
  replace H : ((bson_convertFromCoreValue.f t623 t624).bind fun bt629 => (some (bt629.1, bt629.2, t627))) = some (r1, r2, r3) := H
  have A3 := Aside0.mk A30
  clear A30
  replace H := Option.bind_eq_some_iff.mp H
  obtain ⟨⟨t629, t630⟩, A40, H⟩ := H
  replace H : (some (t629, t630, t627)) = some (r1, r2, r3) := H
  have A4 := Aside0.mk A40
  clear A40
  as_aux_lemma =>
    simp only [Option.some.injEq, Prod.mk.injEq] at H
    obtain ⟨rfl, rfl, rfl⟩ := H
    go_enter Tryd.func22, Tryd.ntmps22
    go_wp2_with (first | ((with_reducible refine gate_dst (N := 4) rfl ?_); refine box_event ?hg (N := 4) ?hd (cs := #[.int .u8 0, .slice none 0 0]) (t := 54) ?hr ?_; (case hd => rfl); (case hg => rfl); (case hr => first | (go_simp; done) | (go_simp; rfl)); intro gb622 hg w5 hbox hb; have n0_ := Aside0.mk (Kd.V_below (Kd.V_elderB (HW.zV HO0.out) gb622 (Nat.le_of_eq hg.symm)) hb); have n1_ := Aside0.mk (below_step HW.zb hb); have n2_ := Aside0.mk (hbox); have n4_ := Aside0.mk ((by rw [hg]; exact (below_size HW.zb) : w.heap.size ≤ gb622)); clear HO0; clear HB; have HO0 := n0_; have HB := n1_; have BK622 := n2_; have GE622 := n4_; clear n0_ n1_ n2_ n4_; clear hb hbox hg) | ((with_reducible refine gate_callee (f := 32) rfl ?_); refine HW.gz (some 11) rfl rfl Tryd.func32 (by kernel_rfl) rfl #[.slice A0 l0.length c0, .slice A1 l1.length c1] rfl ?_; (with_reducible refine (bsoncore_Document_LookupErr.calls k (fun k_ => ((P0_ k_ ∨ w.heap.size ≤ k_) ∧ k_ ≠ gb622)) _ _ l0 _ _ l1 t623 t624 t627 _ ?side1 ?side2 ?side3 A3.out).mono ?_); (case side1 => exact HO0.out); (case side2 => repeat (first | exact (Kd.C_below HR1.out HB.out) | (with_reducible refine Kd.C_alloc ?_ _) | (with_reducible refine Kd.C_drewN ?_ _) | (with_reducible refine Kd.C_drew ?_))); (case side3 => exact HC1.out); rintro e w6 ⟨v625, rfl, ho0, hb⟩; refine ⟨_, rfl, ?_⟩; have n0_ := Aside0.mk (Kd.V_below (HW.zV HO0.out) hb); have n1_ := Aside0.mk (Kd.V_lower (Kd.V_mono (ok' := fun k_ => (P0_ k_ ∨ w.heap.size ≤ k_) ∧ k_ ≠ gb622) ho0 (fun k_ hk_ => ⟨Or.elim hk_ (fun hs_ => hs_.1) (fun hn_ => (.inr (Nat.le_trans (below_size HW.zb) hn_))), Or.elim hk_ (fun hs_ => hs_.2) (fun hn_ => (Kd.freshB (g := gb622) (o := .cells #[.int .u8 0, .slice none 0 0] 54 (0, 0)) (HW.zB BK622.out) k_ hn_))⟩)) (below_size HW.zb)); have n2_ := Aside0.mk (blk_below (g := gb622) (o := .cells #[.int .u8 0, .slice none 0 0] 54 (0, 0)) (HW.zB BK622.out) hb); have n3_ := Aside0.mk (below_step HW.zb hb); clear HO0; clear BK622; clear HB; have HO0 := n0_; have HO626 := n1_; have BK622 := n2_; have HB := n3_; clear n0_ n1_ n2_ n3_; (try clear hb); (try clear hb2); (try clear hk); (try clear hi); (try clear ho0); (try simp only [errW_none, errW_some])) | ((with_reducible refine gate_dst (N := 6) rfl ?_); refine box_event ?hg (N := 6) ?hd (cs := #[.int .u8 0, .slice none 0 0]) (t := 77) ?hr ?_; (case hd => rfl); (case hg => rfl); (case hr => first | (go_simp; done) | (go_simp; rfl)); intro gb628 hg w7 hbox hb; have n0_ := Aside0.mk (Kd.V_below (Kd.V_elderB (HW.zV HO0.out) gb628 (Nat.le_of_eq hg.symm)) hb); have n1_ := Aside0.mk (Kd.V_below (Kd.V_elderB (HW.zV HO626.out) gb628 (Nat.le_of_eq hg.symm)) hb); have n2_ := Aside0.mk (blk_below (g := gb622) (o := .cells #[.int .u8 0, .slice none 0 0] 54 (0, 0)) (HW.zB BK622.out) hb); have n3_ := Aside0.mk (below_step HW.zb hb); have n4_ := Aside0.mk (hbox); have n6_ := Aside0.mk ((by rw [hg]; exact (below_size HW.zb) : w.heap.size ≤ gb628)); have n7_ := Aside0.mk ((by rw [hg]; exact Nat.ne_of_lt (blk_lt (g := gb622) (o := .cells #[.int .u8 0, .slice none 0 0] 54 (0, 0)) (HW.zB BK622.out)) : gb622 ≠ gb628)); have n8_ := Aside0.mk ((by rw [hg]; exact Nat.ne_of_gt (blk_lt (g := gb622) (o := .cells #[.int .u8 0, .slice none 0 0] 54 (0, 0)) (HW.zB BK622.out)) : gb628 ≠ gb622)); clear HO0; clear HO626; clear BK622; clear HB; have HO0 := n0_; have HO626 := n1_; have BK622 := n2_; have HB := n3_; have BK628 := n4_; have GE628 := n6_; have NB622_628 := n7_; have NB628_622 := n8_; clear n0_ n1_ n2_ n3_ n4_ n6_ n7_ n8_; clear hb hbox hg; have hnb8 := NB628_622.out; have hnc8 := NB622_628.out; have hcz9_0 := HW.zc BK628.out 0 (.int .u8 0); have hcz9_1 := HW.zc BK628.out 1 (.slice none 0 0); have hfz10_0 := blk_frozen BK628.out 0; have hfz10_1 := blk_frozen BK628.out 1; obtain ⟨Ao11, co11, eo11⟩ := Kd.V_slice HO626.out; subst eo11) | ((with_reducible refine gate_store (t := 77) (p := 6) rfl ?_); refine store_event (t := 77) (p := 6) (v := ?vo_w12) (w1 := ((w7.setCell ⟨gb628, 0, none⟩ (.int .u8 t623)).setCell ⟨gb628, 1, none⟩ (.slice Ao11 t624.length co11))) ?hg ?ho ?hn ?hr ?_; (case ho => rfl); (case hg => rfl); (case hn => rfl); (case hr => first | (go_simp; done) | (go_simp; rfl)); intro w12 hw; have n0_ : Aside0 (Kd.V (Kd.int .u8) 5 w12 w.heap.size (fun k_ => (P0_ k_ ∨ w.heap.size ≤ k_) ∧ k_ ≠ gb622 ∧ k_ ≠ gb628) (.slice A0 l0.length c0) l0) := ⟨(by rw [hw]; exact (by (with_reducible repeat (first | apply Kd.V_alloc | apply Kd.V_drewN | apply Kd.V_drew)); exact Kd.V_mono (Kd.V_far (p := ⟨gb628, 1, none⟩) (Kd.V_far (p := ⟨gb628, 0, none⟩) (Kd.V_mono HO0.out (fun k_ hk => (⟨hk, hk.2⟩ : _ ∧ k_ ≠ gb628))) (fun _ hk => hk.2) (.int .u8 t623)) (fun _ hk => hk.2) (.slice Ao11 t624.length co11)) (fun _ hk => ⟨hk.1.1.1, ⟨hk.1.1.2, hk.1.2⟩⟩)))⟩; have n1_ : Aside0 (Kd.V (Kd.int .u8) 5 w12 w.heap.size (fun k_ => (P0_ k_ ∨ w.heap.size ≤ k_) ∧ k_ ≠ gb622 ∧ k_ ≠ gb628) (.slice Ao11 t624.length co11) t624) := ⟨(by rw [hw]; exact (by (with_reducible repeat (first | apply Kd.V_alloc | apply Kd.V_drewN | apply Kd.V_drew)); exact Kd.V_mono (Kd.V_far (p := ⟨gb628, 1, none⟩) (Kd.V_far (p := ⟨gb628, 0, none⟩) (Kd.V_mono HO626.out (fun k_ hk => (⟨hk, hk.2⟩ : _ ∧ k_ ≠ gb628))) (fun _ hk => hk.2) (.int .u8 t623)) (fun _ hk => hk.2) (.slice Ao11 t624.length co11)) (fun _ hk => ⟨hk.1.1.1, ⟨hk.1.1.2, hk.1.2⟩⟩)))⟩; have n2_ : Aside0 (w12.heap[gb622]? = some (.cells #[.int .u8 0, .slice none 0 0] 54 (0, 0))) := ⟨(by rw [hw]; exact (by (with_reducible repeat (first | refine blk_drewN ?_ _ | refine blk_drew ?_ | refine blk_alloc ?_ _)); refine blk_far ?_ NB622_628.out _; (with_reducible repeat (first | refine blk_drewN ?_ _ | refine blk_drew ?_ | refine blk_alloc ?_ _)); refine blk_far ?_ NB622_628.out _; (with_reducible repeat (first | refine blk_drewN ?_ _ | refine blk_drew ?_ | refine blk_alloc ?_ _)); exact BK622.out))⟩; have n3_ : Aside0 (w12.heap[gb628]? = some (.cells #[.int .u8 t623, .slice Ao11 t624.length co11] 77 (0, 0))) := ⟨(by rw [hw]; exact (by (with_reducible repeat (first | refine blk_drewN ?_ _ | refine blk_drew ?_ | refine blk_alloc ?_ _)); refine blk_put (cs := #[.int .u8 t623, .slice none 0 0]) ?_ 1 _ rfl; (with_reducible repeat (first | refine blk_drewN ?_ _ | refine blk_drew ?_ | refine blk_alloc ?_ _)); refine blk_put (cs := #[.int .u8 0, .slice none 0 0]) ?_ 0 _ rfl; (with_reducible repeat (first | refine blk_drewN ?_ _ | refine blk_drew ?_ | refine blk_alloc ?_ _)); exact BK628.out))⟩; have n4_ : Aside0 (Below w.heap.size w w12) := ⟨(by rw [hw]; exact HW.zb)⟩; clear hw; clear HO0; clear HO626; clear BK622; clear BK628; clear HB; have HO0 := n0_; have HO626 := n1_; have BK622 := n2_; have BK628 := n3_; have HB := n4_; clear n0_ n1_ n2_ n3_ n4_; have hcz13_0 := HW.zc BK628.out 0 (.int .u8 t623); have hcz13_1 := HW.zc BK628.out 1 (.slice Ao11 t624.length co11)) | ((with_reducible refine gate_callee (f := 33) rfl ?_); refine HW.gz (some 15) rfl rfl Tryd.func33 (by kernel_rfl) rfl #[.agg #[.int .u8 t623, .slice Ao11 t624.length co11]] rfl ?_; (with_reducible refine (bson_convertFromCoreValue.calls t623 (fun k_ => ((P0_ k_ ∨ w.heap.size ≤ k_) ∧ (k_ ≠ gb622 ∧ k_ ≠ gb628))) _ _ t624 t629 t630 _ ?side1 A4.out).mono ?_); (case side1 => exact HO626.out); rintro e w14 ⟨v631, rfl, ho0, hb⟩; refine ⟨_, rfl, ?_⟩; have n2_ := Aside0.mk (Kd.V_lower (Kd.V_mono (ok' := fun k_ => (P0_ k_ ∨ w.heap.size ≤ k_) ∧ k_ ≠ gb622 ∧ k_ ≠ gb628) ho0 (fun k_ hk_ => ⟨Or.elim hk_ (fun hs_ => hs_.1) (fun hn_ => (.inr (Nat.le_trans (below_size HW.zb) hn_))), Or.elim hk_ (fun hs_ => hs_.2.1) (fun hn_ => (Kd.freshB (g := gb622) (o := .cells #[.int .u8 0, .slice none 0 0] 54 (0, 0)) (HW.zB BK622.out) k_ hn_)), Or.elim hk_ (fun hs_ => hs_.2.2) (fun hn_ => (Kd.freshB (g := gb628) (o := .cells #[.int .u8 t623, .slice Ao11 t624.length co11] 77 (0, 0)) (HW.zB BK628.out) k_ hn_))⟩)) (below_size HW.zb)); have n3_ := Aside0.mk (blk_below (g := gb622) (o := .cells #[.int .u8 0, .slice none 0 0] 54 (0, 0)) (HW.zB BK622.out) hb); have n5_ := Aside0.mk (below_step HW.zb hb); clear BK622; clear HB; have HO632 := n2_; have BK622 := n3_; have HB := n5_; clear n2_ n3_ n5_; (try clear hb); (try clear hb2); (try clear hk); (try clear hi); (try clear ho0); have hcz15_0 := HW.zc BK622.out 0 (.int .u8 0); have hcz15_1 := HW.zc BK622.out 1 (.slice none 0 0); have hfz16_0 := blk_frozen BK622.out 0; have hfz16_1 := blk_frozen BK622.out 1; obtain ⟨Ao17, co17, eo17⟩ := Kd.V_slice HO632.out; subst eo17))
    refine bodyPost_ret (results_ct rfl _ _ gb622 54 #[.int .u8 t629, .slice Ao17 t630.length co17] (0, 0) _ rfl (by (with_reducible repeat (first | refine blk_drewN ?_ _ | refine blk_drew ?_ | refine blk_alloc ?_ _)); refine blk_put (cs := #[.int .u8 t629, .slice none 0 0]) ?_ 1 _ rfl; (with_reducible repeat (first | refine blk_drewN ?_ _ | refine blk_drew ?_ | refine blk_alloc ?_ _)); refine blk_put (cs := #[.int .u8 0, .slice none 0 0]) ?_ 0 _ rfl; (with_reducible repeat (first | refine blk_drewN ?_ _ | refine blk_drew ?_ | refine blk_alloc ?_ _)); exact BK622.out) Tryd.underlying54 rfl (by kernel_rfl)) rfl ?_
    exact ⟨_, by first | rfl | (simp [errW_none, errW_some] <;> rfl) | (simp [*, errW_none, errW_some] <;> rfl), by (with_reducible repeat (first | apply Kd.V_alloc | apply Kd.V_drewN | apply Kd.V_drew)); exact Kd.V_mono (Kd.V_far (p := ⟨gb622, 1, none⟩) (Kd.V_far (p := ⟨gb622, 0, none⟩) (Kd.V_mono HO632.out (fun k_ hk => (⟨hk, hk.2.1⟩ : _ ∧ k_ ≠ gb622))) (fun _ hk => hk.2) (.int .u8 t629)) (fun _ hk => hk.2) (.slice Ao17 t630.length co17)) (fun _ hk => hk.1.1), HW.zb⟩

/-! ### impl_own: function 26 -/
def impl_own.f (l0 : List Int) : Option (List Int) := if ([] : List Int).length + l0.length < 140737488355328 then (some (([] : List Int) ++ l0)) else (none)
set_option maxHeartbeats 8000000 in
set_option maxRecDepth 100000 in
theorem impl_own.calls (A0 : Option Addr) (c0 : Nat) (l0 : List Int) (r : List Int) (w : World) (hr0 : Kd.C (Kd.int .u8) w A0 l0.length l0) (hc0 : l0.length ≤ c0) (h : impl_own.f l0 = some r) :
    Calls Tryd.prog 26 #[.slice A0 l0.length c0] w fun e w' => ∃ v0_ : Value, e = .returned (v0_) ∧ Kd.R (Kd.int .u8) 5 w' w.heap.size (fun _ => True) v0_ r ∧ Below w.heap.size w w' := by
  have HR0 := Aside0.mk hr0
  have HC0 := Aside0.mk hc0
  clear hr0 hc0
  have HB := Aside0.mk (Below.refl w.heap.size w)
  have H : (if ([] : List Int).length + l0.length < 140737488355328 then (some (([] : List Int) ++ l0)) else (none)) = some r := h
  clear h
  by_cases c2 : ([] : List Int).length + l0.length < 140737488355328
  rotate_left
  · rw [if_neg c2] at H
    exact absurd H (by simp)
  rw [if_pos c2] at H
  have LMc2 := Aside0.mk c2
  clear c2
  obtain ⟨y633, hy633⟩ : ∃ y_ : List Int, y_ = (([] : List Int) ++ l0) := ⟨_, rfl⟩
  replace H : (some y633) = some r := by first | (rw [hy633]; with_reducible exact H) | (have H2_ := (Option.bind_some _ _).symm.trans H; rw [hy633]; with_reducible exact H2_) | (have H2_ := (Option.bind_some _ _).symm.trans H; with_reducible exact H2_) | with_reducible exact H | (rw [hy633]; exact H) | exact H
  have Ny633 := Aside0.mk hy633
  clear hy633
  as_aux_lemma =>
    obtain rfl := Option.some.inj H
    go_enter Tryd.func26, Tryd.ntmps26
    go_wp2_with (first | ((with_reducible refine gate_builtin (b := .append) (xs := #[.const (.slice none 0 0), .tmp 3]) rfl ?_); at_builtin; refine Kd.R_append_rows (Kd.int .u8) (w0 := w) w.heap.size rfl (.const (.slice none 0 0)) (.tmp 3) 23 5 (.int .u8 0) 1 rfl Tryd.underlying23 info5 rfl (by decide) (by omega) (.slice none 0 0) ([] : List Int) l0 _ _ _ (fun _ => True) (fun _ => False) rfl rfl ?aO ?aR (fun _ _ h => h) (fun _ h => h.elim) ?aF ?aB ?aS ?aL ?_; (case aR => repeat (first | exact HR0.out | (with_reducible refine Kd.C_alloc ?_ _) | (with_reducible refine Kd.C_drewN ?_ _) | (with_reducible refine Kd.C_drew ?_))); (case aB => exact HW.zb); (case aF => exact (fun _ _ => trivial)); (case aO => exact ((Kd.R_nil _ _ _ _ (fun _ => True)))); (case aS => exact (below_size HW.zb)); (case aL => have := LMc2.out; omega); intro v634 w3 ho hb hg hat; rw [← Ny633.out] at ho; have n0_ := Aside0.mk (hb); have n1_ := Aside0.mk (ho); clear HB; have HB := n0_; have HO635 := n1_; clear n0_ n1_; clear ho hb hg hat))
    go_ret
    exact ⟨_, by first | rfl | (simp [errW_none, errW_some] <;> rfl) | (simp [*, errW_none, errW_some] <;> rfl), HW.zR HO635.out, HW.zb⟩

/-! ### impl_some1: function 23 -/
def impl_some1.f (a0_0 : Int) (l0_1 : List Int) : Option (Int × List Int) := (impl_own.f l0_1).bind fun t638 => (some (wrap64 (a0_0), t638))
def impl_some1.T1 : Bool × List (List Nat × List Nat) := (true, [([], []), ([0], [0]), ([1], [1]), ([], []), ([3], [3]), ([4], [4]), ([2, 5], [2, 5]), ([6, 5, 0, 1, 2, 3, 4, 5, 6], [6])])
def impl_some1.B1 : List Nat := [0, 1, 3, 0, 8, 24, 63, 127]
theorem impl_some1.tab1 : rtab .any (opsOf Tryd.f23 1) = impl_some1.T1 := by kernel_rfl
theorem impl_some1.bits1 : waitsOk impl_some1.T1.2 impl_some1.B1 = true := by kernel_rfl
set_option maxHeartbeats 8000000 in
set_option maxRecDepth 100000 in
theorem impl_some1.calls (a0_0 : Int) (A0_1 : Option Addr) (c0_1 : Nat) (l0_1 : List Int) (r1 : Int) (r2 : List Int) (w : World) (hr0_1 : Kd.C (Kd.int .u8) w A0_1 l0_1.length l0_1) (hc0_1 : l0_1.length ≤ c0_1) (h : impl_some1.f a0_0 l0_1 = some (r1, r2)) :
    Calls Tryd.prog 23 #[.agg #[.int .u8 a0_0, .slice A0_1 l0_1.length c0_1]] w fun e w' => ∃ v1_ : Value, e = .returned (.agg #[.int .i64 r1, v1_]) ∧ Kd.R (Kd.int .u8) 5 w' w.heap.size (fun _ => True) v1_ r2 ∧ Below w.heap.size w w' := by
  have hu54 := Tryd.underlying54
  have hu36 := Tryd.underlying36
  have HR0_1 := Aside0.mk hr0_1
  have HC0_1 := Aside0.mk hc0_1
  clear hr0_1 hc0_1
  have HB := Aside0.mk (Below.refl w.heap.size w)
  have H : ((impl_own.f l0_1).bind fun t638 => (some (wrap64 (a0_0), t638))) = some (r1, r2) := h
  clear h
  replace H := Option.bind_eq_some_iff.mp H
  obtain ⟨t638, A20, H⟩ := H
  replace H : (some (wrap64 (a0_0), t638)) = some (r1, r2) := H
  have A2 := Aside0.mk A20
  clear A20
  as_aux_lemma =>
    simp only [Option.some.injEq, Prod.mk.injEq] at H
    obtain ⟨rfl, rfl⟩ := H
    go_enter Tryd.func23, Tryd.ntmps23
    try go_wp2_with (first | ((with_reducible refine gate_dst (N := 1) rfl ?_); refine box_event ?hg (N := 1) ?hd (cs := #[.int .u8 a0_0, .slice A0_1 l0_1.length c0_1]) (t := 54) ?hr ?_; (case hd => rfl); (case hg => rfl); (case hr => first | (go_simp; done) | (go_simp; rfl)); intro gb636 hg w3 hbox hb; have n0_ := Aside0.mk (below_step HW.zb hb); have n1_ := Aside0.mk (hbox); have n3_ := Aside0.mk ((by rw [hg]; exact (below_size HW.zb) : w.heap.size ≤ gb636)); clear HB; have HB := n0_; have BK636 := n1_; have GE636 := n3_; clear n0_ n1_ n3_; clear hb hbox hg) | ((with_reducible refine gate_dst (N := 2) rfl ?_); refine box_event ?hg (N := 2) ?hd (cs := #[.int .i64 0, .slice none 0 0]) (t := 36) ?hr ?_; (case hd => rfl); (case hg => rfl); (case hr => first | (go_simp; done) | (go_simp; rfl)); intro gb637 hg w4 hbox hb; have n0_ := Aside0.mk (blk_below (g := gb636) (o := .cells #[.int .u8 a0_0, .slice A0_1 l0_1.length c0_1] 54 (0, 0)) (HW.zB BK636.out) hb); have n1_ := Aside0.mk (below_step HW.zb hb); have n2_ := Aside0.mk (hbox); have n4_ := Aside0.mk ((by rw [hg]; exact (below_size HW.zb) : w.heap.size ≤ gb637)); have n5_ := Aside0.mk ((by rw [hg]; exact Nat.ne_of_lt (blk_lt (g := gb636) (o := .cells #[.int .u8 a0_0, .slice A0_1 l0_1.length c0_1] 54 (0, 0)) (HW.zB BK636.out)) : gb636 ≠ gb637)); have n6_ := Aside0.mk ((by rw [hg]; exact Nat.ne_of_gt (blk_lt (g := gb636) (o := .cells #[.int .u8 a0_0, .slice A0_1 l0_1.length c0_1] 54 (0, 0)) (HW.zB BK636.out)) : gb637 ≠ gb636)); clear BK636; clear HB; have BK636 := n0_; have HB := n1_; have BK637 := n2_; have GE637 := n4_; have NB636_637 := n5_; have NB637_636 := n6_; clear n0_ n1_ n2_ n4_ n5_ n6_; clear hb hbox hg))
    have n0_ := Aside0.mk (blk_drew BK636.out)
    have n1_ := Aside0.mk (blk_drew BK637.out)
    have n2_ := Aside0.mk (below_drew1 HB.out)
    clear BK636
    clear BK637
    clear HB
    have BK636 := n0_
    have BK637 := n1_
    have HB := n2_
    clear n0_ n1_ n2_
    refine start_ (n := 8) (S := fun w' => w'.cell? ⟨gb636, 0, none⟩ = some (.int .u8 a0_0) ∧ w'.cell? ⟨gb636, 1, none⟩ = some (.slice A0_1 l0_1.length c0_1)) (ds := []) #[false, false, false, false, false, false, false, false] (by kernel_rfl) rfl rfl ⟨(blk_cell BK636.out 0).trans rfl, (blk_cell BK636.out 1).trans rfl⟩ (fun hHeld => ?_); refine with_tabW impl_some1.tab1 impl_some1.bits1 (fun HT_ HW_ => ?_)
    generalize w4.drew = w5 at BK636 BK637 HB hHeld ⊢
    refine HW.pz (i := 0) (N := some 3) #[true, false, false, false, false, false, false, false] ?_ (hc := any_of HT_.out (by kernel_rfl))
    refine HW.pz (i := 3) (N := some 6) #[true, false, false, true, false, false, false, false] ?_ (hc := any_of HT_.out (by kernel_rfl))
    refine take_ (i := 1) (N := some 4) (v := ?_) (a' := ?_) #[true, true, false, true, false, false, false, false] rfl rfl (take_ofW HT_.out HW_.out (by kernel_rfl)) (fun _ _ _ h => h) (Or.inl ⟨by rfl, ?_⟩) hHeld ?_ ?_
    rotate_left
    · rintro w' ⟨s0, s1⟩
      go_simp
      with_reducible rfl
    rotate_left
    · simp only [Act.put, List.setIfInBounds_toArray, List.set_cons_zero, List.set_cons_succ, i64_w, i32_w]
      rfl
    refine HW.pz (i := 2) (N := some 5) #[true, true, true, true, false, false, false, false] ?_ (hc := any_of HT_.out (by kernel_rfl))
    refine take_ (i := 4) (N := some 7) (v := ?_) (a' := ?_) #[true, true, true, true, true, false, false, false] rfl rfl (take_ofW HT_.out HW_.out (by kernel_rfl)) (fun _ _ _ h => h) (Or.inl ⟨by rfl, ?_⟩) hHeld ?_ ?_
    rotate_left
    · rintro w' ⟨s0, s1⟩
      go_simp
      with_reducible rfl
    rotate_left
    · simp only [Act.put, List.setIfInBounds_toArray, List.set_cons_zero, List.set_cons_succ, i64_w, i32_w]
      rfl
    refine one_ (i := 5) (N := some 8) #[true, true, true, true, true, true, false, false] rfl rfl (one_of HT_.out (by kernel_rfl)) (by decide) (fun K hK => ?_)
    refine goes_ Tryd.func26 (by kernel_rfl) rfl #[.slice A0_1 l0_1.length c0_1] (by rfl) rfl rfl (by (try simp only [List.map_toArray, List.map_cons, List.map_nil]); first | done | rfl | (simp only [List.length_drop, List.length_take]; rfl)) ?_
    with_reducible refine (impl_own.calls _ _ l0_1 t638 _ ?side1 ?side2 A2.out).mono ?_
    (case side1 => repeat (first | exact (Kd.C_below HR0_1.out HB.out) | (with_reducible refine Kd.C_alloc ?_ _) | (with_reducible refine Kd.C_drewN ?_ _) | (with_reducible refine Kd.C_drew ?_)))
    (case side2 => exact HC0_1.out)
    rintro e w6 ⟨v639, rfl, ho0, hb⟩
    refine ⟨_, rfl, ?_⟩
    have n0_ := Aside0.mk (Kd.R_lower ho0 (below_size HW.zb))
    have n1_ := Aside0.mk (blk_below (g := gb636) (o := .cells #[.int .u8 a0_0, .slice A0_1 l0_1.length c0_1] 54 (0, 0)) (HW.zB BK636.out) hb)
    have n2_ := Aside0.mk (blk_below (g := gb637) (o := .cells #[.int .i64 0, .slice none 0 0] 36 (0, 0)) (HW.zB BK637.out) hb)
    have n3_ := Aside0.mk (below_step HW.zb hb)
    clear BK636
    clear BK637
    clear HB
    have HO640 := n0_
    have BK636 := n1_
    have BK637 := n2_
    have HB := n3_
    clear n0_ n1_ n2_ n3_
    (try clear hb)
    (try clear hb2)
    (try clear hk)
    (try clear hi)
    (try clear ho0)
    obtain ⟨Ao7, co7, eo7⟩ := Kd.R_slice HO640.out
    (first | subst eo7 | (injection eo7 with f1_ f2_ f3_; have f4_ := f1_.symm; have f5_ := f3_.symm; clear f1_ f2_ f3_; subst f4_; subst f5_))
    refine hK.out _ _ ⟨(blk_cell BK636.out 0).trans rfl, (blk_cell BK636.out 1).trans rfl⟩ (fun hHeld => ?_)
    clear hK K
    refine HW.nz (N := (some 8)) ?_
    refine HW.pz (i := 6) (N := some 9) #[true, true, true, true, true, true, true, false] ?_ (hc := any_of HT_.out (by kernel_rfl))
    refine one_ (i := 7) (N := none) #[true, true, true, true, true, true, true, true] rfl rfl (one_of HT_.out (by kernel_rfl)) (by decide) (fun K hK => ?_)
    have hs8 : w6.cell? ⟨gb637, 0, none⟩ = some (.int .i64 0) := (blk_cell BK637.out 0).trans rfl
    have hfs8 := blk_frozen BK637.out 0
    have hns8_0 := NB636_637.out
    have hms8_0 := NB637_636.out
    have hs9 : w6.cell? ⟨gb637, 1, none⟩ = some (.slice none 0 0) := (blk_cell BK637.out 1).trans rfl
    have hfs9 := blk_frozen BK637.out 1
    have hns9_0 := NB636_637.out
    have hms9_0 := NB637_636.out
    refine skip_ (w1 := ?_) (by rfl) rfl ?_ ?_
    rotate_left
    · go_simp
      rfl
    refine hK.out _ _ ⟨((cell_far (p := ⟨gb637, _, none⟩) NB636_637.out _).trans (((cell_far (p := ⟨gb637, _, none⟩) NB636_637.out _).trans (hHeld.1)))), ((cell_far (p := ⟨gb637, _, none⟩) NB636_637.out _).trans (((cell_far (p := ⟨gb637, _, none⟩) NB636_637.out _).trans (hHeld.2))))⟩ (fun hHeld => ?_)
    clear hK K
    refine done_ (done_of HT_.out (by kernel_rfl)) ?_
    try go_wp2
    refine bodyPost_ret (results_cell_row rfl _ _ gb637 36 #[.int .i64 (wrap64 (a0_0)), .slice Ao7 t638.length co7] (0, 0) _ rfl (by (with_reducible repeat (first | refine blk_drewN ?_ _ | refine blk_drew ?_ | refine blk_alloc ?_ _)); refine blk_put (cs := #[.int .i64 (wrap64 (a0_0)), .slice none 0 0]) ?_ 1 _ rfl; (with_reducible repeat (first | refine blk_drewN ?_ _ | refine blk_drew ?_ | refine blk_alloc ?_ _)); refine blk_put (cs := #[.int .i64 0, .slice none 0 0]) ?_ 0 _ rfl; (with_reducible repeat (first | refine blk_drewN ?_ _ | refine blk_drew ?_ | refine blk_alloc ?_ _)); exact BK637.out) Tryd.underlying36 rfl (by kernel_rfl)) rfl ?_
    exact ⟨_, by first | rfl | (simp [errW_none, errW_some] <;> rfl) | (simp [*, errW_none, errW_some] <;> rfl), by (with_reducible repeat (first | apply Kd.R_alloc | apply Kd.R_drewN | apply Kd.R_drew)); exact Kd.R_mono (Kd.R_far (p := ⟨gb637, 1, none⟩) (Kd.R_far (p := ⟨gb637, 0, none⟩) (Kd.R_types HO640.out BK637.out (by decide)) (fun _ hk => hk.2) (.int .i64 (wrap64 (a0_0)))) (fun _ hk => hk.2) (.slice Ao7 t638.length co7)) (fun _ hk => trivial), HW.zb⟩

-- NOT PRINTED: function 51 (reflectlite_TypeOf)

-- NOT PRINTED: function 52 (errors_is)

-- NOT PRINTED: function 34 (errors_Is)

/-! ### impl_code: function 24 -/
def impl_code.f (a0 : Option Int) : Option (Int) := if a0.isNone = true then (some 0) else (none)
set_option maxHeartbeats 8000000 in
set_option maxRecDepth 100000 in
theorem impl_code.calls (a0 : Option Int) (r : Int) (w : World) (h : impl_code.f a0 = some r) :
    Calls Tryd.prog 24 #[errW a0] w fun e w' => e = .returned (.int .i64 r) ∧ Below w.heap.size w w' := by
  have hu83 := Tryd.underlying83
  have hu87 := Tryd.underlying87
  have hu56 := Tryd.underlying56
  have HB := Aside0.mk (Below.refl w.heap.size w)
  have H : (if a0.isNone = true then (some 0) else (none)) = some r := h
  clear h
  rcases a0 with _ | q641
  rotate_left
  · have H1 : (none) = some r := by rw [if_neg (show ¬ (some q641).isNone = true by simp)] at H; exact H
    clear H
    have H := H1
    clear H1
    simp only [errW_none, errW_some]
    exact absurd H (by simp)
  have H1 : (some 0) = some r := by rw [if_pos (show (none : Option Int).isNone = true by rfl)] at H; exact H
  clear H
  have H := H1
  clear H1
  simp only [errW_none, errW_some]
  as_aux_lemma =>
    obtain rfl := Option.some.inj H
    go_enter Tryd.func24, Tryd.ntmps24
    go_wp2
    go_ret
    exact ⟨by first | rfl | (simp [errW_none, errW_some] <;> rfl) | (simp [*, errW_none, errW_some] <;> rfl), HW.zb⟩

/-! ### impl_RawLookup: function 11 -/
def impl_RawLookup.f (k : Nat) (l0 : List Int) (l1 : List ByteArray) : Option (Int × List Int × Int) := (bson_Raw_LookupErr.f k l0 l1).bind fun bt643 => ((impl_some1.f bt643.1 bt643.2.1).bind fun bt649 => ((impl_code.f bt643.2.2).bind fun t653 => (some (bt649.1, bt649.2, t653))))
theorem impl_RawLookup.mono : ∀ a0 a1 k, LeO (impl_RawLookup.f k a0 a1) (impl_RawLookup.f (k + 1) a0 a1) := by
  intro a0 a1 k
  unfold impl_RawLookup.f
  repeat' first
      | (with_reducible exact bson_Raw_LookupErr.mono _ _ _)
      | (with_reducible exact LeO.refl _)
      | (with_reducible exact LeO.none _)
      | (with_reducible refine LeO.ite ?_ ?_)
      | (with_reducible refine LeO.bind ?_ (fun _ => ?_))
      | exact bson_Raw_LookupErr.mono _ _ _
      | exact LeO.none _
      | refine LeO.ite ?_ ?_
      | refine LeO.bind ?_ (fun _ => ?_)
set_option maxHeartbeats 8000000 in
set_option maxRecDepth 100000 in
theorem impl_RawLookup.calls (k : Nat) (A0 : Option Addr) (c0 : Nat) (l0 : List Int) (A1 : Option Addr) (c1 : Nat) (l1 : List ByteArray) (r1 : Int) (r2 : List Int) (r3 : Int) (w : World) (hr0 : Kd.C (Kd.int .u8) w A0 l0.length l0) (hc0 : l0.length ≤ c0) (hr1 : Kd.C Kd.string w A1 l1.length l1) (hc1 : l1.length ≤ c1) (h : impl_RawLookup.f k l0 l1 = some (r1, r2, r3)) :
    Calls Tryd.prog 11 #[.slice A0 l0.length c0, .slice A1 l1.length c1] w fun e w' => ∃ v1_ : Value, e = .returned (.tuple #[.agg #[.int .i64 r1, v1_], .int .i64 r3]) ∧ Kd.R (Kd.int .u8) 5 w' w.heap.size (fun _ => True) v1_ r2 ∧ Below w.heap.size w w' := by
  have hu36 := Tryd.underlying36
  have hu54 := Tryd.underlying54
  have HR0 := Aside0.mk hr0
  have HC0 := Aside0.mk hc0
  clear hr0 hc0
  have HR1 := Aside0.mk hr1
  have HC1 := Aside0.mk hc1
  clear hr1 hc1
  have HB := Aside0.mk (Below.refl w.heap.size w)
  have H : ((bson_Raw_LookupErr.f k l0 l1).bind fun bt643 => ((impl_some1.f bt643.1 bt643.2.1).bind fun bt649 => ((impl_code.f bt643.2.2).bind fun t653 => (some (bt649.1, bt649.2, t653))))) = some (r1, r2, r3) := h
  clear h
  replace H := Option.bind_eq_some_iff.mp H
  obtain ⟨⟨t643, t644, t647⟩, A30, H⟩ := H
  replace H : ((impl_some1.f t643 t644).bind fun bt649 => ((impl_code.f t647).bind fun t653 => (some (bt649.1, bt649.2, t653)))) = some (r1, r2, r3) := H
  have A3 := Aside0.mk A30
  clear A30
  replace H := Option.bind_eq_some_iff.mp H
  obtain ⟨⟨t649, t650⟩, A40, H⟩ := H
  replace H : ((impl_code.f t647).bind fun t653 => (some (t649, t650, t653))) = some (r1, r2, r3) := H
  have A4 := Aside0.mk A40
  clear A40
  replace H := Option.bind_eq_some_iff.mp H
  obtain ⟨t653, A50, H⟩ := H
  replace H : (some (t649, t650, t653)) = some (r1, r2, r3) := H
  have A5 := Aside0.mk A50
  clear A50
  as_aux_lemma =>
    simp only [Option.some.injEq, Prod.mk.injEq] at H
    obtain ⟨rfl, rfl, rfl⟩ := H
    go_enter Tryd.func11, Tryd.ntmps11
    go_wp2_with (first | ((with_reducible refine gate_dst (N := 4) rfl ?_); refine box_event ?hg (N := 4) ?hd (cs := #[.int .i64 0, .slice none 0 0]) (t := 36) ?hr ?_; (case hd => rfl); (case hg => rfl); (case hr => first | (go_simp; done) | (go_simp; rfl)); intro gb642 hg w6 hbox hb; have n0_ := Aside0.mk (below_step HW.zb hb); have n1_ := Aside0.mk (hbox); have n2_ := Aside0.mk ((by rw [hg]; exact (below_size HW.zb) : w.heap.size ≤ gb642)); have n3_ := Aside0.mk ((by rw [hg]; exact (below_size HW.zb) : w.heap.size ≤ gb642)); clear HB; have HB := n0_; have BK642 := n1_; have GW642 := n2_; have GE642 := n3_; clear n0_ n1_ n2_ n3_; clear hb hbox hg) | ((with_reducible refine gate_callee (f := 22) rfl ?_); refine HW.gz (some 11) rfl rfl Tryd.func22 (by kernel_rfl) rfl #[.slice A0 l0.length c0, .slice A1 l1.length c1] rfl ?_; (with_reducible refine (bson_Raw_LookupErr.calls k (fun k_ => k_ < w.heap.size) _ _ l0 _ _ l1 t643 t644 t647 _ ?side1 ?side2 ?side3 A3.out).mono ?_); (case side1 => exact Kd.V_mk HC0.out (Kd.F_below (Kd.C_F (Kd.heap_int .u8) HR0.out) HW.zb)); (case side2 => repeat (first | exact (Kd.C_below HR1.out HB.out) | (with_reducible refine Kd.C_alloc ?_ _) | (with_reducible refine Kd.C_drewN ?_ _) | (with_reducible refine Kd.C_drew ?_))); (case side3 => exact HC1.out); rintro e w7 ⟨v645, rfl, ho0, hb⟩; refine ⟨_, rfl, ?_⟩; have n0_ := Aside0.mk (Kd.V_lower (Kd.V_mono (ok' := fun k_ => k_ ≠ gb642) ho0 (fun k_ hk_ => Or.elim hk_ (fun hs_ => fun e_ => Nat.not_le.2 hs_ (by rw [e_]; exact GW642.out)) (fun hn_ => (Kd.freshB (g := gb642) (o := .cells #[.int .i64 0, .slice none 0 0] 36 (0, 0)) (HW.zB BK642.out) k_ hn_)))) (below_size HW.zb)); have n1_ := Aside0.mk (blk_below (g := gb642) (o := .cells #[.int .i64 0, .slice none 0 0] 36 (0, 0)) (HW.zB BK642.out) hb); have n2_ := Aside0.mk (below_step HW.zb hb); clear BK642; clear HB; have HO646 := n0_; have BK642 := n1_; have HB := n2_; clear n0_ n1_ n2_; (try clear hb); (try clear hb2); (try clear hk); (try clear hi); (try clear ho0); (try simp only [errW_none, errW_some])) | ((with_reducible refine gate_dst (N := 6) rfl ?_); refine box_event ?hg (N := 6) ?hd (cs := #[.int .u8 0, .slice none 0 0]) (t := 54) ?hr ?_; (case hd => rfl); (case hg => rfl); (case hr => first | (go_simp; done) | (go_simp; rfl)); intro gb648 hg w8 hbox hb; have n0_ := Aside0.mk (Kd.V_below (Kd.V_elderB (HW.zV HO646.out) gb648 (Nat.le_of_eq hg.symm)) hb); have n1_ := Aside0.mk (blk_below (g := gb642) (o := .cells #[.int .i64 0, .slice none 0 0] 36 (0, 0)) (HW.zB BK642.out) hb); have n2_ := Aside0.mk (below_step HW.zb hb); have n3_ := Aside0.mk (hbox); have n5_ := Aside0.mk ((by rw [hg]; exact (below_size HW.zb) : w.heap.size ≤ gb648)); have n6_ := Aside0.mk ((by rw [hg]; exact Nat.ne_of_lt (blk_lt (g := gb642) (o := .cells #[.int .i64 0, .slice none 0 0] 36 (0, 0)) (HW.zB BK642.out)) : gb642 ≠ gb648)); have n7_ := Aside0.mk ((by rw [hg]; exact Nat.ne_of_gt (blk_lt (g := gb642) (o := .cells #[.int .i64 0, .slice none 0 0] 36 (0, 0)) (HW.zB BK642.out)) : gb648 ≠ gb642)); clear HO646; clear BK642; clear HB; have HO646 := n0_; have BK642 := n1_; have HB := n2_; have BK648 := n3_; have GE648 := n5_; have NB642_648 := n6_; have NB648_642 := n7_; clear n0_ n1_ n2_ n3_ n5_ n6_ n7_; clear hb hbox hg; have hnb9 := NB648_642.out; have hnc9 := NB642_648.out; have hcz10_0 := HW.zc BK648.out 0 (.int .u8 0); have hcz10_1 := HW.zc BK648.out 1 (.slice none 0 0); have hfz11_0 := blk_frozen BK648.out 0; have hfz11_1 := blk_frozen BK648.out 1; obtain ⟨Ao12, co12, eo12⟩ := Kd.V_slice HO646.out; subst eo12) | ((with_reducible refine gate_callee (f := 23) rfl ?_); refine HW.gz (some 15) rfl rfl Tryd.func23 (by kernel_rfl) rfl #[.agg #[.int .u8 t643, .slice Ao12 t644.length co12]] rfl ?_; (with_reducible refine (impl_some1.calls t643 _ _ t644 t649 t650 _ ?side1 ?side2 A4.out).mono ?_); (case side1 => refine (Kd.V_reads' (e := 5) (base := w.heap.size) (ok := fun k_ => (k_ ≠ gb642 ∧ k_ ≠ gb648)) (n := t644.length) (c := co12) ?_).2.2; exact (by (with_reducible repeat (first | apply Kd.V_alloc | apply Kd.V_drewN | apply Kd.V_drew)); exact (Kd.V_mono (Kd.V_far (p := ⟨gb648, 1, none⟩) (Kd.V_far (p := ⟨gb648, 0, none⟩) (Kd.V_mono HO646.out (fun k_ hk => (⟨hk, hk.2⟩ : _ ∧ k_ ≠ gb648))) (fun _ hk => hk.2) (.int .u8 t643)) (fun _ hk => hk.2) (.slice Ao12 t644.length co12)) (fun _ h_ => h_.1)))); (case side2 => exact (Kd.V_reads' HO646.out).2.1); rintro e w13 ⟨v651, rfl, ho0, hb⟩; refine ⟨_, rfl, ?_⟩; have n1_ := Aside0.mk (Kd.R_lower ho0 (below_size HW.zb)); have n2_ := Aside0.mk (blk_below (g := gb642) (o := .cells #[.int .i64 0, .slice none 0 0] 36 (0, 0)) (by (with_reducible repeat (first | refine blk_drewN ?_ _ | refine blk_drew ?_ | refine blk_alloc ?_ _)); refine blk_far ?_ NB642_648.out _; (with_reducible repeat (first | refine blk_drewN ?_ _ | refine blk_drew ?_ | refine blk_alloc ?_ _)); refine blk_far ?_ NB642_648.out _; (with_reducible repeat (first | refine blk_drewN ?_ _ | refine blk_drew ?_ | refine blk_alloc ?_ _)); exact BK642.out) hb); have n4_ := Aside0.mk (below_step HW.zb hb); clear BK642; clear HB; have HO652 := n1_; have BK642 := n2_; have HB := n4_; clear n1_ n2_ n4_; (try clear hb); (try clear hb2); (try clear hk); (try clear hi); (try clear ho0); have CA5 := fun W => impl_code.calls t647 t653 W A5.out; try simp only [errW_none, errW_some] at CA5) | (go_at_call 24; (with_reducible refine (CA5 _).mono ?_); rintro e w14 ⟨rfl, hb⟩; have n1_ := Aside0.mk (Kd.R_below (HW.zR HO652.out) hb); have n2_ := Aside0.mk (blk_below (g := gb642) (o := .cells #[.int .i64 0, .slice none 0 0] 36 (0, 0)) (HW.zB BK642.out) hb); have n4_ := Aside0.mk (below_step HW.zb hb); clear HO652; clear BK642; clear HB; have HO652 := n1_; have BK642 := n2_; have HB := n4_; clear n1_ n2_ n4_; (try clear hb); (try clear hb2); (try clear hk); (try clear hi); have hcz15_0 := HW.zc BK642.out 0 (.int .i64 0); have hcz15_1 := HW.zc BK642.out 1 (.slice none 0 0); have hfz16_0 := blk_frozen BK642.out 0; have hfz16_1 := blk_frozen BK642.out 1; obtain ⟨Ao17, co17, eo17⟩ := Kd.R_slice HO652.out; subst eo17))
    refine bodyPost_ret (results_ct rfl _ _ gb642 36 #[.int .i64 t649, .slice Ao17 t650.length co17] (0, 0) _ rfl (by (with_reducible repeat (first | refine blk_drewN ?_ _ | refine blk_drew ?_ | refine blk_alloc ?_ _)); refine blk_put (cs := #[.int .i64 t649, .slice none 0 0]) ?_ 1 _ rfl; (with_reducible repeat (first | refine blk_drewN ?_ _ | refine blk_drew ?_ | refine blk_alloc ?_ _)); refine blk_put (cs := #[.int .i64 0, .slice none 0 0]) ?_ 0 _ rfl; (with_reducible repeat (first | refine blk_drewN ?_ _ | refine blk_drew ?_ | refine blk_alloc ?_ _)); exact BK642.out) Tryd.underlying36 rfl (by kernel_rfl)) rfl ?_
    exact ⟨_, by first | rfl | (simp [errW_none, errW_some] <;> rfl) | (simp [*, errW_none, errW_some] <;> rfl), by (with_reducible repeat (first | apply Kd.R_alloc | apply Kd.R_drewN | apply Kd.R_drew)); exact Kd.R_mono (Kd.R_far (p := ⟨gb642, 1, none⟩) (Kd.R_far (p := ⟨gb642, 0, none⟩) (Kd.R_types HO652.out BK642.out (by decide)) (fun _ hk => hk.2) (.int .i64 t649)) (fun _ hk => hk.2) (.slice Ao17 t650.length co17)) (fun _ hk => trivial), HW.zb⟩

/-! ### spec_BindSame: function 12 -/
def spec_BindSame.f (a0_0 : Int) (l0_1 : List Int) (a1_0 : Int) (l1_1 : List Int) : Option (Bool) := if a0_0 = a1_0 then (some ((strOfNums l0_1).toList == (strOfNums l1_1).toList)) else (some false)
set_option maxHeartbeats 8000000 in
set_option maxRecDepth 100000 in
theorem spec_BindSame.calls (a0_0 : Int) (A0_1 : Option Addr) (c0_1 : Nat) (l0_1 : List Int) (a1_0 : Int) (A1_1 : Option Addr) (c1_1 : Nat) (l1_1 : List Int) (r : Bool) (w : World) (hr0_1 : Kd.C (Kd.int .u8) w A0_1 l0_1.length l0_1) (hc0_1 : l0_1.length ≤ c0_1) (hr1_1 : Kd.C (Kd.int .u8) w A1_1 l1_1.length l1_1) (hc1_1 : l1_1.length ≤ c1_1) (h : spec_BindSame.f a0_0 l0_1 a1_0 l1_1 = some r) :
    Calls Tryd.prog 12 #[.agg #[.int .i64 a0_0, .slice A0_1 l0_1.length c0_1], .agg #[.int .i64 a1_0, .slice A1_1 l1_1.length c1_1]] w fun e w' => e = .returned (.bool r) ∧ Below w.heap.size w w' := by
  have hu36 := Tryd.underlying36
  have HR0_1 := Aside0.mk hr0_1
  have HC0_1 := Aside0.mk hc0_1
  clear hr0_1 hc0_1
  have HR1_1 := Aside0.mk hr1_1
  have HC1_1 := Aside0.mk hc1_1
  clear hr1_1 hc1_1
  have HB := Aside0.mk (Below.refl w.heap.size w)
  have H : (if a0_0 = a1_0 then (some ((strOfNums l0_1).toList == (strOfNums l1_1).toList)) else (some false)) = some r := h
  clear h
  by_cases c3 : a0_0 = a1_0
  · rw [if_pos c3] at H
    have c3b0 : (a0_0 == a1_0) = true := beq_iff_eq.mpr c3
    have c3b1 : (a0_0 != a1_0) = false := bne_eq_false_iff_eq.mpr c3
    clear c3
    as_aux_lemma =>
      obtain rfl := Option.some.inj H
      go_enter Tryd.func12, Tryd.ntmps12
      go_wp2_with (first | ((with_reducible refine gate_dst (N := 2) rfl ?_); refine box_event ?hg (N := 2) ?hd (cs := #[.int .i64 a0_0, .slice A0_1 l0_1.length c0_1]) (t := 36) ?hr ?_; (case hd => rfl); (case hg => rfl); (case hr => first | (go_simp; done) | (go_simp; rfl)); intro gb654 hg w4 hbox hb; have n0_ := Aside0.mk (below_step HW.zb hb); have n1_ := Aside0.mk (hbox); have n3_ := Aside0.mk ((by rw [hg]; exact (below_size HW.zb) : w.heap.size ≤ gb654)); clear HB; have HB := n0_; have BK654 := n1_; have GE654 := n3_; clear n0_ n1_ n3_; clear hb hbox hg) | ((with_reducible refine gate_dst (N := 3) rfl ?_); refine box_event ?hg (N := 3) ?hd (cs := #[.int .i64 a1_0, .slice A1_1 l1_1.length c1_1]) (t := 36) ?hr ?_; (case hd => rfl); (case hg => rfl); (case hr => first | (go_simp; done) | (go_simp; rfl)); intro gb655 hg w5 hbox hb; have n0_ := Aside0.mk (blk_below (g := gb654) (o := .cells #[.int .i64 a0_0, .slice A0_1 l0_1.length c0_1] 36 (0, 0)) (HW.zB BK654.out) hb); have n1_ := Aside0.mk (below_step HW.zb hb); have n2_ := Aside0.mk (hbox); have n4_ := Aside0.mk ((by rw [hg]; exact (below_size HW.zb) : w.heap.size ≤ gb655)); have n5_ := Aside0.mk ((by rw [hg]; exact Nat.ne_of_lt (blk_lt (g := gb654) (o := .cells #[.int .i64 a0_0, .slice A0_1 l0_1.length c0_1] 36 (0, 0)) (HW.zB BK654.out)) : gb654 ≠ gb655)); have n6_ := Aside0.mk ((by rw [hg]; exact Nat.ne_of_gt (blk_lt (g := gb654) (o := .cells #[.int .i64 a0_0, .slice A0_1 l0_1.length c0_1] 36 (0, 0)) (HW.zB BK654.out)) : gb655 ≠ gb654)); clear BK654; clear HB; have BK654 := n0_; have HB := n1_; have BK655 := n2_; have GE655 := n4_; have NB654_655 := n5_; have NB655_654 := n6_; clear n0_ n1_ n2_ n4_ n5_ n6_; clear hb hbox hg; have hnb6 := NB654_655.out; have hnc6 := NB655_654.out; have hcz7_0 := HW.zc BK654.out 0 (.int .i64 a0_0); have hcz7_1 := HW.zc BK654.out 1 (.slice A0_1 l0_1.length c0_1); have hcz8_0 := HW.zc BK655.out 0 (.int .i64 a1_0); have hcz8_1 := HW.zc BK655.out 1 (.slice A1_1 l1_1.length c1_1); have hcv9 := Kd.C_string (P := Tryd.prog) (A := A0_1) (c := c0_1) Tryd.underlying23 Tryd.underlying5 Tryd.underlying9 (Kd.C_below HR0_1.out HB.out); have hcv10 := Kd.C_string (P := Tryd.prog) (A := A1_1) (c := c1_1) Tryd.underlying23 Tryd.underlying5 Tryd.underlying9 (Kd.C_below HR1_1.out HB.out)))
      go_ret
      exact ⟨by first | rfl | (simp [errW_none, errW_some] <;> rfl) | (simp [*, errW_none, errW_some] <;> rfl), HW.zb⟩
  rw [if_neg c3] at H
  have c3b0 : (a0_0 == a1_0) = false := beq_eq_false_iff_ne.mpr c3
  have c3b1 : (a0_0 != a1_0) = true := bne_iff_ne.mpr c3
  as_aux_lemma =>
    obtain rfl := Option.some.inj H
    go_enter Tryd.func12, Tryd.ntmps12
    go_wp2_with (first | ((with_reducible refine gate_dst (N := 2) rfl ?_); refine box_event ?hg (N := 2) ?hd (cs := #[.int .i64 a0_0, .slice A0_1 l0_1.length c0_1]) (t := 36) ?hr ?_; (case hd => rfl); (case hg => rfl); (case hr => first | (go_simp; done) | (go_simp; rfl)); intro gb654 hg w11 hbox hb; have n0_ := Aside0.mk (below_step HW.zb hb); have n1_ := Aside0.mk (hbox); have n3_ := Aside0.mk ((by rw [hg]; exact (below_size HW.zb) : w.heap.size ≤ gb654)); clear HB; have HB := n0_; have BK654 := n1_; have GE654 := n3_; clear n0_ n1_ n3_; clear hb hbox hg) | ((with_reducible refine gate_dst (N := 3) rfl ?_); refine box_event ?hg (N := 3) ?hd (cs := #[.int .i64 a1_0, .slice A1_1 l1_1.length c1_1]) (t := 36) ?hr ?_; (case hd => rfl); (case hg => rfl); (case hr => first | (go_simp; done) | (go_simp; rfl)); intro gb655 hg w12 hbox hb; have n0_ := Aside0.mk (blk_below (g := gb654) (o := .cells #[.int .i64 a0_0, .slice A0_1 l0_1.length c0_1] 36 (0, 0)) (HW.zB BK654.out) hb); have n1_ := Aside0.mk (below_step HW.zb hb); have n2_ := Aside0.mk (hbox); have n4_ := Aside0.mk ((by rw [hg]; exact (below_size HW.zb) : w.heap.size ≤ gb655)); have n5_ := Aside0.mk ((by rw [hg]; exact Nat.ne_of_lt (blk_lt (g := gb654) (o := .cells #[.int .i64 a0_0, .slice A0_1 l0_1.length c0_1] 36 (0, 0)) (HW.zB BK654.out)) : gb654 ≠ gb655)); have n6_ := Aside0.mk ((by rw [hg]; exact Nat.ne_of_gt (blk_lt (g := gb654) (o := .cells #[.int .i64 a0_0, .slice A0_1 l0_1.length c0_1] 36 (0, 0)) (HW.zB BK654.out)) : gb655 ≠ gb654)); clear BK654; clear HB; have BK654 := n0_; have HB := n1_; have BK655 := n2_; have GE655 := n4_; have NB654_655 := n5_; have NB655_654 := n6_; clear n0_ n1_ n2_ n4_ n5_ n6_; clear hb hbox hg; have hnb13 := NB654_655.out; have hnc13 := NB655_654.out; have hcz14_0 := HW.zc BK654.out 0 (.int .i64 a0_0); have hcz14_1 := HW.zc BK654.out 1 (.slice A0_1 l0_1.length c0_1); have hcz15_0 := HW.zc BK655.out 0 (.int .i64 a1_0); have hcz15_1 := HW.zc BK655.out 1 (.slice A1_1 l1_1.length c1_1)))
    go_ret
    exact ⟨by first | rfl | (simp [errW_none, errW_some] <;> rfl) | (simp [*, errW_none, errW_some] <;> rfl), HW.zb⟩

end Go.Proofs.YtlcgakpnpdkjjaaDoor.PBz
