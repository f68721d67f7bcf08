import Derived.Test.YtpbfigeaoefcmaaGreatPBgx0
import Derived.Test.YtpbfigeaoefcmaaGreatPBgx4
import Derived.Test.YtpbfigeaoefcmaaGreatPBgx5
import Derived.Test.YtpbfigeaoefcmaaGreatPBgx6
import Derived.Test.YtpbfigeaoefcmaaGreatPBgx7
namespace Go.Proofs.YtpbfigeaoefcmaaGreat.PBg
open Go.Proofs.YtpbfigeaoefcmaaGreat.HW (tt ff)
open Go.RowKit Go.Proofs.YtpbfigeaoefcmaaGreatW.PrintWords Go.Proofs.YtpbfigeaoefcmaaGreatW.PrintLast Go.Proofs.YtpbfigeaoefcmaaGreatW.PrintMore
attribute [local go_sem] max2_int min2_int max_two min_two max_three min_three max_four min_four
set_option linter.unusedVariables false
set_option maxHeartbeats 8000000
set_option maxRecDepth 100000
set_option linter.unusedSimpArgs false
def bson_RawValue_CodeWithScopeOK.f (k : Nat) (a0_0 : Int) (l0_1 : List Int) : Option (ByteArray × List Int × Bool) := (bson_convertToCoreValue.f a0_0 l0_1).bind fun bt458 => ((bsoncore_Value_CodeWithScopeOK.f k bt458.1 bt458.2).bind fun bt462 => (some (bt462.1, bt462.2.1, bt462.2.2)))
theorem bson_RawValue_CodeWithScopeOK.mono : ∀ a0 a1 k, LeO (bson_RawValue_CodeWithScopeOK.f k a0 a1) (bson_RawValue_CodeWithScopeOK.f (k + 1) a0 a1) := by
  intro a0 a1 k
  unfold bson_RawValue_CodeWithScopeOK.f
  have m0_ := @bsoncore_Value_CodeWithScopeOK.mono; exact HW.mo
theorem bson_RawValue_CodeWithScopeOK.calls (k : Nat) (a0_0 : Int) (P0_1_ : Nat → Prop) (A0_1 : Option Addr) (c0_1 : Nat) (l0_1 : List Int) (r1 : ByteArray) (r2 : List Int) (r3 : Bool) (w : World) (hs0_1 : Kd.V (Kd.int .u8) 5 w w.heap.size (fun k_ => P0_1_ k_) (.slice A0_1 l0_1.length c0_1) l0_1) (h : bson_RawValue_CodeWithScopeOK.f k a0_0 l0_1 = some (r1, r2, r3)) :
    Calls Tryz.prog 31 #[.agg #[.int .u8 a0_0, .slice A0_1 l0_1.length c0_1]] w fun e w' => ∃ v1_ : Value, e = .returned (.tuple #[.string r1, v1_, .bool r3]) ∧ Kd.V (Kd.int .u8) 5 w' w.heap.size (fun k_ => (P0_1_ k_ ∨ w.heap.size ≤ k_)) v1_ r2 ∧ Below w.heap.size w w' := by
  have hu41 := Tryz.underlying41; have HO0_1 := Aside0.mk (show Kd.V (Kd.int .u8) 5 w w.heap.size (fun k_ => (P0_1_ k_ ∨ w.heap.size ≤ k_)) (.slice A0_1 l0_1.length c0_1) l0_1 from Kd.V_mono hs0_1 (fun k_ hk => .inl hk)); have HB := Aside0.mk (Below.refl w.heap.size w); have H : ((bson_convertToCoreValue.f a0_0 l0_1).bind fun bt458 => ((bsoncore_Value_CodeWithScopeOK.f k bt458.1 bt458.2).bind fun bt462 => (some (bt462.1, bt462.2.1, bt462.2.2)))) = some (r1, r2, r3) := h; clear h; replace H := Option.bind_eq_some_iff.mp H; obtain ⟨⟨t458, t459⟩, A20, H⟩ := H; replace H : ((bsoncore_Value_CodeWithScopeOK.f k t458 t459).bind fun bt462 => (some (bt462.1, bt462.2.1, bt462.2.2))) = some (r1, r2, r3) := H; have A2 := Aside0.mk A20; clear A20; replace H := Option.bind_eq_some_iff.mp H; obtain ⟨⟨t462, t463, t466⟩, A30, H⟩ := H; replace H : (some (t462, t463, t466)) = some (r1, r2, r3) := H; have A3 := Aside0.mk A30; clear A30
  as_aux_lemma =>
    simp only [Option.some.injEq, Prod.mk.injEq] at H
    obtain ⟨rfl, rfl, rfl⟩ := H
    go_enter Tryz.func31, Tryz.ntmps31
    go_wp2_with (first | ((with_reducible refine gate_dst (N := 1) rfl ?_); refine box_event ?hg (N := 1) ?hd (cs := #[.int .u8 a0_0, .slice A0_1 l0_1.length c0_1]) (t := 41) ?hr ?_; (case hd => rfl); (case hg => rfl); (case hr => first | (go_simp; done) | (go_simp; rfl)); intro gb457 hg w4 hbox hb; have n0_ := Aside0.mk (Kd.V_below (Kd.V_elderB (HW.zV HO0_1.out) gb457 (Nat.le_of_eq hg.symm)) hb); have n1_ := Aside0.mk (below_step HW.zb hb); have n2_ := Aside0.mk (hbox); have n4_ := Aside0.mk ((by rw [hg]; exact (below_size HW.zb) : w.heap.size ≤ gb457)); clear HO0_1; clear HB; have HO0_1 := n0_; have HB := n1_; have BK457 := n2_; have GE457 := n4_; clear n0_ n1_ n2_ n4_; clear hb hbox hg; obtain ⟨hcz5_0, hcz5_1⟩ := HW.k2 BK457.out) | ((with_reducible refine gate_callee (f := 41) rfl ?_); refine HW.gz (some 10) rfl rfl Tryz.func41 (by kernel_rfl) rfl #[.agg #[.int .u8 a0_0, .slice A0_1 l0_1.length c0_1]] rfl ?_; (with_reducible refine (bson_convertToCoreValue.calls a0_0 (fun k_ => ((P0_1_ k_ ∨ w.heap.size ≤ k_) ∧ k_ ≠ gb457)) _ _ l0_1 t458 t459 _ ?side1 A2.out).mono ?_); (case side1 => exact HO0_1.out); rintro e w6 ⟨v460, rfl, ho0, hb⟩; refine ⟨_, rfl, ?_⟩; have HO461 := Aside0.mk (Kd.V_lower (Kd.V_mono (ok' := fun k_ => (P0_1_ k_ ∨ w.heap.size ≤ k_) ∧ k_ ≠ gb457) ho0 (fun k_ hk_ => ⟨Or.elim hk_ (fun hs_ => hs_.1) (fun hn_ => (.inr (Nat.le_trans (below_size HW.zb) hn_))), Or.elim hk_ (fun hs_ => hs_.2) (fun hn_ => (Kd.freshB (g := gb457) (o := .cells #[.int .u8 a0_0, .slice A0_1 l0_1.length c0_1] 41 (0, 0)) (HW.zB BK457.out) k_ hn_))⟩)) (below_size HW.zb)); replace BK457 := Aside0.mk (blk_below (HW.zB BK457.out) hb); replace HB := Aside0.mk (below_step HW.zb hb); (try clear hb); (try clear ho0); obtain ⟨Ao7, co7, eo7⟩ := Kd.V_slice HO461.out; subst eo7) | ((with_reducible refine gate_callee (f := 54) rfl ?_); refine HW.gz (some 11) rfl rfl Tryz.func54 (by kernel_rfl) rfl #[.agg #[.int .u8 t458, .slice Ao7 t459.length co7]] rfl ?_; (with_reducible refine (bsoncore_Value_CodeWithScopeOK.calls k t458 (fun k_ => ((P0_1_ k_ ∨ w.heap.size ≤ k_) ∧ k_ ≠ gb457)) _ _ t459 t462 t463 t466 _ ?side1 A3.out).mono ?_); (case side1 => exact HO461.out); rintro e w8 ⟨v464, rfl, ho0, hb⟩; refine ⟨_, rfl, ?_⟩; have HO465 := Aside0.mk (Kd.V_lower (Kd.V_mono (ok' := fun k_ => (P0_1_ k_ ∨ w.heap.size ≤ k_) ∧ k_ ≠ gb457) ho0 (fun k_ hk_ => ⟨Or.elim hk_ (fun hs_ => hs_.1) (fun hn_ => (.inr (Nat.le_trans (below_size HW.zb) hn_))), Or.elim hk_ (fun hs_ => hs_.2) (fun hn_ => (Kd.freshB (g := gb457) (o := .cells #[.int .u8 a0_0, .slice A0_1 l0_1.length c0_1] 41 (0, 0)) (HW.zB BK457.out) k_ hn_))⟩)) (below_size HW.zb)); replace HB := Aside0.mk (below_step HW.zb hb); (try clear hb); (try clear ho0)))
    go_ret3
    exact ⟨_, rfl, by (with_reducible repeat (first | apply Kd.V_alloc | apply Kd.V_drewN | apply Kd.V_drew)); exact Kd.V_mono HO465.out (fun _ hk => hk.1), HW.zb⟩
def bsoncore_ReadInt32.f (l0 : List Int) : Option (Int × List Int × Bool) := (binaryutil_ReadI32.f l0).bind fun bt467 => (some (bt467.1, bt467.2.1, bt467.2.2))
theorem bsoncore_ReadInt32.calls (P0_ : Nat → Prop) (A0 : Option Addr) (c0 : Nat) (l0 : List Int) (r1 : Int) (r2 : List Int) (r3 : Bool) (w : World) (hs0 : Kd.V (Kd.int .u8) 5 w w.heap.size (fun k_ => P0_ k_) (.slice A0 l0.length c0) l0) (h : bsoncore_ReadInt32.f l0 = some (r1, r2, r3)) :
    Calls Tryz.prog 80 #[.slice A0 l0.length c0] w fun e w' => ∃ v1_ : Value, e = .returned (.tuple #[.int .i32 r1, v1_, .bool r3]) ∧ Kd.V (Kd.int .u8) 5 w' w.heap.size (fun k_ => (P0_ k_ ∨ w.heap.size ≤ k_)) v1_ r2 ∧ Below w.heap.size w w' := by
  have HO0 := Aside0.mk (show Kd.V (Kd.int .u8) 5 w w.heap.size (fun k_ => (P0_ k_ ∨ w.heap.size ≤ k_)) (.slice A0 l0.length c0) l0 from Kd.V_mono hs0 (fun k_ hk => .inl hk)); have HB := Aside0.mk (Below.refl w.heap.size w); have H : ((binaryutil_ReadI32.f l0).bind fun bt467 => (some (bt467.1, bt467.2.1, bt467.2.2))) = some (r1, r2, r3) := h; clear h; replace H := Option.bind_eq_some_iff.mp H; obtain ⟨⟨t467, t468, t471⟩, A20, H⟩ := H; replace H : (some (t467, t468, t471)) = some (r1, r2, r3) := H; have A2 := Aside0.mk A20; clear A20
  as_aux_lemma =>
    simp only [Option.some.injEq, Prod.mk.injEq] at H
    obtain ⟨rfl, rfl, rfl⟩ := H
    go_enter Tryz.func80, Tryz.ntmps80
    go_wp2_with (first | ((with_reducible refine gate_callee (f := 92) rfl ?_); refine HW.gz (some 6) rfl rfl Tryz.func92 (by kernel_rfl) rfl #[.slice A0 l0.length c0] rfl ?_; (with_reducible refine (binaryutil_ReadI32.calls (fun k_ => (P0_ k_ ∨ w.heap.size ≤ k_)) _ _ l0 t467 t468 t471 _ ?side1 A2.out).mono ?_); (case side1 => exact HO0.out); rintro e w3 ⟨v469, rfl, ho0, hb⟩; refine ⟨_, rfl, ?_⟩; have HO470 := Aside0.mk (Kd.V_lower (Kd.V_mono (ok' := fun k_ => (P0_ k_ ∨ w.heap.size ≤ k_)) ho0 (fun k_ hk_ => Or.elim hk_ (fun hs_ => hs_) (fun hn_ => (.inr (Nat.le_trans (below_size HW.zb) hn_))))) (below_size HW.zb)); replace HB := Aside0.mk (below_step HW.zb hb); (try clear hb); (try clear ho0)))
    go_ret3
    exact ⟨_, rfl, HW.zV HO470.out, HW.zb⟩
def bsoncore_Value_Int32OK.f (a0_0 : Int) (l0_1 : List Int) : Option (Int × Bool) := if a0_0 = 16 then ((bsoncore_ReadInt32.f l0_1).bind fun bt473 => (if bt473.2.2 = true then (some (bt473.1, true)) else (none))) else (some (0, false))
theorem bsoncore_Value_Int32OK.calls (a0_0 : Int) (A0_1 : Option Addr) (c0_1 : Nat) (l0_1 : List Int) (r1 : Int) (r2 : Bool) (w : World) (hr0_1 : Kd.C (Kd.int .u8) w A0_1 l0_1.length l0_1) (hc0_1 : l0_1.length ≤ c0_1) (h : bsoncore_Value_Int32OK.f a0_0 l0_1 = some (r1, r2)) :
    Calls Tryz.prog 55 #[.agg #[.int .u8 a0_0, .slice A0_1 l0_1.length c0_1]] w fun e w' => e = .returned (.tuple #[.int .i32 r1, .bool r2]) ∧ Below w.heap.size w w' := by
  have hu92 := Tryz.underlying92; have HR0_1 := Aside0.mk hr0_1; have HC0_1 := Aside0.mk hc0_1; clear hr0_1 hc0_1; have HB := Aside0.mk (Below.refl w.heap.size w); have H : (if a0_0 = 16 then ((bsoncore_ReadInt32.f l0_1).bind fun bt473 => (if bt473.2.2 = true then (some (bt473.1, true)) else (none))) else (some (0, false))) = some (r1, r2) := h; clear h
  by_cases c2 : a0_0 = 16
  rotate_left
  · rw [if_neg c2] at H
    have c2b0 : (a0_0 == 16) = false := beq_eq_false_iff_ne.mpr c2; have c2b1 : (a0_0 != 16) = true := bne_iff_ne.mpr c2
    as_aux_lemma =>
      simp only [Option.some.injEq, Prod.mk.injEq] at H
      obtain ⟨rfl, rfl⟩ := H
      go_enter Tryz.func55, Tryz.ntmps55
      go_wp2_with (first | ((with_reducible refine gate_dst (N := 1) rfl ?_); refine box_event ?hg (N := 1) ?hd (cs := #[.int .u8 a0_0, .slice A0_1 l0_1.length c0_1]) (t := 92) ?hr ?_; (case hd => rfl); (case hg => rfl); (case hr => first | (go_simp; done) | (go_simp; rfl)); intro gb472 hg w8 hbox hb; have n0_ := Aside0.mk (below_step HW.zb hb); have n1_ := Aside0.mk (hbox); have n3_ := Aside0.mk ((by rw [hg]; exact (below_size HW.zb) : w.heap.size ≤ gb472)); clear HB; have HB := n0_; have BK472 := n1_; have GE472 := n3_; clear n0_ n1_ n3_; clear hb hbox hg; obtain ⟨hcz9_0, hcz9_1⟩ := HW.k2 BK472.out))
      go_ret2
      exact ⟨rfl, HW.zb⟩
  rw [if_pos c2] at H; have c2b0 : (a0_0 == 16) = true := beq_iff_eq.mpr c2; have c2b1 : (a0_0 != 16) = false := bne_eq_false_iff_eq.mpr c2; clear c2; replace H := Option.bind_eq_some_iff.mp H; obtain ⟨⟨t473, t474, t477⟩, A30, H⟩ := H; replace H : (if t477 = true then (some (t473, true)) else (none)) = some (r1, r2) := H; have A3 := Aside0.mk A30; clear A30
  by_cases c4 : t477 = true
  rotate_left
  · replace c4 := Bool.eq_false_iff.mpr c4
    subst c4
    have H1 : (none) = some (r1, r2) := by rw [if_neg (show ¬ (false = true) by decide)] at H; exact H
    clear H; have H := H1; clear H1
    exact absurd H (by simp)
  subst c4
  have H1 : (some (t473, true)) = some (r1, r2) := by rw [if_pos rfl] at H; exact H
  clear H; have H := H1; clear H1
  as_aux_lemma =>
    simp only [Option.some.injEq, Prod.mk.injEq] at H
    obtain ⟨rfl, rfl⟩ := H
    go_enter Tryz.func55, Tryz.ntmps55
    go_wp2_with (first | ((with_reducible refine gate_dst (N := 1) rfl ?_); refine box_event ?hg (N := 1) ?hd (cs := #[.int .u8 a0_0, .slice A0_1 l0_1.length c0_1]) (t := 92) ?hr ?_; (case hd => rfl); (case hg => rfl); (case hr => first | (go_simp; done) | (go_simp; rfl)); intro gb472 hg w5 hbox hb; have n0_ := Aside0.mk (below_step HW.zb hb); have n1_ := Aside0.mk (hbox); have n3_ := Aside0.mk ((by rw [hg]; exact (below_size HW.zb) : w.heap.size ≤ gb472)); clear HB; have HB := n0_; have BK472 := n1_; have GE472 := n3_; clear n0_ n1_ n3_; clear hb hbox hg; obtain ⟨hcz6_0, hcz6_1⟩ := HW.k2 BK472.out) | ((with_reducible refine gate_callee (f := 80) rfl ?_); refine HW.gz (some 13) rfl rfl Tryz.func80 (by kernel_rfl) rfl #[.slice A0_1 l0_1.length c0_1] rfl ?_; (with_reducible refine (bsoncore_ReadInt32.calls (fun k_ => k_ < w.heap.size) _ _ l0_1 t473 t474 true _ ?side1 A3.out).mono ?_); (case side1 => exact Kd.V_mk HC0_1.out (Kd.F_below (Kd.C_F (Kd.heap_int .u8) HR0_1.out) HW.zb)); rintro e w7 ⟨v475, rfl, ho0, hb⟩; refine ⟨_, rfl, ?_⟩; have n2_ := Aside0.mk (below_step HW.zb hb); clear HB; have HB := n2_; clear n2_; (try clear hb); (try clear ho0)))
    go_ret2
    exact ⟨rfl, HW.zb⟩
def bson_RawValue_Int32OK.f (a0_0 : Int) (l0_1 : List Int) : Option (Int × Bool) := (bson_convertToCoreValue.f a0_0 l0_1).bind fun bt479 => ((bsoncore_Value_Int32OK.f bt479.1 bt479.2).bind fun bt483 => (some (bt483.1, bt483.2)))
theorem bson_RawValue_Int32OK.calls (a0_0 : Int) (A0_1 : Option Addr) (c0_1 : Nat) (l0_1 : List Int) (r1 : Int) (r2 : Bool) (w : World) (hr0_1 : Kd.C (Kd.int .u8) w A0_1 l0_1.length l0_1) (hc0_1 : l0_1.length ≤ c0_1) (h : bson_RawValue_Int32OK.f a0_0 l0_1 = some (r1, r2)) :
    Calls Tryz.prog 32 #[.agg #[.int .u8 a0_0, .slice A0_1 l0_1.length c0_1]] w fun e w' => e = .returned (.tuple #[.int .i32 r1, .bool r2]) ∧ Below w.heap.size w w' := by
  have hu41 := Tryz.underlying41; have HR0_1 := Aside0.mk hr0_1; have HC0_1 := Aside0.mk hc0_1; clear hr0_1 hc0_1; have HB := Aside0.mk (Below.refl w.heap.size w); have H : ((bson_convertToCoreValue.f a0_0 l0_1).bind fun bt479 => ((bsoncore_Value_Int32OK.f bt479.1 bt479.2).bind fun bt483 => (some (bt483.1, bt483.2)))) = some (r1, r2) := h; clear h; replace H := Option.bind_eq_some_iff.mp H; obtain ⟨⟨t479, t480⟩, A20, H⟩ := H; replace H : ((bsoncore_Value_Int32OK.f t479 t480).bind fun bt483 => (some (bt483.1, bt483.2))) = some (r1, r2) := H; have A2 := Aside0.mk A20; clear A20; replace H := Option.bind_eq_some_iff.mp H; obtain ⟨⟨t483, t484⟩, A30, H⟩ := H; replace H : (some (t483, t484)) = some (r1, r2) := H; have A3 := Aside0.mk A30; clear A30
  as_aux_lemma =>
    simp only [Option.some.injEq, Prod.mk.injEq] at H
    obtain ⟨rfl, rfl⟩ := H
    go_enter Tryz.func32, Tryz.ntmps32
    go_wp2_with (first | ((with_reducible refine gate_dst (N := 1) rfl ?_); refine box_event ?hg (N := 1) ?hd (cs := #[.int .u8 a0_0, .slice A0_1 l0_1.length c0_1]) (t := 41) ?hr ?_; (case hd => rfl); (case hg => rfl); (case hr => first | (go_simp; done) | (go_simp; rfl)); intro gb478 hg w4 hbox hb; have n0_ := Aside0.mk (below_step HW.zb hb); have n1_ := Aside0.mk (hbox); have n2_ := Aside0.mk ((by rw [hg]; exact (below_size HW.zb) : w.heap.size ≤ gb478)); have n3_ := Aside0.mk ((by rw [hg]; exact (below_size HW.zb) : w.heap.size ≤ gb478)); clear HB; have HB := n0_; have BK478 := n1_; have GW478 := n2_; have GE478 := n3_; clear n0_ n1_ n2_ n3_; clear hb hbox hg; obtain ⟨hcz5_0, hcz5_1⟩ := HW.k2 BK478.out) | ((with_reducible refine gate_callee (f := 41) rfl ?_); refine HW.gz (some 5) rfl rfl Tryz.func41 (by kernel_rfl) rfl #[.agg #[.int .u8 a0_0, .slice A0_1 l0_1.length c0_1]] rfl ?_; (with_reducible refine (bson_convertToCoreValue.calls a0_0 (fun k_ => k_ < w.heap.size) _ _ l0_1 t479 t480 _ ?side1 A2.out).mono ?_); (case side1 => exact Kd.V_mk HC0_1.out (Kd.F_below (Kd.C_F (Kd.heap_int .u8) HR0_1.out) HW.zb)); rintro e w6 ⟨v481, rfl, ho0, hb⟩; refine ⟨_, rfl, ?_⟩; have n0_ := Aside0.mk (Kd.V_lower (Kd.V_mono (ok' := fun k_ => k_ ≠ gb478) ho0 (fun k_ hk_ => Or.elim hk_ (fun hs_ => fun e_ => Nat.not_le.2 hs_ (by rw [e_]; exact GW478.out)) (fun hn_ => (Kd.freshB (g := gb478) (o := .cells #[.int .u8 a0_0, .slice A0_1 l0_1.length c0_1] 41 (0, 0)) (HW.zB BK478.out) k_ hn_)))) (below_size HW.zb)); have n2_ := Aside0.mk (below_step HW.zb hb); clear HB; have HO482 := n0_; have HB := n2_; clear n0_ n2_; (try clear hb); (try clear ho0); obtain ⟨Ao7, co7, eo7⟩ := Kd.V_slice HO482.out; subst eo7) | ((with_reducible refine gate_callee (f := 55) rfl ?_); refine HW.gz (some 6) rfl rfl Tryz.func55 (by kernel_rfl) rfl #[.agg #[.int .u8 t479, .slice Ao7 t480.length co7]] rfl ?_; (with_reducible refine (bsoncore_Value_Int32OK.calls t479 _ _ t480 t483 t484 _ ?side1 ?side2 A3.out).mono ?_); (case side1 => repeat (first | exact (Kd.V_reads' HO482.out).2.2 | (with_reducible refine Kd.C_alloc ?_ _) | (with_reducible refine Kd.C_drewN ?_ _) | (with_reducible refine Kd.C_drew ?_))); (case side2 => exact (Kd.V_reads' HO482.out).2.1); rintro e w8 ⟨rfl, hb⟩; refine ⟨_, rfl, ?_⟩; have n2_ := Aside0.mk (below_step HW.zb hb); clear HB; have HB := n2_; clear n2_; (try clear hb)))
    go_ret2
    exact ⟨rfl, HW.zb⟩
theorem le_at4 {w : World} {A : Option Addr} {l : List Int} (hC : Kd.C (Kd.int .u8) w A l.length l) (h8 : 4 ≤ l.length) : ∃ a, A = some a ∧ ∀ i, i < (l.take 4).length → w.cell? (a.add i) = some (.int .u8 ((l.take 4).getD i 0)) := by
  obtain ⟨a, hA, _⟩ := Kd.at_int hC 0 (by omega) (by omega)
  refine ⟨a, hA, fun i hi => ?_⟩
  have hi8 : i < 4 := by simp only [List.length_take] at hi; omega
  obtain ⟨a', hA', hx⟩ := Kd.at_int hC (i : Int) (by omega) (by omega)
  rw [hA] at hA'
  cases hA'
  rw [Int.toNat_natCast] at hx; rw [hx]
  simp [rd, rdOf, List.getD_eq_getElem?_getD, List.getElem?_take, hi8]
def binaryutil_ReadU32.f (l0 : List Int) : Option (Int × List Int × Bool) := if l0.length < 4 then some (0, l0, false) else if ∀ z ∈ l0.take 4, (Lit.int .u8 z).wf = true then some (Lib.leZ (l0.take 4), l0.drop 4, true) else none
theorem binaryutil_ReadU32.calls (P0_ : Nat → Prop) (A0 : Option Addr) (c0 : Nat) (l0 : List Int) (r1 : Int) (r2 : List Int) (r3 : Bool) (w : World) (hs0 : Kd.V (Kd.int .u8) 5 w w.heap.size (fun k_ => P0_ k_) (.slice A0 l0.length c0) l0) (h : binaryutil_ReadU32.f l0 = some (r1, r2, r3)) :
    Calls Tryz.prog 93 #[.slice A0 l0.length c0] w fun e w' => ∃ v1_ : Value, e = .returned (.tuple #[.int .u32 r1, v1_, .bool r3]) ∧ Kd.V (Kd.int .u8) 5 w' w.heap.size (fun k_ => (P0_ k_ ∨ w.heap.size ≤ k_)) v1_ r2 ∧ Below w.heap.size w w' := by
  unfold binaryutil_ReadU32.f at h
  by_cases hn : l0.length < 4
  · rw [if_pos hn] at h
    simp only [Option.some.injEq, Prod.mk.injEq] at h
    obtain ⟨rfl, rfl, rfl⟩ := h
    have hd : decide ((l0.length : Int) < 4) = true := decide_eq_true (by omega)
    have hd2 : decide (l0.length < 4) = true := decide_eq_true hn
    go_enter Tryz.func93, Tryz.ntmps93
    go_wp2
    go_ret3
    exact ⟨_, rfl, Kd.V_mono hs0 (fun k_ hk => .inl hk), Below.refl _ _⟩
  rw [if_neg hn] at h
  by_cases hw : ∀ z ∈ l0.take 4, (Lit.int .u8 z).wf = true
  case neg => rw [if_neg hw] at h; cases h
  rw [if_pos hw] at h
  simp only [Option.some.injEq, Prod.mk.injEq] at h
  obtain ⟨rfl, rfl, rfl⟩ := h
  have h8 : 4 ≤ l0.length := by omega
  obtain ⟨_, hroom, hC⟩ := Kd.V_reads' hs0; obtain ⟨a, rfl, hcell⟩ := le_at4 hC h8
  have hd : decide ((l0.length : Int) < 4) = false := decide_eq_false (by omega)
  have hd2 : decide (l0.length < 4) = false := decide_eq_false hn
  have hl8 : (l0.take 4).length = 4 := by simp only [List.length_take]; omega
  have ht : (l0.take 4).take 4 = l0.take 4 := by simp [List.take_take]
  obtain ⟨i0, hi0, _, hsz0, _⟩ := info_parts info5; have hF : Kd.F (Kd.int .u8) w (fun k_ => P0_ k_) (some a) l0.length l0 := (Kd.V_at (base := w.heap.size) hs0).2.2
  have hcut := cut_from (P := Tryz.prog) 23 5 .i64 Tryz.underlying23 hi0 1 hsz0 (some a) l0.length c0 4 (by omega) (by omega)
  have hr := Kd.F_cut (m := (4 : Int).toNat) (c := c0) hF (by show 4 ≤ l0.length; omega) hroom
  obtain ⟨A8, hA8⟩ : ∃ A1, A1 = (if c0 = (4 : Int).toNat then (some a) else ((some a) : Option Addr).map (·.add ((4 : Int).toNat * 1))) := ⟨_, rfl⟩; have hy : (l0.drop 4).length = l0.length - (4 : Int).toNat := List.length_drop
  have hr' : Kd.F (Kd.int .u8) w (fun k_ => P0_ k_) A8 (l0.drop 4).length (l0.drop 4) := by rw [hA8]; exact hr
  rw [← hA8] at hcut; clear hA8 hr hF
  have hV : Kd.V (Kd.int .u8) 5 w w.heap.size (fun k_ => P0_ k_) (.slice A8 (l0.drop 4).length (c0 - (4 : Int).toNat)) (l0.drop 4) := Kd.V_mk (by rw [hy]; exact Nat.sub_le_sub_right hroom _) hr'
  rw [hy] at hV; clear hr' hy hs0
  go_enter Tryz.func93, Tryz.ntmps93
  go_wp2
  refine start_ (n := 8) (S := fun _ => True) (ds := []) #[ff,ff,ff,ff,ff,ff,ff,ff] (by kernel_rfl) rfl rfl trivial (fun hHeld => ?_)
  refine take_ (i := 0) (N := some 9) (v := ?_) (a' := ?_) #[tt,ff,ff,ff,ff,ff,ff,ff] rfl rfl (by kernel_rfl) (fun _ _ _ h => h) (Or.inl ⟨by rfl, ?_⟩) hHeld ?_ ?_
  rotate_left
  · rintro w' _
    go_simp
    with_reducible rfl
  rotate_left
  · exact HW.pt
  refine HW.pz (i := 1) (N := some 10) #[tt,tt,ff,ff,ff,ff,ff,ff] ?_
  refine HW.pz (i := 3) (N := some 12) #[tt,tt,ff,tt,ff,ff,ff,ff] ?_
  refine pure_ (i := 4) (N := some 13) (v := .slice A8 (l0.length - (4 : Int).toNat) (c0 - (4 : Int).toNat)) (a' := ?_) #[tt,tt,ff,tt,tt,ff,ff,ff] rfl rfl (by kernel_rfl) (fun _ _ _ h => h) (Or.inl ⟨by rfl, ?_⟩) ?_ ?_
  · intro w'
    simp [execOp, Act.eval, Sem.run_bind]
    have hx : (Tryz.prog).underlying 23 = some (.slice ((Tryz.prog).elem 23)) := by kernel_rfl
    rw [(run_sliceAt_slice (P := Tryz.prog) (w := w') 23 (.slice (some a) l0.length c0) (some (.int .i64 4)) none none hx).trans (hcut w')]
    rfl
  rotate_left
  · exact HW.pt
  refine one_ (i := 2) (N := some 11) #[tt,tt,tt,tt,tt,ff,ff,ff] rfl rfl (by kernel_rfl) (by decide) (fun K_ hK => ?_)
  refine goes_ Tryz.func96 (by kernel_rfl) rfl #[.agg #[], .slice (some a) l0.length c0] (by rfl) rfl rfl HW.mt ?_
  refine (Tryz.binary_LE_Uint32_z a l0.length c0 (l0.take 4) w.drew h8 (Nat.le_of_eq hl8.symm) hcell hw).mono ?_
  rintro e w' ⟨rfl, hb⟩
  rw [ht]
  refine ⟨_, rfl, ?_⟩
  refine hK.out _ _ trivial (fun hHeld => ?_)
  clear hK K_
  refine HW.nz (N := (some 11)) ?_
  refine HW.pz (i := 5) (N := some 2) #[tt,tt,tt,tt,tt,tt,ff,ff] ?_
  refine HW.pz (i := 6) (N := some 3) #[tt,tt,tt,tt,tt,tt,tt,ff] ?_
  refine HW.pz (i := 7) (N := some 4) #[tt,tt,tt,tt,tt,tt,tt,tt] ?_
  refine done_ (by kernel_rfl) ?_
  go_wp2
  go_ret3
  exact ⟨_, rfl, Kd.V_mono (Kd.V_below hV (below_step (below_drew1 (Below.refl w.heap.size w)) hb)) (fun k_ hk => .inl hk), below_step (below_drew1 (Below.refl w.heap.size w)) hb⟩
def bsoncore_ReadTimestamp.f (l0 : List Int) : Option (Int × Int × List Int × Bool) := (binaryutil_ReadU32.f l0).bind fun bt485 => (if bt485.2.2 = true then ((binaryutil_ReadU32.f bt485.2.1).bind fun bt490 => (if bt490.2.2 = true then (some (bt490.1, bt485.1, bt490.2.1, true)) else (some (0, 0, l0, false)))) else (some (0, 0, l0, false)))
theorem bsoncore_ReadTimestamp.calls (P0_ : Nat → Prop) (A0 : Option Addr) (c0 : Nat) (l0 : List Int) (r1 : Int) (r2 : Int) (r3 : List Int) (r4 : Bool) (w : World) (hs0 : Kd.V (Kd.int .u8) 5 w w.heap.size (fun k_ => P0_ k_) (.slice A0 l0.length c0) l0) (h : bsoncore_ReadTimestamp.f l0 = some (r1, r2, r3, r4)) :
    Calls Tryz.prog 81 #[.slice A0 l0.length c0] w fun e w' => ∃ v2_ : Value, e = .returned (.tuple #[.int .u32 r1, .int .u32 r2, v2_, .bool r4]) ∧ Kd.V (Kd.int .u8) 5 w' w.heap.size (fun k_ => (P0_ k_ ∨ w.heap.size ≤ k_)) v2_ r3 ∧ Below w.heap.size w w' := by
  have HO0 := Aside0.mk (show Kd.V (Kd.int .u8) 5 w w.heap.size (fun k_ => (P0_ k_ ∨ w.heap.size ≤ k_)) (.slice A0 l0.length c0) l0 from Kd.V_mono hs0 (fun k_ hk => .inl hk)); have HB := Aside0.mk (Below.refl w.heap.size w); have H : ((binaryutil_ReadU32.f l0).bind fun bt485 => (if bt485.2.2 = true then ((binaryutil_ReadU32.f bt485.2.1).bind fun bt490 => (if bt490.2.2 = true then (some (bt490.1, bt485.1, bt490.2.1, true)) else (some (0, 0, l0, false)))) else (some (0, 0, l0, false)))) = some (r1, r2, r3, r4) := h; clear h; replace H := Option.bind_eq_some_iff.mp H; obtain ⟨⟨t485, t486, t489⟩, A20, H⟩ := H; replace H : (if t489 = true then ((binaryutil_ReadU32.f t486).bind fun bt490 => (if bt490.2.2 = true then (some (bt490.1, t485, bt490.2.1, true)) else (some (0, 0, l0, false)))) else (some (0, 0, l0, false))) = some (r1, r2, r3, r4) := H; have A2 := Aside0.mk A20; clear A20
  by_cases c3 : t489 = true
  rotate_left
  · replace c3 := Bool.eq_false_iff.mpr c3
    subst c3
    have H1 : (some (0, 0, l0, false)) = some (r1, r2, r3, r4) := by rw [if_neg (show ¬ (false = true) by decide)] at H; exact H
    clear H; have H := H1; clear H1
    as_aux_lemma =>
      simp only [Option.some.injEq, Prod.mk.injEq] at H
      obtain ⟨rfl, rfl, rfl, rfl⟩ := H
      go_enter Tryz.func81, Tryz.ntmps81
      go_wp2_with (first | ((with_reducible refine gate_callee (f := 93) rfl ?_); refine HW.gz (some 8) rfl rfl Tryz.func93 (by kernel_rfl) rfl #[.slice A0 l0.length c0] rfl ?_; (with_reducible refine (binaryutil_ReadU32.calls (fun k_ => (P0_ k_ ∨ w.heap.size ≤ k_)) _ _ l0 t485 t486 false _ ?side1 A2.out).mono ?_); (case side1 => exact HO0.out); rintro e w12 ⟨v487, rfl, ho0, hb⟩; refine ⟨_, rfl, ?_⟩; replace HO0 := Aside0.mk (Kd.V_below (HW.zV HO0.out) hb); have HO488 := Aside0.mk (Kd.V_lower (Kd.V_mono (ok' := fun k_ => (P0_ k_ ∨ w.heap.size ≤ k_)) ho0 (fun k_ hk_ => Or.elim hk_ (fun hs_ => hs_) (fun hn_ => (.inr (Nat.le_trans (below_size HW.zb) hn_))))) (below_size HW.zb)); replace HB := Aside0.mk (below_step HW.zb hb); (try clear hb); (try clear ho0)))
      refine bodyPost_ret (results_list (rs := [.tmp 2, .tmp 3, .tmp 4, .tmp 5]) rfl (by simp) (.tmp (.tmp (.tmp (.tmp .nil))))) rfl ?_
      exact ⟨_, rfl, HW.zV HO0.out, HW.zb⟩
  subst c3
  have H1 : ((binaryutil_ReadU32.f t486).bind fun bt490 => (if bt490.2.2 = true then (some (bt490.1, t485, bt490.2.1, true)) else (some (0, 0, l0, false)))) = some (r1, r2, r3, r4) := by rw [if_pos rfl] at H; exact H
  clear H; have H := H1; clear H1; replace H := Option.bind_eq_some_iff.mp H; obtain ⟨⟨t490, t491, t494⟩, A40, H⟩ := H; replace H : (if t494 = true then (some (t490, t485, t491, true)) else (some (0, 0, l0, false))) = some (r1, r2, r3, r4) := H; have A4 := Aside0.mk A40; clear A40
  by_cases c5 : t494 = true
  · subst c5
    have H1 : (some (t490, t485, t491, true)) = some (r1, r2, r3, r4) := by rw [if_pos rfl] at H; exact H
    clear H; have H := H1; clear H1
    as_aux_lemma =>
      simp only [Option.some.injEq, Prod.mk.injEq] at H
      obtain ⟨rfl, rfl, rfl, rfl⟩ := H
      go_enter Tryz.func81, Tryz.ntmps81
      go_wp2_with (first | ((with_reducible refine gate_callee (f := 93) rfl ?_); refine HW.gz (some 8) rfl rfl Tryz.func93 (by kernel_rfl) rfl #[.slice A0 l0.length c0] rfl ?_; (with_reducible refine (binaryutil_ReadU32.calls (fun k_ => (P0_ k_ ∨ w.heap.size ≤ k_)) _ _ l0 t485 t486 true _ ?side1 A2.out).mono ?_); (case side1 => exact HO0.out); rintro e w6 ⟨v487, rfl, ho0, hb⟩; refine ⟨_, rfl, ?_⟩; replace HO0 := Aside0.mk (Kd.V_below (HW.zV HO0.out) hb); have HO488 := Aside0.mk (Kd.V_lower (Kd.V_mono (ok' := fun k_ => (P0_ k_ ∨ w.heap.size ≤ k_)) ho0 (fun k_ hk_ => Or.elim hk_ (fun hs_ => hs_) (fun hn_ => (.inr (Nat.le_trans (below_size HW.zb) hn_))))) (below_size HW.zb)); replace HB := Aside0.mk (below_step HW.zb hb); (try clear hb); (try clear ho0); obtain ⟨Ao7, co7, eo7⟩ := Kd.V_slice HO488.out; subst eo7) | ((with_reducible refine gate_callee (f := 93) rfl ?_); refine HW.gz (some 17) rfl rfl Tryz.func93 (by kernel_rfl) rfl #[.slice Ao7 t486.length co7] rfl ?_; (with_reducible refine (binaryutil_ReadU32.calls (fun k_ => (P0_ k_ ∨ w.heap.size ≤ k_)) _ _ t486 t490 t491 true _ ?side1 A4.out).mono ?_); (case side1 => exact HO488.out); rintro e w8 ⟨v492, rfl, ho0, hb⟩; refine ⟨_, rfl, ?_⟩; replace HO0 := Aside0.mk (Kd.V_below (HW.zV HO0.out) hb); replace HO488 := Aside0.mk (Kd.V_below (HW.zV HO488.out) hb); have HO493 := Aside0.mk (Kd.V_lower (Kd.V_mono (ok' := fun k_ => (P0_ k_ ∨ w.heap.size ≤ k_)) ho0 (fun k_ hk_ => Or.elim hk_ (fun hs_ => hs_) (fun hn_ => (.inr (Nat.le_trans (below_size HW.zb) hn_))))) (below_size HW.zb)); replace HB := Aside0.mk (below_step HW.zb hb); (try clear hb); (try clear ho0)))
      refine bodyPost_ret (results_list (rs := [.tmp 2, .tmp 3, .tmp 4, .tmp 5]) rfl (by simp) (.tmp (.tmp (.tmp (.tmp .nil))))) rfl ?_
      exact ⟨_, rfl, HW.zV HO493.out, HW.zb⟩
  replace c5 := Bool.eq_false_iff.mpr c5; subst c5
  have H1 : (some (0, 0, l0, false)) = some (r1, r2, r3, r4) := by rw [if_neg (show ¬ (false = true) by decide)] at H; exact H
  clear H; have H := H1; clear H1
  as_aux_lemma =>
    simp only [Option.some.injEq, Prod.mk.injEq] at H
    obtain ⟨rfl, rfl, rfl, rfl⟩ := H
    go_enter Tryz.func81, Tryz.ntmps81
    go_wp2_with (first | ((with_reducible refine gate_callee (f := 93) rfl ?_); refine HW.gz (some 8) rfl rfl Tryz.func93 (by kernel_rfl) rfl #[.slice A0 l0.length c0] rfl ?_; (with_reducible refine (binaryutil_ReadU32.calls (fun k_ => (P0_ k_ ∨ w.heap.size ≤ k_)) _ _ l0 t485 t486 true _ ?side1 A2.out).mono ?_); (case side1 => exact HO0.out); rintro e w9 ⟨v487, rfl, ho0, hb⟩; refine ⟨_, rfl, ?_⟩; replace HO0 := Aside0.mk (Kd.V_below (HW.zV HO0.out) hb); have HO488 := Aside0.mk (Kd.V_lower (Kd.V_mono (ok' := fun k_ => (P0_ k_ ∨ w.heap.size ≤ k_)) ho0 (fun k_ hk_ => Or.elim hk_ (fun hs_ => hs_) (fun hn_ => (.inr (Nat.le_trans (below_size HW.zb) hn_))))) (below_size HW.zb)); replace HB := Aside0.mk (below_step HW.zb hb); (try clear hb); (try clear ho0); obtain ⟨Ao10, co10, eo10⟩ := Kd.V_slice HO488.out; subst eo10) | ((with_reducible refine gate_callee (f := 93) rfl ?_); refine HW.gz (some 17) rfl rfl Tryz.func93 (by kernel_rfl) rfl #[.slice Ao10 t486.length co10] rfl ?_; (with_reducible refine (binaryutil_ReadU32.calls (fun k_ => (P0_ k_ ∨ w.heap.size ≤ k_)) _ _ t486 t490 t491 false _ ?side1 A4.out).mono ?_); (case side1 => exact HO488.out); rintro e w11 ⟨v492, rfl, ho0, hb⟩; refine ⟨_, rfl, ?_⟩; replace HO0 := Aside0.mk (Kd.V_below (HW.zV HO0.out) hb); replace HB := Aside0.mk (below_step HW.zb hb); (try clear hb); (try clear ho0)))
    refine bodyPost_ret (results_list (rs := [.tmp 2, .tmp 3, .tmp 4, .tmp 5]) rfl (by simp) (.tmp (.tmp (.tmp (.tmp .nil))))) rfl ?_
    exact ⟨_, rfl, HW.zV HO0.out, HW.zb⟩
def bsoncore_Value_TimestampOK.f (a0_0 : Int) (l0_1 : List Int) : Option (Int × Int × Bool) := if a0_0 = 17 then ((bsoncore_ReadTimestamp.f l0_1).bind fun bt496 => (if bt496.2.2.2 = true then (some (bt496.1, bt496.2.1, true)) else (none))) else (some (0, 0, false))
theorem bsoncore_Value_TimestampOK.calls (a0_0 : Int) (A0_1 : Option Addr) (c0_1 : Nat) (l0_1 : List Int) (r1 : Int) (r2 : Int) (r3 : Bool) (w : World) (hr0_1 : Kd.C (Kd.int .u8) w A0_1 l0_1.length l0_1) (hc0_1 : l0_1.length ≤ c0_1) (h : bsoncore_Value_TimestampOK.f a0_0 l0_1 = some (r1, r2, r3)) :
    Calls Tryz.prog 56 #[.agg #[.int .u8 a0_0, .slice A0_1 l0_1.length c0_1]] w fun e w' => e = .returned (.tuple #[.int .u32 r1, .int .u32 r2, .bool r3]) ∧ Below w.heap.size w w' := by
  have hu92 := Tryz.underlying92; have HR0_1 := Aside0.mk hr0_1; have HC0_1 := Aside0.mk hc0_1; clear hr0_1 hc0_1; have HB := Aside0.mk (Below.refl w.heap.size w); have H : (if a0_0 = 17 then ((bsoncore_ReadTimestamp.f l0_1).bind fun bt496 => (if bt496.2.2.2 = true then (some (bt496.1, bt496.2.1, true)) else (none))) else (some (0, 0, false))) = some (r1, r2, r3) := h; clear h
  by_cases c2 : a0_0 = 17
  rotate_left
  · rw [if_neg c2] at H
    have c2b0 : (a0_0 == 17) = false := beq_eq_false_iff_ne.mpr c2; have c2b1 : (a0_0 != 17) = true := bne_iff_ne.mpr c2
    as_aux_lemma =>
      simp only [Option.some.injEq, Prod.mk.injEq] at H
      obtain ⟨rfl, rfl, rfl⟩ := H
      go_enter Tryz.func56, Tryz.ntmps56
      go_wp2_with (first | ((with_reducible refine gate_dst (N := 1) rfl ?_); refine box_event ?hg (N := 1) ?hd (cs := #[.int .u8 a0_0, .slice A0_1 l0_1.length c0_1]) (t := 92) ?hr ?_; (case hd => rfl); (case hg => rfl); (case hr => first | (go_simp; done) | (go_simp; rfl)); intro gb495 hg w8 hbox hb; have n0_ := Aside0.mk (below_step HW.zb hb); have n1_ := Aside0.mk (hbox); have n3_ := Aside0.mk ((by rw [hg]; exact (below_size HW.zb) : w.heap.size ≤ gb495)); clear HB; have HB := n0_; have BK495 := n1_; have GE495 := n3_; clear n0_ n1_ n3_; clear hb hbox hg; obtain ⟨hcz9_0, hcz9_1⟩ := HW.k2 BK495.out))
      go_ret3
      exact ⟨rfl, HW.zb⟩
  rw [if_pos c2] at H; have c2b0 : (a0_0 == 17) = true := beq_iff_eq.mpr c2; have c2b1 : (a0_0 != 17) = false := bne_eq_false_iff_eq.mpr c2; clear c2; replace H := Option.bind_eq_some_iff.mp H; obtain ⟨⟨t496, t497, t498, t501⟩, A30, H⟩ := H; replace H : (if t501 = true then (some (t496, t497, true)) else (none)) = some (r1, r2, r3) := H; have A3 := Aside0.mk A30; clear A30
  by_cases c4 : t501 = true
  rotate_left
  · replace c4 := Bool.eq_false_iff.mpr c4
    subst c4
    have H1 : (none) = some (r1, r2, r3) := by rw [if_neg (show ¬ (false = true) by decide)] at H; exact H
    clear H; have H := H1; clear H1
    exact absurd H (by simp)
  subst c4
  have H1 : (some (t496, t497, true)) = some (r1, r2, r3) := by rw [if_pos rfl] at H; exact H
  clear H; have H := H1; clear H1
  as_aux_lemma =>
    simp only [Option.some.injEq, Prod.mk.injEq] at H
    obtain ⟨rfl, rfl, rfl⟩ := H
    go_enter Tryz.func56, Tryz.ntmps56
    go_wp2_with (first | ((with_reducible refine gate_dst (N := 1) rfl ?_); refine box_event ?hg (N := 1) ?hd (cs := #[.int .u8 a0_0, .slice A0_1 l0_1.length c0_1]) (t := 92) ?hr ?_; (case hd => rfl); (case hg => rfl); (case hr => first | (go_simp; done) | (go_simp; rfl)); intro gb495 hg w5 hbox hb; have n0_ := Aside0.mk (below_step HW.zb hb); have n1_ := Aside0.mk (hbox); have n3_ := Aside0.mk ((by rw [hg]; exact (below_size HW.zb) : w.heap.size ≤ gb495)); clear HB; have HB := n0_; have BK495 := n1_; have GE495 := n3_; clear n0_ n1_ n3_; clear hb hbox hg; obtain ⟨hcz6_0, hcz6_1⟩ := HW.k2 BK495.out) | ((with_reducible refine gate_callee (f := 81) rfl ?_); refine HW.gz (some 11) rfl rfl Tryz.func81 (by kernel_rfl) rfl #[.slice A0_1 l0_1.length c0_1] rfl ?_; (with_reducible refine (bsoncore_ReadTimestamp.calls (fun k_ => k_ < w.heap.size) _ _ l0_1 t496 t497 t498 true _ ?side1 A3.out).mono ?_); (case side1 => exact Kd.V_mk HC0_1.out (Kd.F_below (Kd.C_F (Kd.heap_int .u8) HR0_1.out) HW.zb)); rintro e w7 ⟨v499, rfl, ho0, hb⟩; refine ⟨_, rfl, ?_⟩; have n2_ := Aside0.mk (below_step HW.zb hb); clear HB; have HB := n2_; clear n2_; (try clear hb); (try clear ho0)))
    go_ret3
    exact ⟨rfl, HW.zb⟩
def bson_RawValue_TimestampOK.f (a0_0 : Int) (l0_1 : List Int) : Option (Int × Int × Bool) := (bson_convertToCoreValue.f a0_0 l0_1).bind fun bt503 => ((bsoncore_Value_TimestampOK.f bt503.1 bt503.2).bind fun bt507 => (some (bt507.1, bt507.2.1, bt507.2.2)))
theorem bson_RawValue_TimestampOK.calls (a0_0 : Int) (A0_1 : Option Addr) (c0_1 : Nat) (l0_1 : List Int) (r1 : Int) (r2 : Int) (r3 : Bool) (w : World) (hr0_1 : Kd.C (Kd.int .u8) w A0_1 l0_1.length l0_1) (hc0_1 : l0_1.length ≤ c0_1) (h : bson_RawValue_TimestampOK.f a0_0 l0_1 = some (r1, r2, r3)) :
    Calls Tryz.prog 33 #[.agg #[.int .u8 a0_0, .slice A0_1 l0_1.length c0_1]] w fun e w' => e = .returned (.tuple #[.int .u32 r1, .int .u32 r2, .bool r3]) ∧ Below w.heap.size w w' := by
  have hu41 := Tryz.underlying41; have HR0_1 := Aside0.mk hr0_1; have HC0_1 := Aside0.mk hc0_1; clear hr0_1 hc0_1; have HB := Aside0.mk (Below.refl w.heap.size w); have H : ((bson_convertToCoreValue.f a0_0 l0_1).bind fun bt503 => ((bsoncore_Value_TimestampOK.f bt503.1 bt503.2).bind fun bt507 => (some (bt507.1, bt507.2.1, bt507.2.2)))) = some (r1, r2, r3) := h; clear h; replace H := Option.bind_eq_some_iff.mp H; obtain ⟨⟨t503, t504⟩, A20, H⟩ := H; replace H : ((bsoncore_Value_TimestampOK.f t503 t504).bind fun bt507 => (some (bt507.1, bt507.2.1, bt507.2.2))) = some (r1, r2, r3) := H; have A2 := Aside0.mk A20; clear A20; replace H := Option.bind_eq_some_iff.mp H; obtain ⟨⟨t507, t508, t509⟩, A30, H⟩ := H; replace H : (some (t507, t508, t509)) = some (r1, r2, r3) := H; have A3 := Aside0.mk A30; clear A30
  as_aux_lemma =>
    simp only [Option.some.injEq, Prod.mk.injEq] at H
    obtain ⟨rfl, rfl, rfl⟩ := H
    go_enter Tryz.func33, Tryz.ntmps33
    go_wp2_with (first | ((with_reducible refine gate_dst (N := 1) rfl ?_); refine box_event ?hg (N := 1) ?hd (cs := #[.int .u8 a0_0, .slice A0_1 l0_1.length c0_1]) (t := 41) ?hr ?_; (case hd => rfl); (case hg => rfl); (case hr => first | (go_simp; done) | (go_simp; rfl)); intro gb502 hg w4 hbox hb; have n0_ := Aside0.mk (below_step HW.zb hb); have n1_ := Aside0.mk (hbox); have n2_ := Aside0.mk ((by rw [hg]; exact (below_size HW.zb) : w.heap.size ≤ gb502)); have n3_ := Aside0.mk ((by rw [hg]; exact (below_size HW.zb) : w.heap.size ≤ gb502)); clear HB; have HB := n0_; have BK502 := n1_; have GW502 := n2_; have GE502 := n3_; clear n0_ n1_ n2_ n3_; clear hb hbox hg; obtain ⟨hcz5_0, hcz5_1⟩ := HW.k2 BK502.out) | ((with_reducible refine gate_callee (f := 41) rfl ?_); refine HW.gz (some 6) rfl rfl Tryz.func41 (by kernel_rfl) rfl #[.agg #[.int .u8 a0_0, .slice A0_1 l0_1.length c0_1]] rfl ?_; (with_reducible refine (bson_convertToCoreValue.calls a0_0 (fun k_ => k_ < w.heap.size) _ _ l0_1 t503 t504 _ ?side1 A2.out).mono ?_); (case side1 => exact Kd.V_mk HC0_1.out (Kd.F_below (Kd.C_F (Kd.heap_int .u8) HR0_1.out) HW.zb)); rintro e w6 ⟨v505, rfl, ho0, hb⟩; refine ⟨_, rfl, ?_⟩; have n0_ := Aside0.mk (Kd.V_lower (Kd.V_mono (ok' := fun k_ => k_ ≠ gb502) ho0 (fun k_ hk_ => Or.elim hk_ (fun hs_ => fun e_ => Nat.not_le.2 hs_ (by rw [e_]; exact GW502.out)) (fun hn_ => (Kd.freshB (g := gb502) (o := .cells #[.int .u8 a0_0, .slice A0_1 l0_1.length c0_1] 41 (0, 0)) (HW.zB BK502.out) k_ hn_)))) (below_size HW.zb)); have n2_ := Aside0.mk (below_step HW.zb hb); clear HB; have HO506 := n0_; have HB := n2_; clear n0_ n2_; (try clear hb); (try clear ho0); obtain ⟨Ao7, co7, eo7⟩ := Kd.V_slice HO506.out; subst eo7) | ((with_reducible refine gate_callee (f := 56) rfl ?_); refine HW.gz (some 7) rfl rfl Tryz.func56 (by kernel_rfl) rfl #[.agg #[.int .u8 t503, .slice Ao7 t504.length co7]] rfl ?_; (with_reducible refine (bsoncore_Value_TimestampOK.calls t503 _ _ t504 t507 t508 t509 _ ?side1 ?side2 A3.out).mono ?_); (case side1 => repeat (first | exact (Kd.V_reads' HO506.out).2.2 | (with_reducible refine Kd.C_alloc ?_ _) | (with_reducible refine Kd.C_drewN ?_ _) | (with_reducible refine Kd.C_drew ?_))); (case side2 => exact (Kd.V_reads' HO506.out).2.1); rintro e w8 ⟨rfl, hb⟩; refine ⟨_, rfl, ?_⟩; have n2_ := Aside0.mk (below_step HW.zb hb); clear HB; have HB := n2_; clear n2_; (try clear hb)))
    go_ret3
    exact ⟨rfl, HW.zb⟩
def bsoncore_ReadInt64.f (l0 : List Int) : Option (Int × List Int × Bool) := (binaryutil_ReadI64.f l0).bind fun bt510 => (some (bt510.1, bt510.2.1, bt510.2.2))
theorem bsoncore_ReadInt64.calls (P0_ : Nat → Prop) (A0 : Option Addr) (c0 : Nat) (l0 : List Int) (r1 : Int) (r2 : List Int) (r3 : Bool) (w : World) (hs0 : Kd.V (Kd.int .u8) 5 w w.heap.size (fun k_ => P0_ k_) (.slice A0 l0.length c0) l0) (h : bsoncore_ReadInt64.f l0 = some (r1, r2, r3)) :
    Calls Tryz.prog 82 #[.slice A0 l0.length c0] w fun e w' => ∃ v1_ : Value, e = .returned (.tuple #[.int .i64 r1, v1_, .bool r3]) ∧ Kd.V (Kd.int .u8) 5 w' w.heap.size (fun k_ => (P0_ k_ ∨ w.heap.size ≤ k_)) v1_ r2 ∧ Below w.heap.size w w' := by
  have HO0 := Aside0.mk (show Kd.V (Kd.int .u8) 5 w w.heap.size (fun k_ => (P0_ k_ ∨ w.heap.size ≤ k_)) (.slice A0 l0.length c0) l0 from Kd.V_mono hs0 (fun k_ hk => .inl hk)); have HB := Aside0.mk (Below.refl w.heap.size w); have H : ((binaryutil_ReadI64.f l0).bind fun bt510 => (some (bt510.1, bt510.2.1, bt510.2.2))) = some (r1, r2, r3) := h; clear h; replace H := Option.bind_eq_some_iff.mp H; obtain ⟨⟨t510, t511, t514⟩, A20, H⟩ := H; replace H : (some (t510, t511, t514)) = some (r1, r2, r3) := H; have A2 := Aside0.mk A20; clear A20
  as_aux_lemma =>
    simp only [Option.some.injEq, Prod.mk.injEq] at H
    obtain ⟨rfl, rfl, rfl⟩ := H
    go_enter Tryz.func82, Tryz.ntmps82
    go_wp2_with (first | ((with_reducible refine gate_callee (f := 90) rfl ?_); refine HW.gz (some 6) rfl rfl Tryz.func90 (by kernel_rfl) rfl #[.slice A0 l0.length c0] rfl ?_; (with_reducible refine (binaryutil_ReadI64.calls (fun k_ => (P0_ k_ ∨ w.heap.size ≤ k_)) _ _ l0 t510 t511 t514 _ ?side1 A2.out).mono ?_); (case side1 => exact HO0.out); rintro e w3 ⟨v512, rfl, ho0, hb⟩; refine ⟨_, rfl, ?_⟩; have HO513 := Aside0.mk (Kd.V_lower (Kd.V_mono (ok' := fun k_ => (P0_ k_ ∨ w.heap.size ≤ k_)) ho0 (fun k_ hk_ => Or.elim hk_ (fun hs_ => hs_) (fun hn_ => (.inr (Nat.le_trans (below_size HW.zb) hn_))))) (below_size HW.zb)); replace HB := Aside0.mk (below_step HW.zb hb); (try clear hb); (try clear ho0)))
    go_ret3
    exact ⟨_, rfl, HW.zV HO513.out, HW.zb⟩
def bsoncore_Value_Int64OK.f (a0_0 : Int) (l0_1 : List Int) : Option (Int × Bool) := if a0_0 = 18 then ((bsoncore_ReadInt64.f l0_1).bind fun bt516 => (if bt516.2.2 = true then (some (bt516.1, true)) else (none))) else (some (0, false))
theorem bsoncore_Value_Int64OK.calls (a0_0 : Int) (A0_1 : Option Addr) (c0_1 : Nat) (l0_1 : List Int) (r1 : Int) (r2 : Bool) (w : World) (hr0_1 : Kd.C (Kd.int .u8) w A0_1 l0_1.length l0_1) (hc0_1 : l0_1.length ≤ c0_1) (h : bsoncore_Value_Int64OK.f a0_0 l0_1 = some (r1, r2)) :
    Calls Tryz.prog 57 #[.agg #[.int .u8 a0_0, .slice A0_1 l0_1.length c0_1]] w fun e w' => e = .returned (.tuple #[.int .i64 r1, .bool r2]) ∧ Below w.heap.size w w' := by
  have hu92 := Tryz.underlying92; have HR0_1 := Aside0.mk hr0_1; have HC0_1 := Aside0.mk hc0_1; clear hr0_1 hc0_1; have HB := Aside0.mk (Below.refl w.heap.size w); have H : (if a0_0 = 18 then ((bsoncore_ReadInt64.f l0_1).bind fun bt516 => (if bt516.2.2 = true then (some (bt516.1, true)) else (none))) else (some (0, false))) = some (r1, r2) := h; clear h
  by_cases c2 : a0_0 = 18
  rotate_left
  · rw [if_neg c2] at H
    have c2b0 : (a0_0 == 18) = false := beq_eq_false_iff_ne.mpr c2; have c2b1 : (a0_0 != 18) = true := bne_iff_ne.mpr c2
    as_aux_lemma =>
      simp only [Option.some.injEq, Prod.mk.injEq] at H
      obtain ⟨rfl, rfl⟩ := H
      go_enter Tryz.func57, Tryz.ntmps57
      go_wp2_with (first | ((with_reducible refine gate_dst (N := 1) rfl ?_); refine box_event ?hg (N := 1) ?hd (cs := #[.int .u8 a0_0, .slice A0_1 l0_1.length c0_1]) (t := 92) ?hr ?_; (case hd => rfl); (case hg => rfl); (case hr => first | (go_simp; done) | (go_simp; rfl)); intro gb515 hg w8 hbox hb; have n0_ := Aside0.mk (below_step HW.zb hb); have n1_ := Aside0.mk (hbox); have n3_ := Aside0.mk ((by rw [hg]; exact (below_size HW.zb) : w.heap.size ≤ gb515)); clear HB; have HB := n0_; have BK515 := n1_; have GE515 := n3_; clear n0_ n1_ n3_; clear hb hbox hg; obtain ⟨hcz9_0, hcz9_1⟩ := HW.k2 BK515.out))
      go_ret2
      exact ⟨rfl, HW.zb⟩
  rw [if_pos c2] at H; have c2b0 : (a0_0 == 18) = true := beq_iff_eq.mpr c2; have c2b1 : (a0_0 != 18) = false := bne_eq_false_iff_eq.mpr c2; clear c2; replace H := Option.bind_eq_some_iff.mp H; obtain ⟨⟨t516, t517, t520⟩, A30, H⟩ := H; replace H : (if t520 = true then (some (t516, true)) else (none)) = some (r1, r2) := H; have A3 := Aside0.mk A30; clear A30
  by_cases c4 : t520 = true
  rotate_left
  · replace c4 := Bool.eq_false_iff.mpr c4
    subst c4
    have H1 : (none) = some (r1, r2) := by rw [if_neg (show ¬ (false = true) by decide)] at H; exact H
    clear H; have H := H1; clear H1
    exact absurd H (by simp)
  subst c4
  have H1 : (some (t516, true)) = some (r1, r2) := by rw [if_pos rfl] at H; exact H
  clear H; have H := H1; clear H1
  as_aux_lemma =>
    simp only [Option.some.injEq, Prod.mk.injEq] at H
    obtain ⟨rfl, rfl⟩ := H
    go_enter Tryz.func57, Tryz.ntmps57
    go_wp2_with (first | ((with_reducible refine gate_dst (N := 1) rfl ?_); refine box_event ?hg (N := 1) ?hd (cs := #[.int .u8 a0_0, .slice A0_1 l0_1.length c0_1]) (t := 92) ?hr ?_; (case hd => rfl); (case hg => rfl); (case hr => first | (go_simp; done) | (go_simp; rfl)); intro gb515 hg w5 hbox hb; have n0_ := Aside0.mk (below_step HW.zb hb); have n1_ := Aside0.mk (hbox); have n3_ := Aside0.mk ((by rw [hg]; exact (below_size HW.zb) : w.heap.size ≤ gb515)); clear HB; have HB := n0_; have BK515 := n1_; have GE515 := n3_; clear n0_ n1_ n3_; clear hb hbox hg; obtain ⟨hcz6_0, hcz6_1⟩ := HW.k2 BK515.out) | ((with_reducible refine gate_callee (f := 82) rfl ?_); refine HW.gz (some 13) rfl rfl Tryz.func82 (by kernel_rfl) rfl #[.slice A0_1 l0_1.length c0_1] rfl ?_; (with_reducible refine (bsoncore_ReadInt64.calls (fun k_ => k_ < w.heap.size) _ _ l0_1 t516 t517 true _ ?side1 A3.out).mono ?_); (case side1 => exact Kd.V_mk HC0_1.out (Kd.F_below (Kd.C_F (Kd.heap_int .u8) HR0_1.out) HW.zb)); rintro e w7 ⟨v518, rfl, ho0, hb⟩; refine ⟨_, rfl, ?_⟩; have n2_ := Aside0.mk (below_step HW.zb hb); clear HB; have HB := n2_; clear n2_; (try clear hb); (try clear ho0)))
    go_ret2
    exact ⟨rfl, HW.zb⟩
def bson_RawValue_Int64OK.f (a0_0 : Int) (l0_1 : List Int) : Option (Int × Bool) := (bson_convertToCoreValue.f a0_0 l0_1).bind fun bt522 => ((bsoncore_Value_Int64OK.f bt522.1 bt522.2).bind fun bt526 => (some (bt526.1, bt526.2)))
theorem bson_RawValue_Int64OK.calls (a0_0 : Int) (A0_1 : Option Addr) (c0_1 : Nat) (l0_1 : List Int) (r1 : Int) (r2 : Bool) (w : World) (hr0_1 : Kd.C (Kd.int .u8) w A0_1 l0_1.length l0_1) (hc0_1 : l0_1.length ≤ c0_1) (h : bson_RawValue_Int64OK.f a0_0 l0_1 = some (r1, r2)) :
    Calls Tryz.prog 34 #[.agg #[.int .u8 a0_0, .slice A0_1 l0_1.length c0_1]] w fun e w' => e = .returned (.tuple #[.int .i64 r1, .bool r2]) ∧ Below w.heap.size w w' := by
  have hu41 := Tryz.underlying41; have HR0_1 := Aside0.mk hr0_1; have HC0_1 := Aside0.mk hc0_1; clear hr0_1 hc0_1; have HB := Aside0.mk (Below.refl w.heap.size w); have H : ((bson_convertToCoreValue.f a0_0 l0_1).bind fun bt522 => ((bsoncore_Value_Int64OK.f bt522.1 bt522.2).bind fun bt526 => (some (bt526.1, bt526.2)))) = some (r1, r2) := h; clear h; replace H := Option.bind_eq_some_iff.mp H; obtain ⟨⟨t522, t523⟩, A20, H⟩ := H; replace H : ((bsoncore_Value_Int64OK.f t522 t523).bind fun bt526 => (some (bt526.1, bt526.2))) = some (r1, r2) := H; have A2 := Aside0.mk A20; clear A20; replace H := Option.bind_eq_some_iff.mp H; obtain ⟨⟨t526, t527⟩, A30, H⟩ := H; replace H : (some (t526, t527)) = some (r1, r2) := H; have A3 := Aside0.mk A30; clear A30
  as_aux_lemma =>
    simp only [Option.some.injEq, Prod.mk.injEq] at H
    obtain ⟨rfl, rfl⟩ := H
    go_enter Tryz.func34, Tryz.ntmps34
    go_wp2_with (first | ((with_reducible refine gate_dst (N := 1) rfl ?_); refine box_event ?hg (N := 1) ?hd (cs := #[.int .u8 a0_0, .slice A0_1 l0_1.length c0_1]) (t := 41) ?hr ?_; (case hd => rfl); (case hg => rfl); (case hr => first | (go_simp; done) | (go_simp; rfl)); intro gb521 hg w4 hbox hb; have n0_ := Aside0.mk (below_step HW.zb hb); have n1_ := Aside0.mk (hbox); have n2_ := Aside0.mk ((by rw [hg]; exact (below_size HW.zb) : w.heap.size ≤ gb521)); have n3_ := Aside0.mk ((by rw [hg]; exact (below_size HW.zb) : w.heap.size ≤ gb521)); clear HB; have HB := n0_; have BK521 := n1_; have GW521 := n2_; have GE521 := n3_; clear n0_ n1_ n2_ n3_; clear hb hbox hg; obtain ⟨hcz5_0, hcz5_1⟩ := HW.k2 BK521.out) | ((with_reducible refine gate_callee (f := 41) rfl ?_); refine HW.gz (some 5) rfl rfl Tryz.func41 (by kernel_rfl) rfl #[.agg #[.int .u8 a0_0, .slice A0_1 l0_1.length c0_1]] rfl ?_; (with_reducible refine (bson_convertToCoreValue.calls a0_0 (fun k_ => k_ < w.heap.size) _ _ l0_1 t522 t523 _ ?side1 A2.out).mono ?_); (case side1 => exact Kd.V_mk HC0_1.out (Kd.F_below (Kd.C_F (Kd.heap_int .u8) HR0_1.out) HW.zb)); rintro e w6 ⟨v524, rfl, ho0, hb⟩; refine ⟨_, rfl, ?_⟩; have n0_ := Aside0.mk (Kd.V_lower (Kd.V_mono (ok' := fun k_ => k_ ≠ gb521) ho0 (fun k_ hk_ => Or.elim hk_ (fun hs_ => fun e_ => Nat.not_le.2 hs_ (by rw [e_]; exact GW521.out)) (fun hn_ => (Kd.freshB (g := gb521) (o := .cells #[.int .u8 a0_0, .slice A0_1 l0_1.length c0_1] 41 (0, 0)) (HW.zB BK521.out) k_ hn_)))) (below_size HW.zb)); have n2_ := Aside0.mk (below_step HW.zb hb); clear HB; have HO525 := n0_; have HB := n2_; clear n0_ n2_; (try clear hb); (try clear ho0); obtain ⟨Ao7, co7, eo7⟩ := Kd.V_slice HO525.out; subst eo7) | ((with_reducible refine gate_callee (f := 57) rfl ?_); refine HW.gz (some 6) rfl rfl Tryz.func57 (by kernel_rfl) rfl #[.agg #[.int .u8 t522, .slice Ao7 t523.length co7]] rfl ?_; (with_reducible refine (bsoncore_Value_Int64OK.calls t522 _ _ t523 t526 t527 _ ?side1 ?side2 A3.out).mono ?_); (case side1 => repeat (first | exact (Kd.V_reads' HO525.out).2.2 | (with_reducible refine Kd.C_alloc ?_ _) | (with_reducible refine Kd.C_drewN ?_ _) | (with_reducible refine Kd.C_drew ?_))); (case side2 => exact (Kd.V_reads' HO525.out).2.1); rintro e w8 ⟨rfl, hb⟩; refine ⟨_, rfl, ?_⟩; have n2_ := Aside0.mk (below_step HW.zb hb); clear HB; have HB := n2_; clear n2_; (try clear hb)))
    go_ret2
    exact ⟨rfl, HW.zb⟩
def bsoncore_ReadDecimal128.f (l0 : List Int) : Option (Int × Int × List Int × Bool) := (binaryutil_ReadU64.f l0).bind fun bt528 => (if bt528.2.2 = true then ((binaryutil_ReadU64.f bt528.2.1).bind fun bt533 => (if bt533.2.2 = true then (some (bt533.1, bt528.1, bt533.2.1, true)) else (some (0, 0, l0, false)))) else (some (0, 0, l0, false)))
theorem bsoncore_ReadDecimal128.calls (P0_ : Nat → Prop) (A0 : Option Addr) (c0 : Nat) (l0 : List Int) (r1 : Int) (r2 : Int) (r3 : List Int) (r4 : Bool) (w : World) (hs0 : Kd.V (Kd.int .u8) 5 w w.heap.size (fun k_ => P0_ k_) (.slice A0 l0.length c0) l0) (h : bsoncore_ReadDecimal128.f l0 = some (r1, r2, r3, r4)) :
    Calls Tryz.prog 83 #[.slice A0 l0.length c0] w fun e w' => ∃ v2_ : Value, e = .returned (.tuple #[.int .u64 r1, .int .u64 r2, v2_, .bool r4]) ∧ Kd.V (Kd.int .u8) 5 w' w.heap.size (fun k_ => (P0_ k_ ∨ w.heap.size ≤ k_)) v2_ r3 ∧ Below w.heap.size w w' := by
  have HO0 := Aside0.mk (show Kd.V (Kd.int .u8) 5 w w.heap.size (fun k_ => (P0_ k_ ∨ w.heap.size ≤ k_)) (.slice A0 l0.length c0) l0 from Kd.V_mono hs0 (fun k_ hk => .inl hk)); have HB := Aside0.mk (Below.refl w.heap.size w); have H : ((binaryutil_ReadU64.f l0).bind fun bt528 => (if bt528.2.2 = true then ((binaryutil_ReadU64.f bt528.2.1).bind fun bt533 => (if bt533.2.2 = true then (some (bt533.1, bt528.1, bt533.2.1, true)) else (some (0, 0, l0, false)))) else (some (0, 0, l0, false)))) = some (r1, r2, r3, r4) := h; clear h; replace H := Option.bind_eq_some_iff.mp H; obtain ⟨⟨t528, t529, t532⟩, A20, H⟩ := H; replace H : (if t532 = true then ((binaryutil_ReadU64.f t529).bind fun bt533 => (if bt533.2.2 = true then (some (bt533.1, t528, bt533.2.1, true)) else (some (0, 0, l0, false)))) else (some (0, 0, l0, false))) = some (r1, r2, r3, r4) := H; have A2 := Aside0.mk A20; clear A20
  by_cases c3 : t532 = true
  rotate_left
  · replace c3 := Bool.eq_false_iff.mpr c3
    subst c3
    have H1 : (some (0, 0, l0, false)) = some (r1, r2, r3, r4) := by rw [if_neg (show ¬ (false = true) by decide)] at H; exact H
    clear H; have H := H1; clear H1
    as_aux_lemma =>
      simp only [Option.some.injEq, Prod.mk.injEq] at H
      obtain ⟨rfl, rfl, rfl, rfl⟩ := H
      go_enter Tryz.func83, Tryz.ntmps83
      go_wp2_with (first | ((with_reducible refine gate_callee (f := 85) rfl ?_); refine HW.gz (some 8) rfl rfl Tryz.func85 (by kernel_rfl) rfl #[.slice A0 l0.length c0] rfl ?_; (with_reducible refine (binaryutil_ReadU64.calls (fun k_ => (P0_ k_ ∨ w.heap.size ≤ k_)) _ _ l0 t528 t529 false _ ?side1 A2.out).mono ?_); (case side1 => exact HO0.out); rintro e w12 ⟨v530, rfl, ho0, hb⟩; refine ⟨_, rfl, ?_⟩; replace HO0 := Aside0.mk (Kd.V_below (HW.zV HO0.out) hb); have HO531 := Aside0.mk (Kd.V_lower (Kd.V_mono (ok' := fun k_ => (P0_ k_ ∨ w.heap.size ≤ k_)) ho0 (fun k_ hk_ => Or.elim hk_ (fun hs_ => hs_) (fun hn_ => (.inr (Nat.le_trans (below_size HW.zb) hn_))))) (below_size HW.zb)); replace HB := Aside0.mk (below_step HW.zb hb); (try clear hb); (try clear ho0)))
      refine bodyPost_ret (results_list (rs := [.tmp 2, .tmp 3, .tmp 4, .tmp 5]) rfl (by simp) (.tmp (.tmp (.tmp (.tmp .nil))))) rfl ?_
      exact ⟨_, rfl, HW.zV HO0.out, HW.zb⟩
  subst c3
  have H1 : ((binaryutil_ReadU64.f t529).bind fun bt533 => (if bt533.2.2 = true then (some (bt533.1, t528, bt533.2.1, true)) else (some (0, 0, l0, false)))) = some (r1, r2, r3, r4) := by rw [if_pos rfl] at H; exact H
  clear H; have H := H1; clear H1; replace H := Option.bind_eq_some_iff.mp H; obtain ⟨⟨t533, t534, t537⟩, A40, H⟩ := H; replace H : (if t537 = true then (some (t533, t528, t534, true)) else (some (0, 0, l0, false))) = some (r1, r2, r3, r4) := H; have A4 := Aside0.mk A40; clear A40
  by_cases c5 : t537 = true
  · subst c5
    have H1 : (some (t533, t528, t534, true)) = some (r1, r2, r3, r4) := by rw [if_pos rfl] at H; exact H
    clear H; have H := H1; clear H1
    as_aux_lemma =>
      simp only [Option.some.injEq, Prod.mk.injEq] at H
      obtain ⟨rfl, rfl, rfl, rfl⟩ := H
      go_enter Tryz.func83, Tryz.ntmps83
      go_wp2_with (first | ((with_reducible refine gate_callee (f := 85) rfl ?_); refine HW.gz (some 8) rfl rfl Tryz.func85 (by kernel_rfl) rfl #[.slice A0 l0.length c0] rfl ?_; (with_reducible refine (binaryutil_ReadU64.calls (fun k_ => (P0_ k_ ∨ w.heap.size ≤ k_)) _ _ l0 t528 t529 true _ ?side1 A2.out).mono ?_); (case side1 => exact HO0.out); rintro e w6 ⟨v530, rfl, ho0, hb⟩; refine ⟨_, rfl, ?_⟩; replace HO0 := Aside0.mk (Kd.V_below (HW.zV HO0.out) hb); have HO531 := Aside0.mk (Kd.V_lower (Kd.V_mono (ok' := fun k_ => (P0_ k_ ∨ w.heap.size ≤ k_)) ho0 (fun k_ hk_ => Or.elim hk_ (fun hs_ => hs_) (fun hn_ => (.inr (Nat.le_trans (below_size HW.zb) hn_))))) (below_size HW.zb)); replace HB := Aside0.mk (below_step HW.zb hb); (try clear hb); (try clear ho0); obtain ⟨Ao7, co7, eo7⟩ := Kd.V_slice HO531.out; subst eo7) | ((with_reducible refine gate_callee (f := 85) rfl ?_); refine HW.gz (some 17) rfl rfl Tryz.func85 (by kernel_rfl) rfl #[.slice Ao7 t529.length co7] rfl ?_; (with_reducible refine (binaryutil_ReadU64.calls (fun k_ => (P0_ k_ ∨ w.heap.size ≤ k_)) _ _ t529 t533 t534 true _ ?side1 A4.out).mono ?_); (case side1 => exact HO531.out); rintro e w8 ⟨v535, rfl, ho0, hb⟩; refine ⟨_, rfl, ?_⟩; replace HO0 := Aside0.mk (Kd.V_below (HW.zV HO0.out) hb); replace HO531 := Aside0.mk (Kd.V_below (HW.zV HO531.out) hb); have HO536 := Aside0.mk (Kd.V_lower (Kd.V_mono (ok' := fun k_ => (P0_ k_ ∨ w.heap.size ≤ k_)) ho0 (fun k_ hk_ => Or.elim hk_ (fun hs_ => hs_) (fun hn_ => (.inr (Nat.le_trans (below_size HW.zb) hn_))))) (below_size HW.zb)); replace HB := Aside0.mk (below_step HW.zb hb); (try clear hb); (try clear ho0)))
      refine bodyPost_ret (results_list (rs := [.tmp 2, .tmp 3, .tmp 4, .tmp 5]) rfl (by simp) (.tmp (.tmp (.tmp (.tmp .nil))))) rfl ?_
      exact ⟨_, rfl, HW.zV HO536.out, HW.zb⟩
  replace c5 := Bool.eq_false_iff.mpr c5; subst c5
  have H1 : (some (0, 0, l0, false)) = some (r1, r2, r3, r4) := by rw [if_neg (show ¬ (false = true) by decide)] at H; exact H
  clear H; have H := H1; clear H1
  as_aux_lemma =>
    simp only [Option.some.injEq, Prod.mk.injEq] at H
    obtain ⟨rfl, rfl, rfl, rfl⟩ := H
    go_enter Tryz.func83, Tryz.ntmps83
    go_wp2_with (first | ((with_reducible refine gate_callee (f := 85) rfl ?_); refine HW.gz (some 8) rfl rfl Tryz.func85 (by kernel_rfl) rfl #[.slice A0 l0.length c0] rfl ?_; (with_reducible refine (binaryutil_ReadU64.calls (fun k_ => (P0_ k_ ∨ w.heap.size ≤ k_)) _ _ l0 t528 t529 true _ ?side1 A2.out).mono ?_); (case side1 => exact HO0.out); rintro e w9 ⟨v530, rfl, ho0, hb⟩; refine ⟨_, rfl, ?_⟩; replace HO0 := Aside0.mk (Kd.V_below (HW.zV HO0.out) hb); have HO531 := Aside0.mk (Kd.V_lower (Kd.V_mono (ok' := fun k_ => (P0_ k_ ∨ w.heap.size ≤ k_)) ho0 (fun k_ hk_ => Or.elim hk_ (fun hs_ => hs_) (fun hn_ => (.inr (Nat.le_trans (below_size HW.zb) hn_))))) (below_size HW.zb)); replace HB := Aside0.mk (below_step HW.zb hb); (try clear hb); (try clear ho0); obtain ⟨Ao10, co10, eo10⟩ := Kd.V_slice HO531.out; subst eo10) | ((with_reducible refine gate_callee (f := 85) rfl ?_); refine HW.gz (some 17) rfl rfl Tryz.func85 (by kernel_rfl) rfl #[.slice Ao10 t529.length co10] rfl ?_; (with_reducible refine (binaryutil_ReadU64.calls (fun k_ => (P0_ k_ ∨ w.heap.size ≤ k_)) _ _ t529 t533 t534 false _ ?side1 A4.out).mono ?_); (case side1 => exact HO531.out); rintro e w11 ⟨v535, rfl, ho0, hb⟩; refine ⟨_, rfl, ?_⟩; replace HO0 := Aside0.mk (Kd.V_below (HW.zV HO0.out) hb); replace HB := Aside0.mk (below_step HW.zb hb); (try clear hb); (try clear ho0)))
    refine bodyPost_ret (results_list (rs := [.tmp 2, .tmp 3, .tmp 4, .tmp 5]) rfl (by simp) (.tmp (.tmp (.tmp (.tmp .nil))))) rfl ?_
    exact ⟨_, rfl, HW.zV HO0.out, HW.zb⟩
def bsoncore_Value_Decimal128OK.f (a0_0 : Int) (l0_1 : List Int) : Option (Int × Int × Bool) := if a0_0 = 19 then ((bsoncore_ReadDecimal128.f l0_1).bind fun bt539 => (if bt539.2.2.2 = true then (some (bt539.1, bt539.2.1, true)) else (none))) else (some (0, 0, false))
theorem bsoncore_Value_Decimal128OK.calls (a0_0 : Int) (A0_1 : Option Addr) (c0_1 : Nat) (l0_1 : List Int) (r1 : Int) (r2 : Int) (r3 : Bool) (w : World) (hr0_1 : Kd.C (Kd.int .u8) w A0_1 l0_1.length l0_1) (hc0_1 : l0_1.length ≤ c0_1) (h : bsoncore_Value_Decimal128OK.f a0_0 l0_1 = some (r1, r2, r3)) :
    Calls Tryz.prog 58 #[.agg #[.int .u8 a0_0, .slice A0_1 l0_1.length c0_1]] w fun e w' => e = .returned (.tuple #[.int .u64 r1, .int .u64 r2, .bool r3]) ∧ Below w.heap.size w w' := by
  have hu92 := Tryz.underlying92; have HR0_1 := Aside0.mk hr0_1; have HC0_1 := Aside0.mk hc0_1; clear hr0_1 hc0_1; have HB := Aside0.mk (Below.refl w.heap.size w); have H : (if a0_0 = 19 then ((bsoncore_ReadDecimal128.f l0_1).bind fun bt539 => (if bt539.2.2.2 = true then (some (bt539.1, bt539.2.1, true)) else (none))) else (some (0, 0, false))) = some (r1, r2, r3) := h; clear h
  by_cases c2 : a0_0 = 19
  rotate_left
  · rw [if_neg c2] at H
    have c2b0 : (a0_0 == 19) = false := beq_eq_false_iff_ne.mpr c2; have c2b1 : (a0_0 != 19) = true := bne_iff_ne.mpr c2
    as_aux_lemma =>
      simp only [Option.some.injEq, Prod.mk.injEq] at H
      obtain ⟨rfl, rfl, rfl⟩ := H
      go_enter Tryz.func58, Tryz.ntmps58
      go_wp2_with (first | ((with_reducible refine gate_dst (N := 1) rfl ?_); refine box_event ?hg (N := 1) ?hd (cs := #[.int .u8 a0_0, .slice A0_1 l0_1.length c0_1]) (t := 92) ?hr ?_; (case hd => rfl); (case hg => rfl); (case hr => first | (go_simp; done) | (go_simp; rfl)); intro gb538 hg w8 hbox hb; have n0_ := Aside0.mk (below_step HW.zb hb); have n1_ := Aside0.mk (hbox); have n3_ := Aside0.mk ((by rw [hg]; exact (below_size HW.zb) : w.heap.size ≤ gb538)); clear HB; have HB := n0_; have BK538 := n1_; have GE538 := n3_; clear n0_ n1_ n3_; clear hb hbox hg; obtain ⟨hcz9_0, hcz9_1⟩ := HW.k2 BK538.out))
      go_ret3
      exact ⟨rfl, HW.zb⟩
  rw [if_pos c2] at H; have c2b0 : (a0_0 == 19) = true := beq_iff_eq.mpr c2; have c2b1 : (a0_0 != 19) = false := bne_eq_false_iff_eq.mpr c2; clear c2; replace H := Option.bind_eq_some_iff.mp H; obtain ⟨⟨t539, t540, t541, t544⟩, A30, H⟩ := H; replace H : (if t544 = true then (some (t539, t540, true)) else (none)) = some (r1, r2, r3) := H; have A3 := Aside0.mk A30; clear A30
  by_cases c4 : t544 = true
  rotate_left
  · replace c4 := Bool.eq_false_iff.mpr c4
    subst c4
    have H1 : (none) = some (r1, r2, r3) := by rw [if_neg (show ¬ (false = true) by decide)] at H; exact H
    clear H; have H := H1; clear H1
    exact absurd H (by simp)
  subst c4
  have H1 : (some (t539, t540, true)) = some (r1, r2, r3) := by rw [if_pos rfl] at H; exact H
  clear H; have H := H1; clear H1
  as_aux_lemma =>
    simp only [Option.some.injEq, Prod.mk.injEq] at H
    obtain ⟨rfl, rfl, rfl⟩ := H
    go_enter Tryz.func58, Tryz.ntmps58
    go_wp2_with (first | ((with_reducible refine gate_dst (N := 1) rfl ?_); refine box_event ?hg (N := 1) ?hd (cs := #[.int .u8 a0_0, .slice A0_1 l0_1.length c0_1]) (t := 92) ?hr ?_; (case hd => rfl); (case hg => rfl); (case hr => first | (go_simp; done) | (go_simp; rfl)); intro gb538 hg w5 hbox hb; have n0_ := Aside0.mk (below_step HW.zb hb); have n1_ := Aside0.mk (hbox); have n3_ := Aside0.mk ((by rw [hg]; exact (below_size HW.zb) : w.heap.size ≤ gb538)); clear HB; have HB := n0_; have BK538 := n1_; have GE538 := n3_; clear n0_ n1_ n3_; clear hb hbox hg; obtain ⟨hcz6_0, hcz6_1⟩ := HW.k2 BK538.out) | ((with_reducible refine gate_callee (f := 83) rfl ?_); refine HW.gz (some 15) rfl rfl Tryz.func83 (by kernel_rfl) rfl #[.slice A0_1 l0_1.length c0_1] rfl ?_; (with_reducible refine (bsoncore_ReadDecimal128.calls (fun k_ => k_ < w.heap.size) _ _ l0_1 t539 t540 t541 true _ ?side1 A3.out).mono ?_); (case side1 => exact Kd.V_mk HC0_1.out (Kd.F_below (Kd.C_F (Kd.heap_int .u8) HR0_1.out) HW.zb)); rintro e w7 ⟨v542, rfl, ho0, hb⟩; refine ⟨_, rfl, ?_⟩; have n2_ := Aside0.mk (below_step HW.zb hb); clear HB; have HB := n2_; clear n2_; (try clear hb); (try clear ho0)))
    go_ret3
    exact ⟨rfl, HW.zb⟩
def bson_NewDecimal128.f (a0 : Int) (a1 : Int) : Option (Int × Int) := some (a0, a1)
theorem bson_NewDecimal128.calls (a0 : Int) (a1 : Int) (r1 : Int) (r2 : Int) (w : World) (h : bson_NewDecimal128.f a0 a1 = some (r1, r2)) :
    Calls Tryz.prog 59 #[.int .u64 a0, .int .u64 a1] w fun e w' => e = .returned (.agg #[.int .u64 r1, .int .u64 r2]) ∧ Below w.heap.size w w' := by
  have hu80 := Tryz.underlying80; have HB := Aside0.mk (Below.refl w.heap.size w); have H : (some (a0, a1)) = some (r1, r2) := h; clear h
  as_aux_lemma =>
    simp only [Option.some.injEq, Prod.mk.injEq] at H
    obtain ⟨rfl, rfl⟩ := H
    go_enter Tryz.func59, Tryz.ntmps59
    go_wp2_with (first | ((with_reducible refine gate_dst (N := 4) rfl ?_); refine box_event ?hg (N := 4) ?hd (cs := #[.int .u64 0, .int .u64 0]) (t := 80) ?hr ?_; (case hd => rfl); (case hg => rfl); (case hr => first | (go_simp; done) | (go_simp; rfl)); intro gb545 hg w3 hbox hb; have n0_ := Aside0.mk (below_step HW.zb hb); have n1_ := Aside0.mk (hbox); have n3_ := Aside0.mk ((by rw [hg]; exact (below_size HW.zb) : w.heap.size ≤ gb545)); clear HB; have HB := n0_; have BK545 := n1_; have GE545 := n3_; clear n0_ n1_ n3_; clear hb hbox hg; obtain ⟨hcz4_0, hcz4_1, hfz5_0, hfz5_1⟩ := HW.k2f BK545.out))
    refine bodyPost_ret (results_cell_row rfl _ _ gb545 80 #[.int .u64 a0, .int .u64 a1] (0, 0) _ rfl (by (with_reducible repeat (first | refine blk_drewN ?_ _ | refine blk_drew ?_ | refine blk_alloc ?_ _)); refine blk_put (cs := #[.int .u64 a0, .int .u64 0]) ?_ 1 _ rfl; (with_reducible repeat (first | refine blk_drewN ?_ _ | refine blk_drew ?_ | refine blk_alloc ?_ _)); refine blk_put (cs := #[.int .u64 0, .int .u64 0]) ?_ 0 _ rfl; exact HW.zB BK545.out) Tryz.underlying80 rfl (by kernel_rfl)) rfl ?_
    exact ⟨rfl, HW.zb⟩
def bson_RawValue_Decimal128OK.f (a0_0 : Int) (l0_1 : List Int) : Option (Int × Int × Bool) := (bson_convertToCoreValue.f a0_0 l0_1).bind fun bt548 => ((bsoncore_Value_Decimal128OK.f bt548.1 bt548.2).bind fun bt552 => ((bson_NewDecimal128.f bt552.1 bt552.2.1).bind fun bt555 => (some (bt555.1, bt555.2, bt552.2.2))))
theorem bson_RawValue_Decimal128OK.calls (a0_0 : Int) (A0_1 : Option Addr) (c0_1 : Nat) (l0_1 : List Int) (r1 : Int) (r2 : Int) (r3 : Bool) (w : World) (hr0_1 : Kd.C (Kd.int .u8) w A0_1 l0_1.length l0_1) (hc0_1 : l0_1.length ≤ c0_1) (h : bson_RawValue_Decimal128OK.f a0_0 l0_1 = some (r1, r2, r3)) :
    Calls Tryz.prog 35 #[.agg #[.int .u8 a0_0, .slice A0_1 l0_1.length c0_1]] w fun e w' => e = .returned (.tuple #[.agg #[.int .u64 r1, .int .u64 r2], .bool r3]) ∧ Below w.heap.size w w' := by
  have hu41 := Tryz.underlying41; have hu80 := Tryz.underlying80; have HR0_1 := Aside0.mk hr0_1; have HC0_1 := Aside0.mk hc0_1; clear hr0_1 hc0_1; have HB := Aside0.mk (Below.refl w.heap.size w); have H : ((bson_convertToCoreValue.f a0_0 l0_1).bind fun bt548 => ((bsoncore_Value_Decimal128OK.f bt548.1 bt548.2).bind fun bt552 => ((bson_NewDecimal128.f bt552.1 bt552.2.1).bind fun bt555 => (some (bt555.1, bt555.2, bt552.2.2))))) = some (r1, r2, r3) := h; clear h; replace H := Option.bind_eq_some_iff.mp H; obtain ⟨⟨t548, t549⟩, A20, H⟩ := H; replace H : ((bsoncore_Value_Decimal128OK.f t548 t549).bind fun bt552 => ((bson_NewDecimal128.f bt552.1 bt552.2.1).bind fun bt555 => (some (bt555.1, bt555.2, bt552.2.2)))) = some (r1, r2, r3) := H; have A2 := Aside0.mk A20; clear A20; replace H := Option.bind_eq_some_iff.mp H; obtain ⟨⟨t552, t553, t554⟩, A30, H⟩ := H; replace H : ((bson_NewDecimal128.f t552 t553).bind fun bt555 => (some (bt555.1, bt555.2, t554))) = some (r1, r2, r3) := H; have A3 := Aside0.mk A30; clear A30; replace H := Option.bind_eq_some_iff.mp H; obtain ⟨⟨t555, t556⟩, A40, H⟩ := H; replace H : (some (t555, t556, t554)) = some (r1, r2, r3) := H; have A4 := Aside0.mk A40; clear A40
  as_aux_lemma =>
    simp only [Option.some.injEq, Prod.mk.injEq] at H
    obtain ⟨rfl, rfl, rfl⟩ := H
    go_enter Tryz.func35, Tryz.ntmps35
    go_wp2_with (first | ((with_reducible refine gate_dst (N := 1) rfl ?_); refine box_event ?hg (N := 1) ?hd (cs := #[.int .u8 a0_0, .slice A0_1 l0_1.length c0_1]) (t := 41) ?hr ?_; (case hd => rfl); (case hg => rfl); (case hr => first | (go_simp; done) | (go_simp; rfl)); intro gb546 hg w5 hbox hb; have n0_ := Aside0.mk (below_step HW.zb hb); have n1_ := Aside0.mk (hbox); have n2_ := Aside0.mk ((by rw [hg]; exact (below_size HW.zb) : w.heap.size ≤ gb546)); have n3_ := Aside0.mk ((by rw [hg]; exact (below_size HW.zb) : w.heap.size ≤ gb546)); clear HB; have HB := n0_; have BK546 := n1_; have GW546 := n2_; have GE546 := n3_; clear n0_ n1_ n2_ n3_; clear hb hbox hg) | ((with_reducible refine gate_dst (N := 2) rfl ?_); refine box_event ?hg (N := 2) ?hd (cs := #[.int .u64 0, .int .u64 0]) (t := 80) ?hr ?_; (case hd => rfl); (case hg => rfl); (case hr => first | (go_simp; done) | (go_simp; rfl)); intro gb547 hg w6 hbox hb; have n0_ := Aside0.mk (blk_below (HW.zB BK546.out) hb); have n1_ := Aside0.mk (below_step HW.zb hb); have n2_ := Aside0.mk (hbox); have n3_ := Aside0.mk ((by rw [hg]; exact (below_size HW.zb) : w.heap.size ≤ gb547)); have n4_ := Aside0.mk ((by rw [hg]; exact (below_size HW.zb) : w.heap.size ≤ gb547)); have n5_ := Aside0.mk ((by rw [hg]; exact Nat.ne_of_lt (blk_lt (g := gb546) (o := .cells #[.int .u8 a0_0, .slice A0_1 l0_1.length c0_1] 41 (0, 0)) (HW.zB BK546.out)) : gb546 ≠ gb547)); have n6_ := Aside0.mk ((by rw [hg]; exact Nat.ne_of_gt (blk_lt (g := gb546) (o := .cells #[.int .u8 a0_0, .slice A0_1 l0_1.length c0_1] 41 (0, 0)) (HW.zB BK546.out)) : gb547 ≠ gb546)); clear BK546; clear HB; have BK546 := n0_; have HB := n1_; have BK547 := n2_; have GW547 := n3_; have GE547 := n4_; have NB546_547 := n5_; have NB547_546 := n6_; clear n0_ n1_ n2_ n3_ n4_ n5_ n6_; clear hb hbox hg; have hnb7 := NB546_547.out; have hnc7 := NB547_546.out; obtain ⟨hcz8_0, hcz8_1⟩ := HW.k2 BK546.out) | ((with_reducible refine gate_callee (f := 41) rfl ?_); refine HW.gz (some 9) rfl rfl Tryz.func41 (by kernel_rfl) rfl #[.agg #[.int .u8 a0_0, .slice A0_1 l0_1.length c0_1]] rfl ?_; (with_reducible refine (bson_convertToCoreValue.calls a0_0 (fun k_ => k_ < w.heap.size) _ _ l0_1 t548 t549 _ ?side1 A2.out).mono ?_); (case side1 => exact Kd.V_mk HC0_1.out (Kd.F_below (Kd.C_F (Kd.heap_int .u8) HR0_1.out) HW.zb)); rintro e w9 ⟨v550, rfl, ho0, hb⟩; refine ⟨_, rfl, ?_⟩; have n0_ := Aside0.mk (Kd.V_lower (Kd.V_mono (ok' := fun k_ => k_ ≠ gb546 ∧ k_ ≠ gb547) ho0 (fun k_ hk_ => ⟨Or.elim hk_ (fun hs_ => fun e_ => Nat.not_le.2 hs_ (by rw [e_]; exact GW546.out)) (fun hn_ => (Kd.freshB (g := gb546) (o := .cells #[.int .u8 a0_0, .slice A0_1 l0_1.length c0_1] 41 (0, 0)) (HW.zB BK546.out) k_ hn_)), Or.elim hk_ (fun hs_ => fun e_ => Nat.not_le.2 hs_ (by rw [e_]; exact GW547.out)) (fun hn_ => (Kd.freshB (g := gb547) (o := .cells #[.int .u64 0, .int .u64 0] 80 (0, 0)) (HW.zB BK547.out) k_ hn_))⟩)) (below_size HW.zb)); have n2_ := Aside0.mk (blk_below (HW.zB BK547.out) hb); have n3_ := Aside0.mk (below_step HW.zb hb); clear BK547; clear HB; have HO551 := n0_; have BK547 := n2_; have HB := n3_; clear n0_ n2_ n3_; (try clear hb); (try clear ho0); obtain ⟨Ao10, co10, eo10⟩ := Kd.V_slice HO551.out; subst eo10) | ((with_reducible refine gate_callee (f := 58) rfl ?_); refine HW.gz (some 10) rfl rfl Tryz.func58 (by kernel_rfl) rfl #[.agg #[.int .u8 t548, .slice Ao10 t549.length co10]] rfl ?_; (with_reducible refine (bsoncore_Value_Decimal128OK.calls t548 _ _ t549 t552 t553 t554 _ ?side1 ?side2 A3.out).mono ?_); (case side1 => repeat (first | exact (Kd.V_reads' HO551.out).2.2 | (with_reducible refine Kd.C_alloc ?_ _) | (with_reducible refine Kd.C_drewN ?_ _) | (with_reducible refine Kd.C_drew ?_))); (case side2 => exact (Kd.V_reads' HO551.out).2.1); rintro e w11 ⟨rfl, hb⟩; refine ⟨_, rfl, ?_⟩; replace BK547 := Aside0.mk (blk_below (HW.zB BK547.out) hb); replace HB := Aside0.mk (below_step HW.zb hb); (try clear hb)) | ((with_reducible refine gate_callee (f := 59) rfl ?_); refine HW.gz (some 16) rfl rfl Tryz.func59 (by kernel_rfl) rfl #[.int .u64 t552, .int .u64 t553] rfl ?_; (with_reducible refine (bson_NewDecimal128.calls t552 t553 t555 t556 _ A4.out).mono ?_); rintro e w12 ⟨rfl, hb⟩; refine ⟨_, rfl, ?_⟩; replace BK547 := Aside0.mk (blk_below (HW.zB BK547.out) hb); replace HB := Aside0.mk (below_step HW.zb hb); (try clear hb); obtain ⟨hcz13_0, hcz13_1, hfz14_0, hfz14_1⟩ := HW.k2f BK547.out))
    refine bodyPost_ret (results_ct rfl _ _ gb547 80 #[.int .u64 t555, .int .u64 t556] (0, 0) _ rfl (by (with_reducible repeat (first | refine blk_drewN ?_ _ | refine blk_drew ?_ | refine blk_alloc ?_ _)); refine blk_put (cs := #[.int .u64 t555, .int .u64 0]) ?_ 1 _ rfl; (with_reducible repeat (first | refine blk_drewN ?_ _ | refine blk_drew ?_ | refine blk_alloc ?_ _)); refine blk_put (cs := #[.int .u64 0, .int .u64 0]) ?_ 0 _ rfl; exact HW.zB BK547.out) Tryz.underlying80 rfl (by kernel_rfl)) rfl ?_
    exact ⟨rfl, HW.zb⟩
def bson_Decimal128_GetBytes.f (a0_0 : Int) (a0_1 : Int) : Option (Int × Int) := some (a0_0, a0_1)
theorem bson_Decimal128_GetBytes.calls (a0_0 : Int) (a0_1 : Int) (r1 : Int) (r2 : Int) (w : World) (h : bson_Decimal128_GetBytes.f a0_0 a0_1 = some (r1, r2)) :
    Calls Tryz.prog 36 #[.agg #[.int .u64 a0_0, .int .u64 a0_1]] w fun e w' => e = .returned (.tuple #[.int .u64 r1, .int .u64 r2]) ∧ Below w.heap.size w w' := by
  have hu80 := Tryz.underlying80; have HB := Aside0.mk (Below.refl w.heap.size w); have H : (some (a0_0, a0_1)) = some (r1, r2) := h; clear h
  as_aux_lemma =>
    simp only [Option.some.injEq, Prod.mk.injEq] at H
    obtain ⟨rfl, rfl⟩ := H
    go_enter Tryz.func36, Tryz.ntmps36
    go_wp2_with (first | ((with_reducible refine gate_dst (N := 1) rfl ?_); refine box_event ?hg (N := 1) ?hd (cs := #[.int .u64 a0_0, .int .u64 a0_1]) (t := 80) ?hr ?_; (case hd => rfl); (case hg => rfl); (case hr => first | (go_simp; done) | (go_simp; rfl)); intro gb557 hg w2 hbox hb; have n0_ := Aside0.mk (below_step HW.zb hb); have n1_ := Aside0.mk (hbox); have n3_ := Aside0.mk ((by rw [hg]; exact (below_size HW.zb) : w.heap.size ≤ gb557)); clear HB; have HB := n0_; have BK557 := n1_; have GE557 := n3_; clear n0_ n1_ n3_; clear hb hbox hg; obtain ⟨hcz3_0, hcz3_1⟩ := HW.k2 BK557.out))
    repeat (go_quiet (fail); try go_wp2)
    go_ret2
    exact ⟨rfl, HW.zb⟩
end Go.Proofs.YtpbfigeaoefcmaaGreat.PBg
