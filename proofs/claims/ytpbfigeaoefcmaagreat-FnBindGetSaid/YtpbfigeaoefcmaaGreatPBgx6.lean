import Derived.Test.YtpbfigeaoefcmaaGreatPBgx0
import Derived.Test.YtpbfigeaoefcmaaGreatPBgx4
import Derived.Test.YtpbfigeaoefcmaaGreatPBgx5
namespace Go.Proofs.YtpbfigeaoefcmaaGreat.PBg
open Go.RowKit Go.Proofs.YtpbfigeaoefcmaaGreatW.PrintWords Go.Proofs.YtpbfigeaoefcmaaGreatW.PrintLast Go.Proofs.YtpbfigeaoefcmaaGreatW.PrintMore
attribute [local go_sem] max2_int min2_int max_two min_two max_three min_three max_four min_four
set_option linter.unusedVariables false
set_option maxHeartbeats 8000000
set_option maxRecDepth 100000
set_option linter.unusedSimpArgs false
def bson_RawValue_ArrayOK.f (a0_0 : Int) (l0_1 : List Int) : Option (List Int × Bool) := (bson_convertToCoreValue.f a0_0 l0_1).bind fun bt238 => ((bsoncore_Value_ArrayOK.f bt238.1 bt238.2).bind fun bt242 => (some (bt242.1, bt242.2)))
theorem bson_RawValue_ArrayOK.calls (a0_0 : Int) (P0_1_ : Nat → Prop) (A0_1 : Option Addr) (c0_1 : Nat) (l0_1 : List Int) (r1 : List Int) (r2 : Bool) (w : World) (hs0_1 : Kd.V (Kd.int .u8) 5 w w.heap.size (fun k_ => P0_1_ k_) (.slice A0_1 l0_1.length c0_1) l0_1) (h : bson_RawValue_ArrayOK.f a0_0 l0_1 = some (r1, r2)) :
    Calls Tryz.prog 21 #[.agg #[.int .u8 a0_0, .slice A0_1 l0_1.length c0_1]] w fun e w' => ∃ v0_ : Value, e = .returned (.tuple #[v0_, .bool r2]) ∧ Kd.V (Kd.int .u8) 5 w' w.heap.size (fun k_ => (P0_1_ k_ ∨ w.heap.size ≤ k_)) v0_ r1 ∧ Below w.heap.size w w' := by
  have hu41 := Tryz.underlying41; have HO0_1 := Aside0.mk (show Kd.V (Kd.int .u8) 5 w w.heap.size (fun k_ => (P0_1_ k_ ∨ w.heap.size ≤ k_)) (.slice A0_1 l0_1.length c0_1) l0_1 from Kd.V_mono hs0_1 (fun k_ hk => .inl hk)); have HB := Aside0.mk (Below.refl w.heap.size w); have H : ((bson_convertToCoreValue.f a0_0 l0_1).bind fun bt238 => ((bsoncore_Value_ArrayOK.f bt238.1 bt238.2).bind fun bt242 => (some (bt242.1, bt242.2)))) = some (r1, r2) := h; clear h; replace H := Option.bind_eq_some_iff.mp H; obtain ⟨⟨t238, t239⟩, A20, H⟩ := H; replace H : ((bsoncore_Value_ArrayOK.f t238 t239).bind fun bt242 => (some (bt242.1, bt242.2))) = some (r1, r2) := H; have A2 := Aside0.mk A20; clear A20; replace H := Option.bind_eq_some_iff.mp H; obtain ⟨⟨t242, t245⟩, A30, H⟩ := H; replace H : (some (t242, t245)) = some (r1, r2) := H; have A3 := Aside0.mk A30; clear A30
  as_aux_lemma =>
    simp only [Option.some.injEq, Prod.mk.injEq] at H
    obtain ⟨rfl, rfl⟩ := H
    go_enter Tryz.func21, Tryz.ntmps21
    go_wp2_with (first | ((with_reducible refine gate_dst (N := 1) rfl ?_); refine box_event ?hg (N := 1) ?hd (cs := #[.int .u8 a0_0, .slice A0_1 l0_1.length c0_1]) (t := 41) ?hr ?_; (case hd => rfl); (case hg => rfl); (case hr => first | (go_simp; done) | (go_simp; rfl)); intro gb237 hg w4 hbox hb; have n0_ := Aside0.mk (Kd.V_below (Kd.V_elderB (HW.zV HO0_1.out) gb237 (Nat.le_of_eq hg.symm)) hb); have n1_ := Aside0.mk (below_step HW.zb hb); have n2_ := Aside0.mk (hbox); have n4_ := Aside0.mk ((by rw [hg]; exact (below_size HW.zb) : w.heap.size ≤ gb237)); clear HO0_1; clear HB; have HO0_1 := n0_; have HB := n1_; have BK237 := n2_; have GE237 := n4_; clear n0_ n1_ n2_ n4_; clear hb hbox hg; obtain ⟨hcz5_0, hcz5_1⟩ := HW.k2 BK237.out) | ((with_reducible refine gate_callee (f := 41) rfl ?_); refine HW.gz (some 8) rfl rfl Tryz.func41 (by kernel_rfl) rfl #[.agg #[.int .u8 a0_0, .slice A0_1 l0_1.length c0_1]] rfl ?_; (with_reducible refine (bson_convertToCoreValue.calls a0_0 (fun k_ => ((P0_1_ k_ ∨ w.heap.size ≤ k_) ∧ k_ ≠ gb237)) _ _ l0_1 t238 t239 _ ?side1 A2.out).mono ?_); (case side1 => exact HO0_1.out); rintro e w6 ⟨v240, rfl, ho0, hb⟩; refine ⟨_, rfl, ?_⟩; have HO241 := Aside0.mk (Kd.V_lower (Kd.V_mono (ok' := fun k_ => (P0_1_ k_ ∨ w.heap.size ≤ k_) ∧ k_ ≠ gb237) ho0 (fun k_ hk_ => ⟨Or.elim hk_ (fun hs_ => hs_.1) (fun hn_ => (.inr (Nat.le_trans (below_size HW.zb) hn_))), Or.elim hk_ (fun hs_ => hs_.2) (fun hn_ => (Kd.freshB (g := gb237) (o := .cells #[.int .u8 a0_0, .slice A0_1 l0_1.length c0_1] 41 (0, 0)) (HW.zB BK237.out) k_ hn_))⟩)) (below_size HW.zb)); replace BK237 := Aside0.mk (blk_below (HW.zB BK237.out) hb); replace HB := Aside0.mk (below_step HW.zb hb); (try clear hb); (try clear ho0); obtain ⟨Ao7, co7, eo7⟩ := Kd.V_slice HO241.out; subst eo7) | ((with_reducible refine gate_callee (f := 45) rfl ?_); refine HW.gz (some 9) rfl rfl Tryz.func45 (by kernel_rfl) rfl #[.agg #[.int .u8 t238, .slice Ao7 t239.length co7]] rfl ?_; (with_reducible refine (bsoncore_Value_ArrayOK.calls t238 (fun k_ => ((P0_1_ k_ ∨ w.heap.size ≤ k_) ∧ k_ ≠ gb237)) _ _ t239 t242 t245 _ ?side1 A3.out).mono ?_); (case side1 => exact HO241.out); rintro e w8 ⟨v243, rfl, ho0, hb⟩; refine ⟨_, rfl, ?_⟩; have HO244 := Aside0.mk (Kd.V_lower (Kd.V_mono (ok' := fun k_ => (P0_1_ k_ ∨ w.heap.size ≤ k_) ∧ k_ ≠ gb237) ho0 (fun k_ hk_ => ⟨Or.elim hk_ (fun hs_ => hs_.1) (fun hn_ => (.inr (Nat.le_trans (below_size HW.zb) hn_))), Or.elim hk_ (fun hs_ => hs_.2) (fun hn_ => (Kd.freshB (g := gb237) (o := .cells #[.int .u8 a0_0, .slice A0_1 l0_1.length c0_1] 41 (0, 0)) (HW.zB BK237.out) k_ hn_))⟩)) (below_size HW.zb)); replace HB := Aside0.mk (below_step HW.zb hb); (try clear hb); (try clear ho0)))
    go_ret2
    exact ⟨_, rfl, by (with_reducible repeat (first | apply Kd.V_alloc | apply Kd.V_drewN | apply Kd.V_drew)); exact Kd.V_mono HO244.out (fun _ hk => hk.1), HW.zb⟩
def bsoncore_ReadBinary.j0 : Nat → List Int → Int → List Int → Int → Bool → Option (Int × List Int × List Int × Bool)
  | 0, _, _, _, _, _ => none
  | k + 1, x0, x2, x4, x6, x47 => if x47 = true then (some (0, ([] : List Int), x0, false)) else (if 0 ≤ x6 then (if x6 ≤ (x4.length : Int) then (some (x2, (x4.take (x6 : Int).toNat), (x4.drop (x6 : Int).toNat), true)) else (none)) else (none))
def bsoncore_ReadBinary.f (k : Nat) (l0 : List Int) : Option (Int × List Int × List Int × Bool) := (bsoncore_ReadLength.f l0).bind fun bt246 => (if bt246.2.2 = true then (if (bt246.2.1.length : Int) < 1 then (none) else (if 0 < (bt246.2.1.length : Int) then (if 1 ≤ (bt246.2.1.length : Int) then ((some (bt246.2.1.drop 1 : List Int)).bind fun y252 => (if (y252.length : Int) < (wrap64 (bt246.1)) then (none) else (if (rd bt246.2.1 0) = 2 then ((bsoncore_ReadLength.f y252).bind fun bt257 => (if bt257.2.2 = true then (bsoncore_ReadBinary.j0 k l0 (rd bt246.2.1 0) bt257.2.1 bt257.1 (decide ((bt257.2.1.length : Int) < (wrap64 (bt257.1))))) else (bsoncore_ReadBinary.j0 k l0 (rd bt246.2.1 0) bt257.2.1 bt257.1 true))) else (if 0 ≤ bt246.1 then (if bt246.1 ≤ (y252.length : Int) then (some (rd bt246.2.1 0, (y252.take (bt246.1 : Int).toNat), (y252.drop (bt246.1 : Int).toNat), true)) else (none)) else (none))))) else (none)) else (none))) else (some (0, ([] : List Int), l0, false)))
theorem bsoncore_ReadBinary.mono_l : ∀ k, (∀ y0 y1 y2 y3 y4, LeO (bsoncore_ReadBinary.j0 k y0 y1 y2 y3 y4) (bsoncore_ReadBinary.j0 (k + 1) y0 y1 y2 y3 y4))
  | 0 => fun _ _ _ _ _ r h => by simp [bsoncore_ReadBinary.j0] at h
  | k + 1 => by
    have ih0 := bsoncore_ReadBinary.mono_l k
    · intro y0 y1 y2 y3 y4
      unfold bsoncore_ReadBinary.j0
      have m0_ := @ih0; exact HW.mo
theorem bsoncore_ReadBinary.mono : ∀ a0 k, LeO (bsoncore_ReadBinary.f k a0) (bsoncore_ReadBinary.f (k + 1) a0) := by
  intro a0 k
  have ih0 := bsoncore_ReadBinary.mono_l k
  unfold bsoncore_ReadBinary.f
  have m0_ := @ih0; exact HW.mo
theorem bsoncore_ReadBinary.calls (k : Nat) (P0_ : Nat → Prop) (A0 : Option Addr) (c0 : Nat) (l0 : List Int) (r1 : Int) (r2 : List Int) (r3 : List Int) (r4 : Bool) (w : World) (hs0 : Kd.V (Kd.int .u8) 5 w w.heap.size (fun k_ => P0_ k_) (.slice A0 l0.length c0) l0) (h : bsoncore_ReadBinary.f k l0 = some (r1, r2, r3, r4)) :
    Calls Tryz.prog 71 #[.slice A0 l0.length c0] w fun e w' => ∃ v1_ v2_ : Value, e = .returned (.tuple #[.int .u8 r1, v1_, v2_, .bool r4]) ∧ Kd.V (Kd.int .u8) 5 w' w.heap.size (fun k_ => (P0_ k_ ∨ w.heap.size ≤ k_)) v1_ r2 ∧ Kd.V (Kd.int .u8) 5 w' w.heap.size (fun k_ => (P0_ k_ ∨ w.heap.size ≤ k_)) v2_ r3 ∧ Below w.heap.size w w' := by
  have HO0 := Aside0.mk (show Kd.V (Kd.int .u8) 5 w w.heap.size (fun k_ => (P0_ k_ ∨ w.heap.size ≤ k_)) (.slice A0 l0.length c0) l0 from Kd.V_mono hs0 (fun k_ hk => .inl hk)); have HB := Aside0.mk (Below.refl w.heap.size w)
  have H : ((bsoncore_ReadLength.f l0).bind fun bt246 => (if bt246.2.2 = true then (if (bt246.2.1.length : Int) < 1 then (none) else (if 0 < (bt246.2.1.length : Int) then (if 1 ≤ (bt246.2.1.length : Int) then ((some (bt246.2.1.drop 1 : List Int)).bind fun y252 => (if (y252.length : Int) < (wrap64 (bt246.1)) then (none) else (if (rd bt246.2.1 0) = 2 then ((bsoncore_ReadLength.f y252).bind fun bt257 => (if bt257.2.2 = true then (bsoncore_ReadBinary.j0 k l0 (rd bt246.2.1 0) bt257.2.1 bt257.1 (decide ((bt257.2.1.length : Int) < (wrap64 (bt257.1))))) else (bsoncore_ReadBinary.j0 k l0 (rd bt246.2.1 0) bt257.2.1 bt257.1 true))) else (if 0 ≤ bt246.1 then (if bt246.1 ≤ (y252.length : Int) then (some (rd bt246.2.1 0, (y252.take (bt246.1 : Int).toNat), (y252.drop (bt246.1 : Int).toNat), true)) else (none)) else (none))))) else (none)) else (none))) else (some (0, ([] : List Int), l0, false)))) = some (r1, r2, r3, r4) := h
  clear h; replace H := Option.bind_eq_some_iff.mp H; obtain ⟨⟨t246, t247, t250⟩, A20, H⟩ := H
  replace H : (if t250 = true then (if (t247.length : Int) < 1 then (none) else (if 0 < (t247.length : Int) then (if 1 ≤ (t247.length : Int) then ((some (t247.drop 1 : List Int)).bind fun y252 => (if (y252.length : Int) < (wrap64 (t246)) then (none) else (if (rd t247 0) = 2 then ((bsoncore_ReadLength.f y252).bind fun bt257 => (if bt257.2.2 = true then (bsoncore_ReadBinary.j0 k l0 (rd t247 0) bt257.2.1 bt257.1 (decide ((bt257.2.1.length : Int) < (wrap64 (bt257.1))))) else (bsoncore_ReadBinary.j0 k l0 (rd t247 0) bt257.2.1 bt257.1 true))) else (if 0 ≤ t246 then (if t246 ≤ (y252.length : Int) then (some (rd t247 0, (y252.take (t246 : Int).toNat), (y252.drop (t246 : Int).toNat), true)) else (none)) else (none))))) else (none)) else (none))) else (some (0, ([] : List Int), l0, false))) = some (r1, r2, r3, r4) := H
  have A2 := Aside0.mk A20; clear A20
  by_cases c3 : t250 = true
  rotate_left
  · replace c3 := Bool.eq_false_iff.mpr c3
    subst c3
    have H1 : (some (0, ([] : List Int), l0, false)) = some (r1, r2, r3, r4) := by rw [if_neg (show ¬ (false = true) by decide)] at H; exact H
    clear H; have H := H1; clear H1
    as_aux_lemma =>
      simp only [Option.some.injEq, Prod.mk.injEq] at H
      obtain ⟨rfl, rfl, rfl, rfl⟩ := H
      go_enter Tryz.func71, Tryz.ntmps71
      go_wp2_with (first | (go_at_call 89; (with_reducible refine (bsoncore_ReadLength.calls (fun k_ => (P0_ k_ ∨ w.heap.size ≤ k_)) _ _ l0 t246 t247 false _ ?side1 A2.out).mono ?_); (case side1 => exact HO0.out); rintro e w34 ⟨v248, rfl, ho0, hb⟩; replace HO0 := Aside0.mk (Kd.V_below (HW.zV HO0.out) hb); have HO249 := Aside0.mk (Kd.V_lower (Kd.V_mono (ok' := fun k_ => (P0_ k_ ∨ w.heap.size ≤ k_)) ho0 (fun k_ hk_ => Or.elim hk_ (fun hs_ => hs_) (fun hn_ => (.inr (Nat.le_trans (below_size HW.zb) hn_))))) (below_size HW.zb)); replace HB := Aside0.mk (below_step HW.zb hb); (try clear hb); (try clear ho0)))
      repeat (go_quiet (fail); try go_wp2)
      refine bodyPost_ret (results_list (rs := [.tmp 2, .tmp 3, .tmp 4, .tmp 5]) rfl (by simp) (.tmp (.tmp (.tmp (.tmp .nil))))) rfl ?_
      exact ⟨_, _, rfl, Kd.V_nil _ _ _ _ _, HW.zV HO0.out, HW.zb⟩
  subst c3
  have H1 : (if (t247.length : Int) < 1 then (none) else (if 0 < (t247.length : Int) then (if 1 ≤ (t247.length : Int) then ((some (t247.drop 1 : List Int)).bind fun y252 => (if (y252.length : Int) < (wrap64 (t246)) then (none) else (if (rd t247 0) = 2 then ((bsoncore_ReadLength.f y252).bind fun bt257 => (if bt257.2.2 = true then (bsoncore_ReadBinary.j0 k l0 (rd t247 0) bt257.2.1 bt257.1 (decide ((bt257.2.1.length : Int) < (wrap64 (bt257.1))))) else (bsoncore_ReadBinary.j0 k l0 (rd t247 0) bt257.2.1 bt257.1 true))) else (if 0 ≤ t246 then (if t246 ≤ (y252.length : Int) then (some (rd t247 0, (y252.take (t246 : Int).toNat), (y252.drop (t246 : Int).toNat), true)) else (none)) else (none))))) else (none)) else (none))) = some (r1, r2, r3, r4) := by rw [if_pos rfl] at H; exact H
  clear H; have H := H1; clear H1
  by_cases c4 : (t247.length : Int) < 1
  · rw [if_pos c4] at H
    exact absurd H (by simp)
  rw [if_neg c4] at H; have c4b0 : decide ((t247.length : Int) < 1) = false := decide_eq_false c4
  have c4b1 : decide (t247.length < 1) = false := decide_eq_false (by omega)
  clear c4
  by_cases c5 : 0 < (t247.length : Int)
  rotate_left
  · rw [if_neg c5] at H
    exact absurd H (by simp)
  rw [if_pos c5] at H; have c5b0 : decide (0 < (t247.length : Int)) = true := decide_eq_true c5
  have c5b1 : decide (0 < t247.length) = true := decide_eq_true (by omega)
  clear c5
  by_cases c6 : 1 ≤ (t247.length : Int)
  rotate_left
  · rw [if_neg c6] at H
    exact absurd H (by simp)
  rw [if_pos c6] at H; have c6b0 := eq_true c6; have c6b1 : decide (1 ≤ (t247.length : Int)) = true := decide_eq_true c6; clear c6; obtain ⟨y252, hy252⟩ : ∃ y_ : List Int, y_ = (t247.drop 1) := ⟨_, rfl⟩
  replace H : (if (y252.length : Int) < (wrap64 (t246)) then (none) else (if (rd t247 0) = 2 then ((bsoncore_ReadLength.f y252).bind fun bt257 => (if bt257.2.2 = true then (bsoncore_ReadBinary.j0 k l0 (rd t247 0) bt257.2.1 bt257.1 (decide ((bt257.2.1.length : Int) < (wrap64 (bt257.1))))) else (bsoncore_ReadBinary.j0 k l0 (rd t247 0) bt257.2.1 bt257.1 true))) else (if 0 ≤ t246 then (if t246 ≤ (y252.length : Int) then (some (rd t247 0, (y252.take (t246 : Int).toNat), (y252.drop (t246 : Int).toNat), true)) else (none)) else (none)))) = some (r1, r2, r3, r4) := by (try rw [hy252]); exact HW.rp
  have Ny252 := Aside0.mk hy252; clear hy252
  by_cases c7 : (y252.length : Int) < (wrap64 (t246))
  · rw [if_pos c7] at H
    exact absurd H (by simp)
  rw [if_neg c7] at H; have c7b0 : decide ((y252.length : Int) < (wrap64 (t246))) = false := decide_eq_false c7; clear c7
  by_cases c8 : (rd t247 0) = 2
  rotate_left
  · rw [if_neg c8] at H
    have c8b0 : ((rd t247 0) == 2) = false := beq_eq_false_iff_ne.mpr c8; have c8b1 : ((rd t247 0) != 2) = true := bne_iff_ne.mpr c8
    by_cases c25 : 0 ≤ t246
    rotate_left
    · rw [if_neg c25] at H
      exact absurd H (by simp)
    rw [if_pos c25] at H; have c25b0 := eq_true c25; have c25b1 : decide (0 ≤ t246) = true := decide_eq_true c25; clear c25
    by_cases c26 : t246 ≤ (y252.length : Int)
    rotate_left
    · rw [if_neg c26] at H
      exact absurd H (by simp)
    rw [if_pos c26] at H; have c26b0 := eq_true c26; have c26b1 : decide (t246 ≤ (y252.length : Int)) = true := decide_eq_true c26; clear c26; obtain ⟨y272, hy272⟩ : ∃ y_ : List Int, y_ = (y252.take (t246 : Int).toNat) := ⟨_, rfl⟩
    replace H : (some (rd t247 0, y272, (y252.drop (t246 : Int).toNat), true)) = some (r1, r2, r3, r4) := by (try rw [hy272]); exact HW.rp
    have Ny272 := Aside0.mk hy272; clear hy272
    have c27b0 := eq_true (HW.od : 0 ≤ t246)
    have c28b0 := eq_true (HW.od : t246 ≤ (y252.length : Int))
    obtain ⟨y277, hy277⟩ : ∃ y_ : List Int, y_ = (y252.drop (t246 : Int).toNat) := ⟨_, rfl⟩
    replace H : (some (rd t247 0, y272, y277, true)) = some (r1, r2, r3, r4) := by (try rw [hy277]); exact HW.rp
    have Ny277 := Aside0.mk hy277; clear hy277
    as_aux_lemma =>
      simp only [Option.some.injEq, Prod.mk.injEq] at H
      obtain ⟨rfl, rfl, rfl, rfl⟩ := H
      go_enter Tryz.func71, Tryz.ntmps71
      go_wp2_with (first | (go_at_call 89; (with_reducible refine (bsoncore_ReadLength.calls (fun k_ => (P0_ k_ ∨ w.heap.size ≤ k_)) _ _ l0 t246 t247 true _ ?side1 A2.out).mono ?_); (case side1 => exact HO0.out); rintro e w29 ⟨v248, rfl, ho0, hb⟩; replace HO0 := Aside0.mk (Kd.V_below (HW.zV HO0.out) hb); have HO249 := Aside0.mk (Kd.V_lower (Kd.V_mono (ok' := fun k_ => (P0_ k_ ∨ w.heap.size ≤ k_)) ho0 (fun k_ hk_ => Or.elim hk_ (fun hs_ => hs_) (fun hn_ => (.inr (Nat.le_trans (below_size HW.zb) hn_))))) (below_size HW.zb)); replace HB := Aside0.mk (below_step HW.zb hb); (try clear hb); (try clear ho0); obtain ⟨Ao30, co30, eo30⟩ := Kd.V_slice HO249.out; subst eo30; have p251 : 0 ≤ (0 : Int) := (by omega); have q251 : 0 < (t247.length : Int) := HW.od; obtain ⟨ad251, e251, hx251_0⟩ := Kd.at_int (Kd.V_reads' HO249.out).2.2 0 p251 q251; cases e251; have qi251 : (0 < t247.length) = True := eq_true (by omega); (try rw [show ((0 : Int)).toNat = 0 from rfl] at hx251_0); (try rw [Addr.add_zero'] at hx251_0); replace p251 := eq_true p251; replace q251 := eq_true q251; have q31 : (1 : Int) ≤ ((t247.length : Int) : Int) := HW.od; obtain ⟨i031, hi031, _, hsz31, _⟩ := info_parts info5; have hroom31 : t247.length ≤ co30 := (Kd.V_reads' HO249.out).2.1; have hC31 : Kd.F (Kd.int .u8) _ _ (some ad251) t247.length t247 := (Kd.V_at (base := w.heap.size) HO249.out).2.2; have hcut31 := cut_from (P := Tryz.prog) 23 5 .i64 Tryz.underlying23 hi031 1 hsz31 (some ad251) t247.length co30 1 (by omega) q31; have hr31 := Kd.F_cut (m := (1 : Int).toNat) (c := co30) hC31 (by omega) hroom31; obtain ⟨A31, hA31⟩ : ∃ A1, A1 = (if co30 = (1 : Int).toNat then (some ad251) else ((some ad251) : Option Addr).map (·.add ((1 : Int).toNat * 1))) := ⟨_, rfl⟩; obtain ⟨c31, hc31⟩ : ∃ c1, c1 = co30 - (1 : Int).toNat := ⟨_, rfl⟩; have hy31 : y252.length = t247.length - (1 : Int).toNat := (by rw [Ny252.out, List.length_drop] <;> omega); rw [show (t247).drop (1 : Int).toNat = y252 from Ny252.out.symm] at hr31; replace hr31 : Kd.F (Kd.int .u8) _ _ A31 y252.length y252 := (by rw [hA31]; exact hr31); rw [← hy31, ← hA31, ← hc31] at hcut31; have HO256 := Aside0.mk (show Kd.V (Kd.int .u8) 5 _ w.heap.size _ (.slice A31 y252.length c31) y252 from Kd.V_mk (by rw [hy31, hc31]; exact Nat.sub_le_sub_right hroom31 _) hr31); have HC256 := Aside0.mk (show y252.length ≤ c31 from by rw [hy31, hc31]; exact Nat.sub_le_sub_right hroom31 _); clear hr31 hC31 hroom31 hi031 hsz31 hc31; have KY31 := Aside0.mk hy31; have KA31 := Aside0.mk hA31; clear hy31 hA31; replace q31 := eq_true q31; have q32 : (t246 : Int) ≤ ((y252.length : Int) : Int) := HW.od; obtain ⟨i032, hi032, _, hsz32, _⟩ := info_parts info5; have hroom32 : y252.length ≤ c31 := (Kd.V_reads' HO256.out).2.1; have hC32 : Kd.F (Kd.int .u8) _ _ A31 y252.length y252 := (Kd.V_at (base := w.heap.size) HO256.out).2.2; have hcut32 := cut_to (P := Tryz.prog) 23 5 .i32 Tryz.underlying23 hi032 A31 y252.length c31 t246 (HW.od) q32 hroom32; have hr32 := Kd.F_take (m := (t246 : Int).toNat) hC32 (by omega); have hy32 : y272.length = (t246 : Int).toNat := (by rw [Ny272.out, List.length_take]; omega); rw [← Ny272.out] at hr32; rw [← hy32] at hcut32; have HO276 := Aside0.mk (show Kd.V (Kd.int .u8) 5 _ w.heap.size _ (.slice A31 y272.length c31) y272 from Kd.V_mk (by omega) hr32); have HC276 := Aside0.mk (show y272.length ≤ c31 from by omega); clear hr32 hC32 hroom32 hi032 hsz32; have KY32 := Aside0.mk hy32; clear hy32; replace q32 := eq_true q32; have q33 : (t246 : Int) ≤ ((y252.length : Int) : Int) := HW.od; obtain ⟨i033, hi033, _, hsz33, _⟩ := info_parts info5; have hroom33 : y252.length ≤ c31 := (Kd.V_reads' HO256.out).2.1; have hC33 : Kd.F (Kd.int .u8) _ _ A31 y252.length y252 := (Kd.V_at (base := w.heap.size) HO256.out).2.2; have q033 : (0 : Int) ≤ (t246 : Int) := HW.od; have hcut33 := cut_from (P := Tryz.prog) 23 5 .i32 Tryz.underlying23 hi033 1 hsz33 A31 y252.length c31 t246 q033 q33; have hr33 := Kd.F_cut (m := (t246 : Int).toNat) (c := c31) hC33 (by omega) hroom33; obtain ⟨A33, hA33⟩ : ∃ A1, A1 = (if c31 = (t246 : Int).toNat then A31 else (A31 : Option Addr).map (·.add ((t246 : Int).toNat * 1))) := ⟨_, rfl⟩; obtain ⟨c33, hc33⟩ : ∃ c1, c1 = c31 - (t246 : Int).toNat := ⟨_, rfl⟩; have hy33 : y277.length = y252.length - (t246 : Int).toNat := (by rw [Ny277.out, List.length_drop] <;> omega); rw [show (y252).drop (t246 : Int).toNat = y277 from Ny277.out.symm] at hr33; replace hr33 : Kd.F (Kd.int .u8) _ _ A33 y277.length y277 := (by rw [hA33]; exact hr33); rw [← hy33, ← hA33, ← hc33] at hcut33; have HO281 := Aside0.mk (show Kd.V (Kd.int .u8) 5 _ w.heap.size _ (.slice A33 y277.length c33) y277 from Kd.V_mk (by rw [hy33, hc33]; exact Nat.sub_le_sub_right hroom33 _) hr33); have HC281 := Aside0.mk (show y277.length ≤ c33 from by rw [hy33, hc33]; exact Nat.sub_le_sub_right hroom33 _); clear hr33 hC33 hroom33 hi033 hsz33 hc33; have KY33 := Aside0.mk hy33; have KA33 := Aside0.mk hA33; clear hy33 hA33; replace q33 := eq_true q33))
      repeat (go_quiet (fail); try go_wp2)
      refine bodyPost_ret (results_list (rs := [.tmp 2, .tmp 3, .tmp 4, .tmp 5]) rfl (by simp) (.tmp (.tmp (.tmp (.tmp .nil))))) rfl ?_
      exact ⟨_, _, rfl, HW.zV HO276.out, HW.zV HO281.out, HW.zb⟩
  rw [if_pos c8] at H; have c8b0 : ((rd t247 0) == 2) = true := beq_iff_eq.mpr c8; have c8b1 : ((rd t247 0) != 2) = false := bne_eq_false_iff_eq.mpr c8; clear c8; replace H := Option.bind_eq_some_iff.mp H; obtain ⟨⟨t257, t258, t261⟩, A90, H⟩ := H; replace H : (if t261 = true then (bsoncore_ReadBinary.j0 k l0 (rd t247 0) t258 t257 (decide ((t258.length : Int) < (wrap64 (t257))))) else (bsoncore_ReadBinary.j0 k l0 (rd t247 0) t258 t257 true)) = some (r1, r2, r3, r4) := H; have A9 := Aside0.mk A90; clear A90; have HC10 := Aside0.mk H; clear H
  go_enter Tryz.func71, Tryz.ntmps71
  go_upto_region 11 with (first | (go_at_call 89; (with_reducible refine (bsoncore_ReadLength.calls (fun k_ => (P0_ k_ ∨ w.heap.size ≤ k_)) _ _ l0 t246 t247 true _ ?side1 A2.out).mono ?_); (case side1 => exact HO0.out); rintro e w11 ⟨v248, rfl, ho0, hb⟩; replace HO0 := Aside0.mk (Kd.V_below (HW.zV HO0.out) hb); have HO249 := Aside0.mk (Kd.V_lower (Kd.V_mono (ok' := fun k_ => (P0_ k_ ∨ w.heap.size ≤ k_)) ho0 (fun k_ hk_ => Or.elim hk_ (fun hs_ => hs_) (fun hn_ => (.inr (Nat.le_trans (below_size HW.zb) hn_))))) (below_size HW.zb)); replace HB := Aside0.mk (below_step HW.zb hb); (try clear hb); (try clear ho0); obtain ⟨Ao12, co12, eo12⟩ := Kd.V_slice HO249.out; subst eo12; have p251 : 0 ≤ (0 : Int) := (by omega); have q251 : 0 < (t247.length : Int) := HW.od; obtain ⟨ad251, e251, hx251_0⟩ := Kd.at_int (Kd.V_reads' HO249.out).2.2 0 p251 q251; cases e251; have qi251 : (0 < t247.length) = True := eq_true (by omega); (try rw [show ((0 : Int)).toNat = 0 from rfl] at hx251_0); (try rw [Addr.add_zero'] at hx251_0); replace p251 := eq_true p251; replace q251 := eq_true q251; have q13 : (1 : Int) ≤ ((t247.length : Int) : Int) := HW.od; obtain ⟨i013, hi013, _, hsz13, _⟩ := info_parts info5; have hroom13 : t247.length ≤ co12 := (Kd.V_reads' HO249.out).2.1; have hC13 : Kd.F (Kd.int .u8) _ _ (some ad251) t247.length t247 := (Kd.V_at (base := w.heap.size) HO249.out).2.2; have hcut13 := cut_from (P := Tryz.prog) 23 5 .i64 Tryz.underlying23 hi013 1 hsz13 (some ad251) t247.length co12 1 (by omega) q13; have hr13 := Kd.F_cut (m := (1 : Int).toNat) (c := co12) hC13 (by omega) hroom13; obtain ⟨A13, hA13⟩ : ∃ A1, A1 = (if co12 = (1 : Int).toNat then (some ad251) else ((some ad251) : Option Addr).map (·.add ((1 : Int).toNat * 1))) := ⟨_, rfl⟩; obtain ⟨c13, hc13⟩ : ∃ c1, c1 = co12 - (1 : Int).toNat := ⟨_, rfl⟩; have hy13 : y252.length = t247.length - (1 : Int).toNat := (by rw [Ny252.out, List.length_drop] <;> omega); rw [show (t247).drop (1 : Int).toNat = y252 from Ny252.out.symm] at hr13; replace hr13 : Kd.F (Kd.int .u8) _ _ A13 y252.length y252 := (by rw [hA13]; exact hr13); rw [← hy13, ← hA13, ← hc13] at hcut13; have HO256 := Aside0.mk (show Kd.V (Kd.int .u8) 5 _ w.heap.size _ (.slice A13 y252.length c13) y252 from Kd.V_mk (by rw [hy13, hc13]; exact Nat.sub_le_sub_right hroom13 _) hr13); have HC256 := Aside0.mk (show y252.length ≤ c13 from by rw [hy13, hc13]; exact Nat.sub_le_sub_right hroom13 _); clear hr13 hC13 hroom13 hi013 hsz13 hc13; have KY13 := Aside0.mk hy13; have KA13 := Aside0.mk hA13; clear hy13 hA13; replace q13 := eq_true q13) | (go_at_call 89; (with_reducible refine (bsoncore_ReadLength.calls (fun k_ => (P0_ k_ ∨ w.heap.size ≤ k_)) _ _ y252 t257 t258 t261 _ ?side1 A9.out).mono ?_); (case side1 => exact HO256.out); rintro e w14 ⟨v259, rfl, ho0, hb⟩; replace HO0 := Aside0.mk (Kd.V_below (HW.zV HO0.out) hb); replace HO249 := Aside0.mk (Kd.V_below (HW.zV HO249.out) hb); replace HO256 := Aside0.mk (Kd.V_below (HW.zV HO256.out) hb); have HO260 := Aside0.mk (Kd.V_lower (Kd.V_mono (ok' := fun k_ => (P0_ k_ ∨ w.heap.size ≤ k_)) ho0 (fun k_ hk_ => Or.elim hk_ (fun hs_ => hs_) (fun hn_ => (.inr (Nat.le_trans (below_size HW.zb) hn_))))) (below_size HW.zb)); replace HB := Aside0.mk (below_step HW.zb hb); (try clear hb); (try clear ho0)))
  repeat (go_quiet (fail); try go_upto_region 11 with (first | (go_at_call 89; (with_reducible refine (bsoncore_ReadLength.calls (fun k_ => (P0_ k_ ∨ w.heap.size ≤ k_)) _ _ y252 t257 t258 t261 _ ?side1 A9.out).mono ?_); (case side1 => exact HO256.out); rintro e w14 ⟨v259, rfl, ho0, hb⟩; replace HO0 := Aside0.mk (Kd.V_below (HW.zV HO0.out) hb); replace HO249 := Aside0.mk (Kd.V_below (HW.zV HO249.out) hb); replace HO256 := Aside0.mk (Kd.V_below (HW.zV HO256.out) hb); have HO260 := Aside0.mk (Kd.V_lower (Kd.V_mono (ok' := fun k_ => (P0_ k_ ∨ w.heap.size ≤ k_)) ho0 (fun k_ hk_ => Or.elim hk_ (fun hs_ => hs_) (fun hn_ => (.inr (Nat.le_trans (below_size HW.zb) hn_))))) (below_size HW.zb)); replace HB := Aside0.mk (below_step HW.zb hb); (try clear hb); (try clear ho0))))
  (try simp only [Act.put, List.setIfInBounds_toArray, List.set_cons_zero, List.set_cons_succ])
  go_cut [47] (fun v47 wc => ∃ (kq : Nat) (x47_9 : Bool), v47 = .bool x47_9 ∧ Aside0 (bsoncore_ReadBinary.j0 kq l0 (rd t247 0) t258 t257 x47_9 = some (r1, r2, r3, r4)) ∧ Aside0 (kq ≤ k) ∧ Aside0 (Kd.V (Kd.int .u8) 5 wc w.heap.size (fun k_ => (P0_ k_ ∨ w.heap.size ≤ k_)) (.slice A0 l0.length c0) l0) ∧ Aside0 (Kd.V (Kd.int .u8) 5 wc w.heap.size (fun k_ => (P0_ k_ ∨ w.heap.size ≤ k_)) v259 t258) ∧ Aside0 (Below w.heap.size w wc))
  case first =>
    have H := HC10.out; clear HC10
    by_cases c15 : t261 = true
    · subst c15
      have H1 : (bsoncore_ReadBinary.j0 k l0 (rd t247 0) t258 t257 (decide ((t258.length : Int) < (wrap64 (t257))))) = some (r1, r2, r3, r4) := by rw [if_pos rfl] at H; exact H
      clear H; have H := H1; clear H1
      as_aux_lemma =>
        have H' := Aside0.mk H; clear H; obtain ⟨Ao16, co16, eo16⟩ := Kd.V_slice HO260.out; subst eo16
        go_wp2
        repeat (go_quiet (fail); try go_wp2)
        go_meet
        case rel => exact ⟨_, (decide ((t258.length : Int) < (wrap64 (t257)))), HW.rs, H', ⟨by first | omega | exact Nat.le_refl _⟩, ⟨HW.zV HO0.out⟩, ⟨HW.zV HO260.out⟩, ⟨HW.zb⟩⟩
    replace c15 := Bool.eq_false_iff.mpr c15; subst c15
    have H1 : (bsoncore_ReadBinary.j0 k l0 (rd t247 0) t258 t257 true) = some (r1, r2, r3, r4) := by rw [if_neg (show ¬ (false = true) by decide)] at H; exact H
    clear H; have H := H1; clear H1
    as_aux_lemma =>
      have H' := Aside0.mk H; clear H
      go_wp2
      repeat (go_quiet (fail); try go_wp2)
      go_meet
      case rel => exact ⟨_, (true), HW.rs, H', ⟨by first | omega | exact Nat.le_refl _⟩, ⟨HW.zV HO0.out⟩, ⟨HW.zV HO260.out⟩, ⟨HW.zb⟩⟩
  case rest =>
    clear HC10
    (try clear c1); (try clear q1); (try clear p2); (try clear q2); (try clear hx2); (try clear qi2); (try clear c3); (try clear c4); (try clear c4b0); (try clear c4b1); (try clear c5); (try clear c5b0); (try clear c5b1); (try clear c6); (try clear c6b0); (try clear c6b1); (try clear p6); (try clear c7); (try clear c7b0); (try clear c8); (try clear c8b0); (try clear c8b1); (try clear c13); (try clear q13); (try clear c15); (try clear hx251_0); (try clear p251); (try clear q13); (try clear q251)
    obtain ⟨kq, x47_9, rfl, HA, HJ9, HO_0, HO_4, HB⟩ := hcut
    cases kq with
    | zero => exact absurd HA.out (by simp [bsoncore_ReadBinary.j0])
    | succ kj9 =>
      have H := HA.out; clear HA
      simp only [bsoncore_ReadBinary.j0] at H
      by_cases c17 : x47_9 = true
      · subst c17
        have H1 : (some (0, ([] : List Int), l0, false)) = some (r1, r2, r3, r4) := by rw [if_pos rfl] at H; exact H
        clear H; have H := H1; clear H1
        as_aux_lemma =>
          simp only [Option.some.injEq, Prod.mk.injEq] at H
          obtain ⟨rfl, rfl, rfl, rfl⟩ := H
          go_wp2
          repeat (go_quiet (fail); try go_wp2)
          refine bodyPost_ret (results_list (rs := [.tmp 2, .tmp 3, .tmp 4, .tmp 5]) rfl (by simp) (.tmp (.tmp (.tmp (.tmp .nil))))) rfl ?_
          exact ⟨_, _, rfl, Kd.V_nil _ _ _ _ _, HW.zV HO_0.out, HW.zb⟩
      replace c17 := Bool.eq_false_iff.mpr c17; subst c17
      have H1 : (if 0 ≤ t257 then (if t257 ≤ (t258.length : Int) then (some ((rd t247 0), (t258.take (t257 : Int).toNat), (t258.drop (t257 : Int).toNat), true)) else (none)) else (none)) = some (r1, r2, r3, r4) := by rw [if_neg (show ¬ (false = true) by decide)] at H; exact H
      clear H; have H := H1; clear H1
      by_cases c18 : 0 ≤ t257
      rotate_left
      · rw [if_neg c18] at H
        exact absurd H (by simp)
      rw [if_pos c18] at H; have c18b0 := eq_true c18; have c18b1 : decide (0 ≤ t257) = true := decide_eq_true c18; clear c18
      by_cases c19 : t257 ≤ (t258.length : Int)
      rotate_left
      · rw [if_neg c19] at H
        exact absurd H (by simp)
      rw [if_pos c19] at H; have c19b0 := eq_true c19; have c19b1 : decide (t257 ≤ (t258.length : Int)) = true := decide_eq_true c19; clear c19; obtain ⟨y262, hy262⟩ : ∃ y_ : List Int, y_ = (t258.take (t257 : Int).toNat) := ⟨_, rfl⟩
      replace H : (some ((rd t247 0), y262, (t258.drop (t257 : Int).toNat), true)) = some (r1, r2, r3, r4) := by (try rw [hy262]); exact HW.rp
      have Ny262 := Aside0.mk hy262; clear hy262
      have c20b0 := eq_true (HW.od : 0 ≤ t257)
      have c21b0 := eq_true (HW.od : t257 ≤ (t258.length : Int))
      obtain ⟨y267, hy267⟩ : ∃ y_ : List Int, y_ = (t258.drop (t257 : Int).toNat) := ⟨_, rfl⟩
      replace H : (some ((rd t247 0), y262, y267, true)) = some (r1, r2, r3, r4) := by (try rw [hy267]); exact HW.rp
      have Ny267 := Aside0.mk hy267; clear hy267
      as_aux_lemma =>
        simp only [Option.some.injEq, Prod.mk.injEq] at H
        obtain ⟨rfl, rfl, rfl, rfl⟩ := H; obtain ⟨Ao23, co23, eo23⟩ := Kd.V_slice HO_4.out; subst eo23
        have q22 : (t257 : Int) ≤ ((t258.length : Int) : Int) := HW.od
        obtain ⟨i022, hi022, _, hsz22, _⟩ := info_parts info5; have hroom22 : t258.length ≤ co23 := (Kd.V_reads' HO_4.out).2.1; have hC22 : Kd.F (Kd.int .u8) _ _ Ao23 t258.length t258 := (Kd.V_at (base := w.heap.size) HO_4.out).2.2
        have hcut22 := cut_to (P := Tryz.prog) 23 5 .i32 Tryz.underlying23 hi022 Ao23 t258.length co23 t257 (HW.od) q22 hroom22
        have hr22 := Kd.F_take (m := (t257 : Int).toNat) hC22 (by omega)
        have hy22 : y262.length = (t257 : Int).toNat := (by rw [Ny262.out, List.length_take]; omega)
        rw [← Ny262.out] at hr22; rw [← hy22] at hcut22
        have HO266 := Aside0.mk (show Kd.V (Kd.int .u8) 5 _ w.heap.size _ (.slice Ao23 y262.length co23) y262 from Kd.V_mk (by omega) hr22)
        have HC266 := Aside0.mk (show y262.length ≤ co23 from by omega)
        clear hr22 hC22 hroom22 hi022 hsz22; have KY22 := Aside0.mk hy22; clear hy22; replace q22 := eq_true q22
        have q24 : (t257 : Int) ≤ ((t258.length : Int) : Int) := HW.od
        obtain ⟨i024, hi024, _, hsz24, _⟩ := info_parts info5; have hroom24 : t258.length ≤ co23 := (Kd.V_reads' HO_4.out).2.1; have hC24 : Kd.F (Kd.int .u8) _ _ Ao23 t258.length t258 := (Kd.V_at (base := w.heap.size) HO_4.out).2.2
        have q024 : (0 : Int) ≤ (t257 : Int) := HW.od
        have hcut24 := cut_from (P := Tryz.prog) 23 5 .i32 Tryz.underlying23 hi024 1 hsz24 Ao23 t258.length co23 t257 q024 q24
        have hr24 := Kd.F_cut (m := (t257 : Int).toNat) (c := co23) hC24 (by omega) hroom24
        obtain ⟨A24, hA24⟩ : ∃ A1, A1 = (if co23 = (t257 : Int).toNat then Ao23 else (Ao23 : Option Addr).map (·.add ((t257 : Int).toNat * 1))) := ⟨_, rfl⟩; obtain ⟨c24, hc24⟩ : ∃ c1, c1 = co23 - (t257 : Int).toNat := ⟨_, rfl⟩
        have hy24 : y267.length = t258.length - (t257 : Int).toNat := (by rw [Ny267.out, List.length_drop] <;> omega)
        rw [show (t258).drop (t257 : Int).toNat = y267 from Ny267.out.symm] at hr24
        replace hr24 : Kd.F (Kd.int .u8) _ _ A24 y267.length y267 := (by rw [hA24]; exact hr24)
        rw [← hy24, ← hA24, ← hc24] at hcut24
        have HO271 := Aside0.mk (show Kd.V (Kd.int .u8) 5 _ w.heap.size _ (.slice A24 y267.length c24) y267 from Kd.V_mk (by rw [hy24, hc24]; exact Nat.sub_le_sub_right hroom24 _) hr24)
        have HC271 := Aside0.mk (show y267.length ≤ c24 from by rw [hy24, hc24]; exact Nat.sub_le_sub_right hroom24 _)
        clear hr24 hC24 hroom24 hi024 hsz24 hc24; have KY24 := Aside0.mk hy24; have KA24 := Aside0.mk hA24; clear hy24 hA24; replace q24 := eq_true q24
        go_wp2
        repeat (go_quiet (fail); try go_wp2)
        refine bodyPost_ret (results_list (rs := [.tmp 2, .tmp 3, .tmp 4, .tmp 5]) rfl (by simp) (.tmp (.tmp (.tmp (.tmp .nil))))) rfl ?_
        exact ⟨_, _, rfl, HW.zV HO266.out, HW.zV HO271.out, HW.zb⟩
def bsoncore_Value_BinaryOK.f (k : Nat) (a0_0 : Int) (l0_1 : List Int) : Option (Int × List Int × Bool) := if a0_0 = 5 then ((bsoncore_ReadBinary.f k l0_1).bind fun bt283 => (if bt283.2.2.2 = true then (some (bt283.1, bt283.2.1, true)) else (none))) else (some (0, ([] : List Int), false))
theorem bsoncore_Value_BinaryOK.mono : ∀ a0 a1 k, LeO (bsoncore_Value_BinaryOK.f k a0 a1) (bsoncore_Value_BinaryOK.f (k + 1) a0 a1) := by
  intro a0 a1 k
  unfold bsoncore_Value_BinaryOK.f
  have m0_ := @bsoncore_ReadBinary.mono; exact HW.mo
theorem bsoncore_Value_BinaryOK.calls (k : Nat) (a0_0 : Int) (P0_1_ : Nat → Prop) (A0_1 : Option Addr) (c0_1 : Nat) (l0_1 : List Int) (r1 : Int) (r2 : List Int) (r3 : Bool) (w : World) (hs0_1 : Kd.V (Kd.int .u8) 5 w w.heap.size (fun k_ => P0_1_ k_) (.slice A0_1 l0_1.length c0_1) l0_1) (h : bsoncore_Value_BinaryOK.f k a0_0 l0_1 = some (r1, r2, r3)) :
    Calls Tryz.prog 46 #[.agg #[.int .u8 a0_0, .slice A0_1 l0_1.length c0_1]] w fun e w' => ∃ v1_ : Value, e = .returned (.tuple #[.int .u8 r1, v1_, .bool r3]) ∧ Kd.V (Kd.int .u8) 5 w' w.heap.size (fun k_ => (P0_1_ k_ ∨ w.heap.size ≤ k_)) v1_ r2 ∧ Below w.heap.size w w' := by
  have hu92 := Tryz.underlying92; have HO0_1 := Aside0.mk (show Kd.V (Kd.int .u8) 5 w w.heap.size (fun k_ => (P0_1_ k_ ∨ w.heap.size ≤ k_)) (.slice A0_1 l0_1.length c0_1) l0_1 from Kd.V_mono hs0_1 (fun k_ hk => .inl hk)); have HB := Aside0.mk (Below.refl w.heap.size w); have H : (if a0_0 = 5 then ((bsoncore_ReadBinary.f k l0_1).bind fun bt283 => (if bt283.2.2.2 = true then (some (bt283.1, bt283.2.1, true)) else (none))) else (some (0, ([] : List Int), false))) = some (r1, r2, r3) := h; clear h
  by_cases c2 : a0_0 = 5
  rotate_left
  · rw [if_neg c2] at H
    have c2b0 : (a0_0 == 5) = false := beq_eq_false_iff_ne.mpr c2; have c2b1 : (a0_0 != 5) = true := bne_iff_ne.mpr c2
    as_aux_lemma =>
      simp only [Option.some.injEq, Prod.mk.injEq] at H
      obtain ⟨rfl, rfl, rfl⟩ := H
      go_enter Tryz.func46, Tryz.ntmps46
      go_wp2_with (first | ((with_reducible refine gate_dst (N := 1) rfl ?_); refine box_event ?hg (N := 1) ?hd (cs := #[.int .u8 a0_0, .slice A0_1 l0_1.length c0_1]) (t := 92) ?hr ?_; (case hd => rfl); (case hg => rfl); (case hr => first | (go_simp; done) | (go_simp; rfl)); intro gb282 hg w8 hbox hb; have n0_ := Aside0.mk (Kd.V_below (Kd.V_elderB (HW.zV HO0_1.out) gb282 (Nat.le_of_eq hg.symm)) hb); have n1_ := Aside0.mk (below_step HW.zb hb); have n2_ := Aside0.mk (hbox); have n4_ := Aside0.mk ((by rw [hg]; exact (below_size HW.zb) : w.heap.size ≤ gb282)); clear HO0_1; clear HB; have HO0_1 := n0_; have HB := n1_; have BK282 := n2_; have GE282 := n4_; clear n0_ n1_ n2_ n4_; clear hb hbox hg; obtain ⟨hcz9_0, hcz9_1⟩ := HW.k2 BK282.out))
      go_ret3
      exact ⟨_, rfl, Kd.V_nil _ _ _ _ _, HW.zb⟩
  rw [if_pos c2] at H; have c2b0 : (a0_0 == 5) = true := beq_iff_eq.mpr c2; have c2b1 : (a0_0 != 5) = false := bne_eq_false_iff_eq.mpr c2; clear c2; replace H := Option.bind_eq_some_iff.mp H; obtain ⟨⟨t283, t284, t287, t290⟩, A30, H⟩ := H; replace H : (if t290 = true then (some (t283, t284, true)) else (none)) = some (r1, r2, r3) := H; have A3 := Aside0.mk A30; clear A30
  by_cases c4 : t290 = true
  rotate_left
  · replace c4 := Bool.eq_false_iff.mpr c4
    subst c4
    have H1 : (none) = some (r1, r2, r3) := by rw [if_neg (show ¬ (false = true) by decide)] at H; exact H
    clear H; have H := H1; clear H1
    exact absurd H (by simp)
  subst c4
  have H1 : (some (t283, t284, true)) = some (r1, r2, r3) := by rw [if_pos rfl] at H; exact H
  clear H; have H := H1; clear H1
  as_aux_lemma =>
    simp only [Option.some.injEq, Prod.mk.injEq] at H
    obtain ⟨rfl, rfl, rfl⟩ := H
    go_enter Tryz.func46, Tryz.ntmps46
    go_wp2_with (first | ((with_reducible refine gate_dst (N := 1) rfl ?_); refine box_event ?hg (N := 1) ?hd (cs := #[.int .u8 a0_0, .slice A0_1 l0_1.length c0_1]) (t := 92) ?hr ?_; (case hd => rfl); (case hg => rfl); (case hr => first | (go_simp; done) | (go_simp; rfl)); intro gb282 hg w5 hbox hb; have n0_ := Aside0.mk (Kd.V_below (Kd.V_elderB (HW.zV HO0_1.out) gb282 (Nat.le_of_eq hg.symm)) hb); have n1_ := Aside0.mk (below_step HW.zb hb); have n2_ := Aside0.mk (hbox); have n4_ := Aside0.mk ((by rw [hg]; exact (below_size HW.zb) : w.heap.size ≤ gb282)); clear HO0_1; clear HB; have HO0_1 := n0_; have HB := n1_; have BK282 := n2_; have GE282 := n4_; clear n0_ n1_ n2_ n4_; clear hb hbox hg; obtain ⟨hcz6_0, hcz6_1⟩ := HW.k2 BK282.out) | ((with_reducible refine gate_callee (f := 71) rfl ?_); refine HW.gz (some 11) rfl rfl Tryz.func71 (by kernel_rfl) rfl #[.slice A0_1 l0_1.length c0_1] rfl ?_; (with_reducible refine (bsoncore_ReadBinary.calls k (fun k_ => ((P0_1_ k_ ∨ w.heap.size ≤ k_) ∧ k_ ≠ gb282)) _ _ l0_1 t283 t284 t287 true _ ?side1 A3.out).mono ?_); (case side1 => exact HO0_1.out); rintro e w7 ⟨v285, v288, rfl, ho0, ho1, hb⟩; refine ⟨_, rfl, ?_⟩; have HO286 := Aside0.mk (Kd.V_lower (Kd.V_mono (ok' := fun k_ => (P0_1_ k_ ∨ w.heap.size ≤ k_) ∧ k_ ≠ gb282) ho0 (fun k_ hk_ => ⟨Or.elim hk_ (fun hs_ => hs_.1) (fun hn_ => (.inr (Nat.le_trans (below_size HW.zb) hn_))), Or.elim hk_ (fun hs_ => hs_.2) (fun hn_ => (Kd.freshB (g := gb282) (o := .cells #[.int .u8 a0_0, .slice A0_1 l0_1.length c0_1] 92 (0, 0)) (HW.zB BK282.out) k_ hn_))⟩)) (below_size HW.zb)); replace HB := Aside0.mk (below_step HW.zb hb); (try clear hb); (try clear ho0); (try clear ho1)))
    go_ret3
    exact ⟨_, rfl, by (with_reducible repeat (first | apply Kd.V_alloc | apply Kd.V_drewN | apply Kd.V_drew)); exact Kd.V_mono HO286.out (fun _ hk => hk.1), HW.zb⟩
def bson_RawValue_BinaryOK.f (k : Nat) (a0_0 : Int) (l0_1 : List Int) : Option (Int × List Int × Bool) := (bson_convertToCoreValue.f a0_0 l0_1).bind fun bt292 => ((bsoncore_Value_BinaryOK.f k bt292.1 bt292.2).bind fun bt296 => (some (bt296.1, bt296.2.1, bt296.2.2)))
theorem bson_RawValue_BinaryOK.mono : ∀ a0 a1 k, LeO (bson_RawValue_BinaryOK.f k a0 a1) (bson_RawValue_BinaryOK.f (k + 1) a0 a1) := by
  intro a0 a1 k
  unfold bson_RawValue_BinaryOK.f
  have m0_ := @bsoncore_Value_BinaryOK.mono; exact HW.mo
theorem bson_RawValue_BinaryOK.calls (k : Nat) (a0_0 : Int) (P0_1_ : Nat → Prop) (A0_1 : Option Addr) (c0_1 : Nat) (l0_1 : List Int) (r1 : Int) (r2 : List Int) (r3 : Bool) (w : World) (hs0_1 : Kd.V (Kd.int .u8) 5 w w.heap.size (fun k_ => P0_1_ k_) (.slice A0_1 l0_1.length c0_1) l0_1) (h : bson_RawValue_BinaryOK.f k a0_0 l0_1 = some (r1, r2, r3)) :
    Calls Tryz.prog 22 #[.agg #[.int .u8 a0_0, .slice A0_1 l0_1.length c0_1]] w fun e w' => ∃ v1_ : Value, e = .returned (.tuple #[.int .u8 r1, v1_, .bool r3]) ∧ Kd.V (Kd.int .u8) 5 w' w.heap.size (fun k_ => (P0_1_ k_ ∨ w.heap.size ≤ k_)) v1_ r2 ∧ Below w.heap.size w w' := by
  have hu41 := Tryz.underlying41; have HO0_1 := Aside0.mk (show Kd.V (Kd.int .u8) 5 w w.heap.size (fun k_ => (P0_1_ k_ ∨ w.heap.size ≤ k_)) (.slice A0_1 l0_1.length c0_1) l0_1 from Kd.V_mono hs0_1 (fun k_ hk => .inl hk)); have HB := Aside0.mk (Below.refl w.heap.size w); have H : ((bson_convertToCoreValue.f a0_0 l0_1).bind fun bt292 => ((bsoncore_Value_BinaryOK.f k bt292.1 bt292.2).bind fun bt296 => (some (bt296.1, bt296.2.1, bt296.2.2)))) = some (r1, r2, r3) := h; clear h; replace H := Option.bind_eq_some_iff.mp H; obtain ⟨⟨t292, t293⟩, A20, H⟩ := H; replace H : ((bsoncore_Value_BinaryOK.f k t292 t293).bind fun bt296 => (some (bt296.1, bt296.2.1, bt296.2.2))) = some (r1, r2, r3) := H; have A2 := Aside0.mk A20; clear A20; replace H := Option.bind_eq_some_iff.mp H; obtain ⟨⟨t296, t297, t300⟩, A30, H⟩ := H; replace H : (some (t296, t297, t300)) = some (r1, r2, r3) := H; have A3 := Aside0.mk A30; clear A30
  as_aux_lemma =>
    simp only [Option.some.injEq, Prod.mk.injEq] at H
    obtain ⟨rfl, rfl, rfl⟩ := H
    go_enter Tryz.func22, Tryz.ntmps22
    go_wp2_with (first | ((with_reducible refine gate_dst (N := 1) rfl ?_); refine box_event ?hg (N := 1) ?hd (cs := #[.int .u8 a0_0, .slice A0_1 l0_1.length c0_1]) (t := 41) ?hr ?_; (case hd => rfl); (case hg => rfl); (case hr => first | (go_simp; done) | (go_simp; rfl)); intro gb291 hg w4 hbox hb; have n0_ := Aside0.mk (Kd.V_below (Kd.V_elderB (HW.zV HO0_1.out) gb291 (Nat.le_of_eq hg.symm)) hb); have n1_ := Aside0.mk (below_step HW.zb hb); have n2_ := Aside0.mk (hbox); have n4_ := Aside0.mk ((by rw [hg]; exact (below_size HW.zb) : w.heap.size ≤ gb291)); clear HO0_1; clear HB; have HO0_1 := n0_; have HB := n1_; have BK291 := n2_; have GE291 := n4_; clear n0_ n1_ n2_ n4_; clear hb hbox hg; obtain ⟨hcz5_0, hcz5_1⟩ := HW.k2 BK291.out) | ((with_reducible refine gate_callee (f := 41) rfl ?_); refine HW.gz (some 6) rfl rfl Tryz.func41 (by kernel_rfl) rfl #[.agg #[.int .u8 a0_0, .slice A0_1 l0_1.length c0_1]] rfl ?_; (with_reducible refine (bson_convertToCoreValue.calls a0_0 (fun k_ => ((P0_1_ k_ ∨ w.heap.size ≤ k_) ∧ k_ ≠ gb291)) _ _ l0_1 t292 t293 _ ?side1 A2.out).mono ?_); (case side1 => exact HO0_1.out); rintro e w6 ⟨v294, rfl, ho0, hb⟩; refine ⟨_, rfl, ?_⟩; have HO295 := Aside0.mk (Kd.V_lower (Kd.V_mono (ok' := fun k_ => (P0_1_ k_ ∨ w.heap.size ≤ k_) ∧ k_ ≠ gb291) ho0 (fun k_ hk_ => ⟨Or.elim hk_ (fun hs_ => hs_.1) (fun hn_ => (.inr (Nat.le_trans (below_size HW.zb) hn_))), Or.elim hk_ (fun hs_ => hs_.2) (fun hn_ => (Kd.freshB (g := gb291) (o := .cells #[.int .u8 a0_0, .slice A0_1 l0_1.length c0_1] 41 (0, 0)) (HW.zB BK291.out) k_ hn_))⟩)) (below_size HW.zb)); replace BK291 := Aside0.mk (blk_below (HW.zB BK291.out) hb); replace HB := Aside0.mk (below_step HW.zb hb); (try clear hb); (try clear ho0); obtain ⟨Ao7, co7, eo7⟩ := Kd.V_slice HO295.out; subst eo7) | ((with_reducible refine gate_callee (f := 46) rfl ?_); refine HW.gz (some 7) rfl rfl Tryz.func46 (by kernel_rfl) rfl #[.agg #[.int .u8 t292, .slice Ao7 t293.length co7]] rfl ?_; (with_reducible refine (bsoncore_Value_BinaryOK.calls k t292 (fun k_ => ((P0_1_ k_ ∨ w.heap.size ≤ k_) ∧ k_ ≠ gb291)) _ _ t293 t296 t297 t300 _ ?side1 A3.out).mono ?_); (case side1 => exact HO295.out); rintro e w8 ⟨v298, rfl, ho0, hb⟩; refine ⟨_, rfl, ?_⟩; have HO299 := Aside0.mk (Kd.V_lower (Kd.V_mono (ok' := fun k_ => (P0_1_ k_ ∨ w.heap.size ≤ k_) ∧ k_ ≠ gb291) ho0 (fun k_ hk_ => ⟨Or.elim hk_ (fun hs_ => hs_.1) (fun hn_ => (.inr (Nat.le_trans (below_size HW.zb) hn_))), Or.elim hk_ (fun hs_ => hs_.2) (fun hn_ => (Kd.freshB (g := gb291) (o := .cells #[.int .u8 a0_0, .slice A0_1 l0_1.length c0_1] 41 (0, 0)) (HW.zB BK291.out) k_ hn_))⟩)) (below_size HW.zb)); replace HB := Aside0.mk (below_step HW.zb hb); (try clear hb); (try clear ho0)))
    go_ret3
    exact ⟨_, rfl, by (with_reducible repeat (first | apply Kd.V_alloc | apply Kd.V_drewN | apply Kd.V_drew)); exact Kd.V_mono HO299.out (fun _ hk => hk.1), HW.zb⟩
def bsoncore_ReadBoolean.f (l0 : List Int) : Option (Bool × List Int × Bool) := if (l0.length : Int) < 1 then (none) else (if 0 < (l0.length : Int) then (if 1 ≤ (l0.length : Int) then (some (((rd l0 0) == 1), (l0.drop 1), true)) else (none)) else (none))
theorem bsoncore_ReadBoolean.calls (P0_ : Nat → Prop) (A0 : Option Addr) (c0 : Nat) (l0 : List Int) (r1 : Bool) (r2 : List Int) (r3 : Bool) (w : World) (hs0 : Kd.V (Kd.int .u8) 5 w w.heap.size (fun k_ => P0_ k_) (.slice A0 l0.length c0) l0) (h : bsoncore_ReadBoolean.f l0 = some (r1, r2, r3)) :
    Calls Tryz.prog 73 #[.slice A0 l0.length c0] w fun e w' => ∃ v1_ : Value, e = .returned (.tuple #[.bool r1, v1_, .bool r3]) ∧ Kd.V (Kd.int .u8) 5 w' w.heap.size (fun k_ => (P0_ k_ ∨ w.heap.size ≤ k_)) v1_ r2 ∧ Below w.heap.size w w' := by
  have HO0 := Aside0.mk (show Kd.V (Kd.int .u8) 5 w w.heap.size (fun k_ => (P0_ k_ ∨ w.heap.size ≤ k_)) (.slice A0 l0.length c0) l0 from Kd.V_mono hs0 (fun k_ hk => .inl hk)); have HB := Aside0.mk (Below.refl w.heap.size w); have H : (if (l0.length : Int) < 1 then (none) else (if 0 < (l0.length : Int) then (if 1 ≤ (l0.length : Int) then (some (((rd l0 0) == 1), (l0.drop 1), true)) else (none)) else (none))) = some (r1, r2, r3) := h; clear h
  by_cases c2 : (l0.length : Int) < 1
  · rw [if_pos c2] at H
    exact absurd H (by simp)
  rw [if_neg c2] at H; have c2b0 : decide ((l0.length : Int) < 1) = false := decide_eq_false c2
  have c2b1 : decide (l0.length < 1) = false := decide_eq_false (by omega)
  clear c2
  by_cases c3 : 0 < (l0.length : Int)
  rotate_left
  · rw [if_neg c3] at H
    exact absurd H (by simp)
  rw [if_pos c3] at H; have c3b0 : decide (0 < (l0.length : Int)) = true := decide_eq_true c3
  have c3b1 : decide (0 < l0.length) = true := decide_eq_true (by omega)
  clear c3
  by_cases c4 : 1 ≤ (l0.length : Int)
  rotate_left
  · rw [if_neg c4] at H
    exact absurd H (by simp)
  rw [if_pos c4] at H; have c4b0 := eq_true c4; have c4b1 : decide (1 ≤ (l0.length : Int)) = true := decide_eq_true c4; clear c4; obtain ⟨y302, hy302⟩ : ∃ y_ : List Int, y_ = (l0.drop 1) := ⟨_, rfl⟩
  replace H : (some (((rd l0 0) == 1), y302, true)) = some (r1, r2, r3) := by (try rw [hy302]); exact HW.rp
  have Ny302 := Aside0.mk hy302; clear hy302
  as_aux_lemma =>
    simp only [Option.some.injEq, Prod.mk.injEq] at H
    obtain ⟨rfl, rfl, rfl⟩ := H
    have p301 : 0 ≤ (0 : Int) := (by omega)
    have q301 : 0 < (l0.length : Int) := HW.od
    obtain ⟨ad301, e301, hx301_0⟩ := Kd.at_int (Kd.V_reads' HO0.out).2.2 0 p301 q301
    cases e301
    have qi301 : (0 < l0.length) = True := eq_true (by omega)
    (try rw [show ((0 : Int)).toNat = 0 from rfl] at hx301_0)
    (try rw [Addr.add_zero'] at hx301_0)
    replace p301 := eq_true p301; replace q301 := eq_true q301
    have q5 : (1 : Int) ≤ ((l0.length : Int) : Int) := HW.od
    obtain ⟨i05, hi05, _, hsz5, _⟩ := info_parts info5; have hroom5 : l0.length ≤ c0 := (Kd.V_reads' HO0.out).2.1; have hC5 : Kd.F (Kd.int .u8) _ _ (some ad301) l0.length l0 := (Kd.V_at (base := w.heap.size) HO0.out).2.2
    have hcut5 := cut_from (P := Tryz.prog) 23 5 .i64 Tryz.underlying23 hi05 1 hsz5 (some ad301) l0.length c0 1 (by omega) q5
    have hr5 := Kd.F_cut (m := (1 : Int).toNat) (c := c0) hC5 (by omega) hroom5
    obtain ⟨A5, hA5⟩ : ∃ A1, A1 = (if c0 = (1 : Int).toNat then (some ad301) else ((some ad301) : Option Addr).map (·.add ((1 : Int).toNat * 1))) := ⟨_, rfl⟩; obtain ⟨c5, hc5⟩ : ∃ c1, c1 = c0 - (1 : Int).toNat := ⟨_, rfl⟩
    have hy5 : y302.length = l0.length - (1 : Int).toNat := (by rw [Ny302.out, List.length_drop] <;> omega)
    rw [show (l0).drop (1 : Int).toNat = y302 from Ny302.out.symm] at hr5
    replace hr5 : Kd.F (Kd.int .u8) _ _ A5 y302.length y302 := (by rw [hA5]; exact hr5)
    rw [← hy5, ← hA5, ← hc5] at hcut5
    have HO306 := Aside0.mk (show Kd.V (Kd.int .u8) 5 _ w.heap.size _ (.slice A5 y302.length c5) y302 from Kd.V_mk (by rw [hy5, hc5]; exact Nat.sub_le_sub_right hroom5 _) hr5)
    have HC306 := Aside0.mk (show y302.length ≤ c5 from by rw [hy5, hc5]; exact Nat.sub_le_sub_right hroom5 _)
    clear hr5 hC5 hroom5 hi05 hsz5 hc5; have KY5 := Aside0.mk hy5; have KA5 := Aside0.mk hA5; clear hy5 hA5; replace q5 := eq_true q5
    go_enter Tryz.func73, Tryz.ntmps73
    go_wp2
    repeat (go_quiet (fail); try go_wp2)
    go_ret3
    exact ⟨_, rfl, HW.zV HO306.out, HW.zb⟩
def bsoncore_Value_BooleanOK.f (a0_0 : Int) (l0_1 : List Int) : Option (Bool × Bool) := if a0_0 = 8 then ((bsoncore_ReadBoolean.f l0_1).bind fun bt308 => (if bt308.2.2 = true then (some (bt308.1, true)) else (none))) else (some (false, false))
theorem bsoncore_Value_BooleanOK.calls (a0_0 : Int) (A0_1 : Option Addr) (c0_1 : Nat) (l0_1 : List Int) (r1 : Bool) (r2 : Bool) (w : World) (hr0_1 : Kd.C (Kd.int .u8) w A0_1 l0_1.length l0_1) (hc0_1 : l0_1.length ≤ c0_1) (h : bsoncore_Value_BooleanOK.f a0_0 l0_1 = some (r1, r2)) :
    Calls Tryz.prog 48 #[.agg #[.int .u8 a0_0, .slice A0_1 l0_1.length c0_1]] w fun e w' => e = .returned (.tuple #[.bool r1, .bool r2]) ∧ Below w.heap.size w w' := by
  have hu92 := Tryz.underlying92; have HR0_1 := Aside0.mk hr0_1; have HC0_1 := Aside0.mk hc0_1; clear hr0_1 hc0_1; have HB := Aside0.mk (Below.refl w.heap.size w); have H : (if a0_0 = 8 then ((bsoncore_ReadBoolean.f l0_1).bind fun bt308 => (if bt308.2.2 = true then (some (bt308.1, true)) else (none))) else (some (false, false))) = some (r1, r2) := h; clear h
  by_cases c2 : a0_0 = 8
  rotate_left
  · rw [if_neg c2] at H
    have c2b0 : (a0_0 == 8) = false := beq_eq_false_iff_ne.mpr c2; have c2b1 : (a0_0 != 8) = true := bne_iff_ne.mpr c2
    as_aux_lemma =>
      simp only [Option.some.injEq, Prod.mk.injEq] at H
      obtain ⟨rfl, rfl⟩ := H
      go_enter Tryz.func48, Tryz.ntmps48
      go_wp2_with (first | ((with_reducible refine gate_dst (N := 1) rfl ?_); refine box_event ?hg (N := 1) ?hd (cs := #[.int .u8 a0_0, .slice A0_1 l0_1.length c0_1]) (t := 92) ?hr ?_; (case hd => rfl); (case hg => rfl); (case hr => first | (go_simp; done) | (go_simp; rfl)); intro gb307 hg w8 hbox hb; have n0_ := Aside0.mk (below_step HW.zb hb); have n1_ := Aside0.mk (hbox); have n3_ := Aside0.mk ((by rw [hg]; exact (below_size HW.zb) : w.heap.size ≤ gb307)); clear HB; have HB := n0_; have BK307 := n1_; have GE307 := n3_; clear n0_ n1_ n3_; clear hb hbox hg; obtain ⟨hcz9_0, hcz9_1⟩ := HW.k2 BK307.out))
      go_ret2
      exact ⟨rfl, HW.zb⟩
  rw [if_pos c2] at H; have c2b0 : (a0_0 == 8) = true := beq_iff_eq.mpr c2; have c2b1 : (a0_0 != 8) = false := bne_eq_false_iff_eq.mpr c2; clear c2; replace H := Option.bind_eq_some_iff.mp H; obtain ⟨⟨t308, t309, t312⟩, A30, H⟩ := H; replace H : (if t312 = true then (some (t308, true)) else (none)) = some (r1, r2) := H; have A3 := Aside0.mk A30; clear A30
  by_cases c4 : t312 = true
  rotate_left
  · replace c4 := Bool.eq_false_iff.mpr c4
    subst c4
    have H1 : (none) = some (r1, r2) := by rw [if_neg (show ¬ (false = true) by decide)] at H; exact H
    clear H; have H := H1; clear H1
    exact absurd H (by simp)
  subst c4
  have H1 : (some (t308, true)) = some (r1, r2) := by rw [if_pos rfl] at H; exact H
  clear H; have H := H1; clear H1
  as_aux_lemma =>
    simp only [Option.some.injEq, Prod.mk.injEq] at H
    obtain ⟨rfl, rfl⟩ := H
    go_enter Tryz.func48, Tryz.ntmps48
    go_wp2_with (first | ((with_reducible refine gate_dst (N := 1) rfl ?_); refine box_event ?hg (N := 1) ?hd (cs := #[.int .u8 a0_0, .slice A0_1 l0_1.length c0_1]) (t := 92) ?hr ?_; (case hd => rfl); (case hg => rfl); (case hr => first | (go_simp; done) | (go_simp; rfl)); intro gb307 hg w5 hbox hb; have n0_ := Aside0.mk (below_step HW.zb hb); have n1_ := Aside0.mk (hbox); have n3_ := Aside0.mk ((by rw [hg]; exact (below_size HW.zb) : w.heap.size ≤ gb307)); clear HB; have HB := n0_; have BK307 := n1_; have GE307 := n3_; clear n0_ n1_ n3_; clear hb hbox hg; obtain ⟨hcz6_0, hcz6_1⟩ := HW.k2 BK307.out) | ((with_reducible refine gate_callee (f := 73) rfl ?_); refine HW.gz (some 13) rfl rfl Tryz.func73 (by kernel_rfl) rfl #[.slice A0_1 l0_1.length c0_1] rfl ?_; (with_reducible refine (bsoncore_ReadBoolean.calls (fun k_ => k_ < w.heap.size) _ _ l0_1 t308 t309 true _ ?side1 A3.out).mono ?_); (case side1 => exact Kd.V_mk HC0_1.out (Kd.F_below (Kd.C_F (Kd.heap_int .u8) HR0_1.out) HW.zb)); rintro e w7 ⟨v310, rfl, ho0, hb⟩; refine ⟨_, rfl, ?_⟩; have n2_ := Aside0.mk (below_step HW.zb hb); clear HB; have HB := n2_; clear n2_; (try clear hb); (try clear ho0)))
    go_ret2
    exact ⟨rfl, HW.zb⟩
def bson_RawValue_BooleanOK.f (a0_0 : Int) (l0_1 : List Int) : Option (Bool × Bool) := (bson_convertToCoreValue.f a0_0 l0_1).bind fun bt314 => ((bsoncore_Value_BooleanOK.f bt314.1 bt314.2).bind fun bt318 => (some (bt318.1, bt318.2)))
theorem bson_RawValue_BooleanOK.calls (a0_0 : Int) (A0_1 : Option Addr) (c0_1 : Nat) (l0_1 : List Int) (r1 : Bool) (r2 : Bool) (w : World) (hr0_1 : Kd.C (Kd.int .u8) w A0_1 l0_1.length l0_1) (hc0_1 : l0_1.length ≤ c0_1) (h : bson_RawValue_BooleanOK.f a0_0 l0_1 = some (r1, r2)) :
    Calls Tryz.prog 24 #[.agg #[.int .u8 a0_0, .slice A0_1 l0_1.length c0_1]] w fun e w' => e = .returned (.tuple #[.bool r1, .bool r2]) ∧ Below w.heap.size w w' := by
  have hu41 := Tryz.underlying41; have HR0_1 := Aside0.mk hr0_1; have HC0_1 := Aside0.mk hc0_1; clear hr0_1 hc0_1; have HB := Aside0.mk (Below.refl w.heap.size w); have H : ((bson_convertToCoreValue.f a0_0 l0_1).bind fun bt314 => ((bsoncore_Value_BooleanOK.f bt314.1 bt314.2).bind fun bt318 => (some (bt318.1, bt318.2)))) = some (r1, r2) := h; clear h; replace H := Option.bind_eq_some_iff.mp H; obtain ⟨⟨t314, t315⟩, A20, H⟩ := H; replace H : ((bsoncore_Value_BooleanOK.f t314 t315).bind fun bt318 => (some (bt318.1, bt318.2))) = some (r1, r2) := H; have A2 := Aside0.mk A20; clear A20; replace H := Option.bind_eq_some_iff.mp H; obtain ⟨⟨t318, t319⟩, A30, H⟩ := H; replace H : (some (t318, t319)) = some (r1, r2) := H; have A3 := Aside0.mk A30; clear A30
  as_aux_lemma =>
    simp only [Option.some.injEq, Prod.mk.injEq] at H
    obtain ⟨rfl, rfl⟩ := H
    go_enter Tryz.func24, Tryz.ntmps24
    go_wp2_with (first | ((with_reducible refine gate_dst (N := 1) rfl ?_); refine box_event ?hg (N := 1) ?hd (cs := #[.int .u8 a0_0, .slice A0_1 l0_1.length c0_1]) (t := 41) ?hr ?_; (case hd => rfl); (case hg => rfl); (case hr => first | (go_simp; done) | (go_simp; rfl)); intro gb313 hg w4 hbox hb; have n0_ := Aside0.mk (below_step HW.zb hb); have n1_ := Aside0.mk (hbox); have n2_ := Aside0.mk ((by rw [hg]; exact (below_size HW.zb) : w.heap.size ≤ gb313)); have n3_ := Aside0.mk ((by rw [hg]; exact (below_size HW.zb) : w.heap.size ≤ gb313)); clear HB; have HB := n0_; have BK313 := n1_; have GW313 := n2_; have GE313 := n3_; clear n0_ n1_ n2_ n3_; clear hb hbox hg; obtain ⟨hcz5_0, hcz5_1⟩ := HW.k2 BK313.out) | ((with_reducible refine gate_callee (f := 41) rfl ?_); refine HW.gz (some 5) rfl rfl Tryz.func41 (by kernel_rfl) rfl #[.agg #[.int .u8 a0_0, .slice A0_1 l0_1.length c0_1]] rfl ?_; (with_reducible refine (bson_convertToCoreValue.calls a0_0 (fun k_ => k_ < w.heap.size) _ _ l0_1 t314 t315 _ ?side1 A2.out).mono ?_); (case side1 => exact Kd.V_mk HC0_1.out (Kd.F_below (Kd.C_F (Kd.heap_int .u8) HR0_1.out) HW.zb)); rintro e w6 ⟨v316, rfl, ho0, hb⟩; refine ⟨_, rfl, ?_⟩; have n0_ := Aside0.mk (Kd.V_lower (Kd.V_mono (ok' := fun k_ => k_ ≠ gb313) ho0 (fun k_ hk_ => Or.elim hk_ (fun hs_ => fun e_ => Nat.not_le.2 hs_ (by rw [e_]; exact GW313.out)) (fun hn_ => (Kd.freshB (g := gb313) (o := .cells #[.int .u8 a0_0, .slice A0_1 l0_1.length c0_1] 41 (0, 0)) (HW.zB BK313.out) k_ hn_)))) (below_size HW.zb)); have n2_ := Aside0.mk (below_step HW.zb hb); clear HB; have HO317 := n0_; have HB := n2_; clear n0_ n2_; (try clear hb); (try clear ho0); obtain ⟨Ao7, co7, eo7⟩ := Kd.V_slice HO317.out; subst eo7) | ((with_reducible refine gate_callee (f := 48) rfl ?_); refine HW.gz (some 6) rfl rfl Tryz.func48 (by kernel_rfl) rfl #[.agg #[.int .u8 t314, .slice Ao7 t315.length co7]] rfl ?_; (with_reducible refine (bsoncore_Value_BooleanOK.calls t314 _ _ t315 t318 t319 _ ?side1 ?side2 A3.out).mono ?_); (case side1 => repeat (first | exact (Kd.V_reads' HO317.out).2.2 | (with_reducible refine Kd.C_alloc ?_ _) | (with_reducible refine Kd.C_drewN ?_ _) | (with_reducible refine Kd.C_drew ?_))); (case side2 => exact (Kd.V_reads' HO317.out).2.1); rintro e w8 ⟨rfl, hb⟩; refine ⟨_, rfl, ?_⟩; have n2_ := Aside0.mk (below_step HW.zb hb); clear HB; have HB := n2_; clear n2_; (try clear hb)))
    go_ret2
    exact ⟨rfl, HW.zb⟩
def impl_one.f (a0 : Bool) : Option (Int) := if a0 = true then (some 1) else (some 0)
theorem impl_one.calls (a0 : Bool) (r : Int) (w : World) (h : impl_one.f a0 = some r) :
    Calls Tryz.prog 25 #[.bool a0] w fun e w' => e = .returned (.int .i64 r) ∧ Drawn0 w w' := by
  have H : (if a0 = true then (some 1) else (some 0)) = some r := h; clear h
  by_cases c2 : a0 = true
  · subst c2
    have H1 : (some 1) = some r := by rw [if_pos rfl] at H; exact H
    clear H; have H := H1; clear H1
    as_aux_lemma =>
      obtain rfl := Option.some.inj H
      go_enter Tryz.func25, Tryz.ntmps25
      go_wp2
      go_ret
      exact ⟨by first | rfl | (simp; done) | (simp [*]; done), by repeat (first | exact Drawn0.refl _ | apply Drawn0.step)⟩
  replace c2 := Bool.eq_false_iff.mpr c2; subst c2
  have H1 : (some 0) = some r := by rw [if_neg (show ¬ (false = true) by decide)] at H; exact H
  clear H; have H := H1; clear H1
  as_aux_lemma =>
    obtain rfl := Option.some.inj H
    go_enter Tryz.func25, Tryz.ntmps25
    go_wp2
    go_ret
    exact ⟨by first | rfl | (simp; done) | (simp [*]; done), by repeat (first | exact Drawn0.refl _ | apply Drawn0.step)⟩
def binaryutil_ReadI64.f (l0 : List Int) : Option (Int × List Int × Bool) := if (l0.length : Int) < 8 then (none) else (if 7 < (l0.length : Int) then (if 0 < (l0.length : Int) then (if 1 < (l0.length : Int) then (if 2 < (l0.length : Int) then (if 3 < (l0.length : Int) then (if 4 < (l0.length : Int) then (if 5 < (l0.length : Int) then (if 6 < (l0.length : Int) then (if 8 ≤ (l0.length : Int) then (some (Go.bits .or .i64 (Go.bits .or .i64 (Go.bits .or .i64 (Go.bits .or .i64 (Go.bits .or .i64 (Go.bits .or .i64 (Go.bits .or .i64 (wrap64 (rd l0 0)) (wrap64 ((wrap64 (rd l0 1)) * 256))) (wrap64 ((wrap64 (rd l0 2)) * 65536))) (wrap64 ((wrap64 (rd l0 3)) * 16777216))) (wrap64 ((wrap64 (rd l0 4)) * 4294967296))) (wrap64 ((wrap64 (rd l0 5)) * 1099511627776))) (wrap64 ((wrap64 (rd l0 6)) * 281474976710656))) (wrap64 ((wrap64 (rd l0 7)) * 72057594037927936)), (l0.drop 8), true)) else (none)) else (none)) else (none)) else (none)) else (none)) else (none)) else (none)) else (none)) else (none))
theorem binaryutil_ReadI64.calls (P0_ : Nat → Prop) (A0 : Option Addr) (c0 : Nat) (l0 : List Int) (r1 : Int) (r2 : List Int) (r3 : Bool) (w : World) (hs0 : Kd.V (Kd.int .u8) 5 w w.heap.size (fun k_ => P0_ k_) (.slice A0 l0.length c0) l0) (h : binaryutil_ReadI64.f l0 = some (r1, r2, r3)) :
    Calls Tryz.prog 90 #[.slice A0 l0.length c0] w fun e w' => ∃ v1_ : Value, e = .returned (.tuple #[.int .i64 r1, v1_, .bool r3]) ∧ Kd.V (Kd.int .u8) 5 w' w.heap.size (fun k_ => (P0_ k_ ∨ w.heap.size ≤ k_)) v1_ r2 ∧ Below w.heap.size w w' := by
  have HO0 := Aside0.mk (show Kd.V (Kd.int .u8) 5 w w.heap.size (fun k_ => (P0_ k_ ∨ w.heap.size ≤ k_)) (.slice A0 l0.length c0) l0 from Kd.V_mono hs0 (fun k_ hk => .inl hk)); have HB := Aside0.mk (Below.refl w.heap.size w)
  have H : (if (l0.length : Int) < 8 then (none) else (if 7 < (l0.length : Int) then (if 0 < (l0.length : Int) then (if 1 < (l0.length : Int) then (if 2 < (l0.length : Int) then (if 3 < (l0.length : Int) then (if 4 < (l0.length : Int) then (if 5 < (l0.length : Int) then (if 6 < (l0.length : Int) then (if 8 ≤ (l0.length : Int) then (some (Go.bits .or .i64 (Go.bits .or .i64 (Go.bits .or .i64 (Go.bits .or .i64 (Go.bits .or .i64 (Go.bits .or .i64 (Go.bits .or .i64 (wrap64 (rd l0 0)) (wrap64 ((wrap64 (rd l0 1)) * 256))) (wrap64 ((wrap64 (rd l0 2)) * 65536))) (wrap64 ((wrap64 (rd l0 3)) * 16777216))) (wrap64 ((wrap64 (rd l0 4)) * 4294967296))) (wrap64 ((wrap64 (rd l0 5)) * 1099511627776))) (wrap64 ((wrap64 (rd l0 6)) * 281474976710656))) (wrap64 ((wrap64 (rd l0 7)) * 72057594037927936)), (l0.drop 8), true)) else (none)) else (none)) else (none)) else (none)) else (none)) else (none)) else (none)) else (none)) else (none))) = some (r1, r2, r3) := h
  clear h
  by_cases c2 : (l0.length : Int) < 8
  · rw [if_pos c2] at H
    exact absurd H (by simp)
  rw [if_neg c2] at H; have c2b0 : decide ((l0.length : Int) < 8) = false := decide_eq_false c2
  have c2b1 : decide (l0.length < 8) = false := decide_eq_false (by omega)
  clear c2
  by_cases c3 : 7 < (l0.length : Int)
  rotate_left
  · rw [if_neg c3] at H
    exact absurd H (by simp)
  rw [if_pos c3] at H; have c3b0 : decide (7 < (l0.length : Int)) = true := decide_eq_true c3
  have c3b1 : decide (7 < l0.length) = true := decide_eq_true (by omega)
  clear c3
  by_cases c4 : 0 < (l0.length : Int)
  rotate_left
  · rw [if_neg c4] at H
    exact absurd H (by simp)
  rw [if_pos c4] at H; have c4b0 : decide (0 < (l0.length : Int)) = true := decide_eq_true c4
  have c4b1 : decide (0 < l0.length) = true := decide_eq_true (by omega)
  clear c4
  by_cases c5 : 1 < (l0.length : Int)
  rotate_left
  · rw [if_neg c5] at H
    exact absurd H (by simp)
  rw [if_pos c5] at H; have c5b0 : decide (1 < (l0.length : Int)) = true := decide_eq_true c5
  have c5b1 : decide (1 < l0.length) = true := decide_eq_true (by omega)
  clear c5
  by_cases c6 : 2 < (l0.length : Int)
  rotate_left
  · rw [if_neg c6] at H
    exact absurd H (by simp)
  rw [if_pos c6] at H; have c6b0 : decide (2 < (l0.length : Int)) = true := decide_eq_true c6
  have c6b1 : decide (2 < l0.length) = true := decide_eq_true (by omega)
  clear c6
  by_cases c7 : 3 < (l0.length : Int)
  rotate_left
  · rw [if_neg c7] at H
    exact absurd H (by simp)
  rw [if_pos c7] at H; have c7b0 : decide (3 < (l0.length : Int)) = true := decide_eq_true c7
  have c7b1 : decide (3 < l0.length) = true := decide_eq_true (by omega)
  clear c7
  by_cases c8 : 4 < (l0.length : Int)
  rotate_left
  · rw [if_neg c8] at H
    exact absurd H (by simp)
  rw [if_pos c8] at H; have c8b0 : decide (4 < (l0.length : Int)) = true := decide_eq_true c8
  have c8b1 : decide (4 < l0.length) = true := decide_eq_true (by omega)
  clear c8
  by_cases c9 : 5 < (l0.length : Int)
  rotate_left
  · rw [if_neg c9] at H
    exact absurd H (by simp)
  rw [if_pos c9] at H; have c9b0 : decide (5 < (l0.length : Int)) = true := decide_eq_true c9
  have c9b1 : decide (5 < l0.length) = true := decide_eq_true (by omega)
  clear c9
  by_cases c10 : 6 < (l0.length : Int)
  rotate_left
  · rw [if_neg c10] at H
    exact absurd H (by simp)
  rw [if_pos c10] at H; have c10b0 : decide (6 < (l0.length : Int)) = true := decide_eq_true c10
  have c10b1 : decide (6 < l0.length) = true := decide_eq_true (by omega)
  clear c10
  by_cases c11 : 8 ≤ (l0.length : Int)
  rotate_left
  · rw [if_neg c11] at H
    exact absurd H (by simp)
  rw [if_pos c11] at H; have c11b0 := eq_true c11; have c11b1 : decide (8 ≤ (l0.length : Int)) = true := decide_eq_true c11; clear c11; obtain ⟨y329, hy329⟩ : ∃ y_ : List Int, y_ = (l0.drop 8) := ⟨_, rfl⟩
  replace H : (some (Go.bits .or .i64 (Go.bits .or .i64 (Go.bits .or .i64 (Go.bits .or .i64 (Go.bits .or .i64 (Go.bits .or .i64 (Go.bits .or .i64 (wrap64 (rd l0 0)) (wrap64 ((wrap64 (rd l0 1)) * 256))) (wrap64 ((wrap64 (rd l0 2)) * 65536))) (wrap64 ((wrap64 (rd l0 3)) * 16777216))) (wrap64 ((wrap64 (rd l0 4)) * 4294967296))) (wrap64 ((wrap64 (rd l0 5)) * 1099511627776))) (wrap64 ((wrap64 (rd l0 6)) * 281474976710656))) (wrap64 ((wrap64 (rd l0 7)) * 72057594037927936)), y329, true)) = some (r1, r2, r3) := by (try rw [hy329]); exact HW.rp
  have Ny329 := Aside0.mk hy329; clear hy329
  as_aux_lemma =>
    simp only [Option.some.injEq, Prod.mk.injEq] at H
    obtain ⟨rfl, rfl, rfl⟩ := H
    have p320 : 0 ≤ (7 : Int) := (by omega)
    have q320 : 7 < (l0.length : Int) := HW.od
    obtain ⟨ad320, e320, hx320_0⟩ := Kd.at_int (Kd.V_reads' HO0.out).2.2 7 p320 q320
    cases e320
    (try simp only [show (7 : Int).toNat = 7 from rfl, Nat.reduceMul, Nat.reduceEqDiff, Go.Addr.add, ↓reduceIte] at hx320_0)
    have qi320 : (7 < l0.length) = True := eq_true (by omega)
    (try rw [show ((7 : Int)).toNat = 7 from rfl] at hx320_0)
    replace p320 := eq_true p320; replace q320 := eq_true q320
    have p321 : 0 ≤ (0 : Int) := (by omega)
    have q321 : 0 < (l0.length : Int) := HW.od
    obtain ⟨ad321, e321, hx321_0⟩ := Kd.at_int (Kd.V_reads' HO0.out).2.2 0 p321 q321
    obtain rfl : ad320 = ad321 := (by injection e321)
    have qi321 : (0 < l0.length) = True := eq_true (by omega)
    (try rw [show ((0 : Int)).toNat = 0 from rfl] at hx321_0)
    (try rw [Addr.add_zero'] at hx321_0)
    replace p321 := eq_true p321; replace q321 := eq_true q321
    have p322 : 0 ≤ (1 : Int) := (by omega)
    have q322 : 1 < (l0.length : Int) := HW.od
    obtain ⟨ad322, e322, hx322_0⟩ := Kd.at_int (Kd.V_reads' HO0.out).2.2 1 p322 q322
    obtain rfl : ad320 = ad322 := (by injection e322)
    (try simp only [show (1 : Int).toNat = 1 from rfl, Nat.reduceMul, Nat.reduceEqDiff, Go.Addr.add, ↓reduceIte] at hx322_0)
    have qi322 : (1 < l0.length) = True := eq_true (by omega)
    (try rw [show ((1 : Int)).toNat = 1 from rfl] at hx322_0)
    replace p322 := eq_true p322; replace q322 := eq_true q322
    have p323 : 0 ≤ (2 : Int) := (by omega)
    have q323 : 2 < (l0.length : Int) := HW.od
    obtain ⟨ad323, e323, hx323_0⟩ := Kd.at_int (Kd.V_reads' HO0.out).2.2 2 p323 q323
    obtain rfl : ad320 = ad323 := (by injection e323)
    (try simp only [show (2 : Int).toNat = 2 from rfl, Nat.reduceMul, Nat.reduceEqDiff, Go.Addr.add, ↓reduceIte] at hx323_0)
    have qi323 : (2 < l0.length) = True := eq_true (by omega)
    (try rw [show ((2 : Int)).toNat = 2 from rfl] at hx323_0)
    replace p323 := eq_true p323; replace q323 := eq_true q323
    have p324 : 0 ≤ (3 : Int) := (by omega)
    have q324 : 3 < (l0.length : Int) := HW.od
    obtain ⟨ad324, e324, hx324_0⟩ := Kd.at_int (Kd.V_reads' HO0.out).2.2 3 p324 q324
    obtain rfl : ad320 = ad324 := (by injection e324)
    (try simp only [show (3 : Int).toNat = 3 from rfl, Nat.reduceMul, Nat.reduceEqDiff, Go.Addr.add, ↓reduceIte] at hx324_0)
    have qi324 : (3 < l0.length) = True := eq_true (by omega)
    (try rw [show ((3 : Int)).toNat = 3 from rfl] at hx324_0)
    replace p324 := eq_true p324; replace q324 := eq_true q324
    have p325 : 0 ≤ (4 : Int) := (by omega)
    have q325 : 4 < (l0.length : Int) := HW.od
    obtain ⟨ad325, e325, hx325_0⟩ := Kd.at_int (Kd.V_reads' HO0.out).2.2 4 p325 q325
    obtain rfl : ad320 = ad325 := (by injection e325)
    (try simp only [show (4 : Int).toNat = 4 from rfl, Nat.reduceMul, Nat.reduceEqDiff, Go.Addr.add, ↓reduceIte] at hx325_0)
    have qi325 : (4 < l0.length) = True := eq_true (by omega)
    (try rw [show ((4 : Int)).toNat = 4 from rfl] at hx325_0)
    replace p325 := eq_true p325; replace q325 := eq_true q325
    have p326 : 0 ≤ (5 : Int) := (by omega)
    have q326 : 5 < (l0.length : Int) := HW.od
    obtain ⟨ad326, e326, hx326_0⟩ := Kd.at_int (Kd.V_reads' HO0.out).2.2 5 p326 q326
    obtain rfl : ad320 = ad326 := (by injection e326)
    (try simp only [show (5 : Int).toNat = 5 from rfl, Nat.reduceMul, Nat.reduceEqDiff, Go.Addr.add, ↓reduceIte] at hx326_0)
    have qi326 : (5 < l0.length) = True := eq_true (by omega)
    (try rw [show ((5 : Int)).toNat = 5 from rfl] at hx326_0)
    replace p326 := eq_true p326; replace q326 := eq_true q326
    have p327 : 0 ≤ (6 : Int) := (by omega)
    have q327 : 6 < (l0.length : Int) := HW.od
    obtain ⟨ad327, e327, hx327_0⟩ := Kd.at_int (Kd.V_reads' HO0.out).2.2 6 p327 q327
    obtain rfl : ad320 = ad327 := (by injection e327)
    (try simp only [show (6 : Int).toNat = 6 from rfl, Nat.reduceMul, Nat.reduceEqDiff, Go.Addr.add, ↓reduceIte] at hx327_0)
    have qi327 : (6 < l0.length) = True := eq_true (by omega)
    (try rw [show ((6 : Int)).toNat = 6 from rfl] at hx327_0)
    replace p327 := eq_true p327; replace q327 := eq_true q327
    have p328 : 0 ≤ (7 : Int) := (by omega)
    have q328 : 7 < (l0.length : Int) := HW.od
    obtain ⟨ad328, e328, hx328_0⟩ := Kd.at_int (Kd.V_reads' HO0.out).2.2 7 p328 q328
    obtain rfl : ad320 = ad328 := (by injection e328)
    (try simp only [show (7 : Int).toNat = 7 from rfl, Nat.reduceMul, Nat.reduceEqDiff, Go.Addr.add, ↓reduceIte] at hx328_0)
    have qi328 : (7 < l0.length) = True := eq_true (by omega)
    (try rw [show ((7 : Int)).toNat = 7 from rfl] at hx328_0)
    replace p328 := eq_true p328; replace q328 := eq_true q328
    have q12 : (8 : Int) ≤ ((l0.length : Int) : Int) := HW.od
    obtain ⟨i012, hi012, _, hsz12, _⟩ := info_parts info5; have hroom12 : l0.length ≤ c0 := (Kd.V_reads' HO0.out).2.1; have hC12 : Kd.F (Kd.int .u8) _ _ (some ad320) l0.length l0 := (Kd.V_at (base := w.heap.size) HO0.out).2.2
    have hcut12 := cut_from (P := Tryz.prog) 23 5 .i64 Tryz.underlying23 hi012 1 hsz12 (some ad320) l0.length c0 8 (by omega) q12
    have hr12 := Kd.F_cut (m := (8 : Int).toNat) (c := c0) hC12 (by omega) hroom12
    obtain ⟨A12, hA12⟩ : ∃ A1, A1 = (if c0 = (8 : Int).toNat then (some ad320) else ((some ad320) : Option Addr).map (·.add ((8 : Int).toNat * 1))) := ⟨_, rfl⟩; obtain ⟨c12, hc12⟩ : ∃ c1, c1 = c0 - (8 : Int).toNat := ⟨_, rfl⟩
    have hy12 : y329.length = l0.length - (8 : Int).toNat := (by rw [Ny329.out, List.length_drop] <;> omega)
    rw [show (l0).drop (8 : Int).toNat = y329 from Ny329.out.symm] at hr12
    replace hr12 : Kd.F (Kd.int .u8) _ _ A12 y329.length y329 := (by rw [hA12]; exact hr12)
    rw [← hy12, ← hA12, ← hc12] at hcut12
    have HO333 := Aside0.mk (show Kd.V (Kd.int .u8) 5 _ w.heap.size _ (.slice A12 y329.length c12) y329 from Kd.V_mk (by rw [hy12, hc12]; exact Nat.sub_le_sub_right hroom12 _) hr12)
    have HC333 := Aside0.mk (show y329.length ≤ c12 from by rw [hy12, hc12]; exact Nat.sub_le_sub_right hroom12 _)
    clear hr12 hC12 hroom12 hi012 hsz12 hc12; have KY12 := Aside0.mk hy12; have KA12 := Aside0.mk hA12; clear hy12 hA12; replace q12 := eq_true q12
    go_enter Tryz.func90, Tryz.ntmps90
    go_wp2
    repeat (go_quiet (fail); try go_wp2)
    go_ret3
    exact ⟨_, rfl, HW.zV HO333.out, HW.zb⟩
def bsoncore_ReadDateTime.f (l0 : List Int) : Option (Int × List Int × Bool) := (binaryutil_ReadI64.f l0).bind fun bt334 => (some (bt334.1, bt334.2.1, bt334.2.2))
theorem bsoncore_ReadDateTime.calls (P0_ : Nat → Prop) (A0 : Option Addr) (c0 : Nat) (l0 : List Int) (r1 : Int) (r2 : List Int) (r3 : Bool) (w : World) (hs0 : Kd.V (Kd.int .u8) 5 w w.heap.size (fun k_ => P0_ k_) (.slice A0 l0.length c0) l0) (h : bsoncore_ReadDateTime.f l0 = some (r1, r2, r3)) :
    Calls Tryz.prog 74 #[.slice A0 l0.length c0] w fun e w' => ∃ v1_ : Value, e = .returned (.tuple #[.int .i64 r1, v1_, .bool r3]) ∧ Kd.V (Kd.int .u8) 5 w' w.heap.size (fun k_ => (P0_ k_ ∨ w.heap.size ≤ k_)) v1_ r2 ∧ Below w.heap.size w w' := by
  have HO0 := Aside0.mk (show Kd.V (Kd.int .u8) 5 w w.heap.size (fun k_ => (P0_ k_ ∨ w.heap.size ≤ k_)) (.slice A0 l0.length c0) l0 from Kd.V_mono hs0 (fun k_ hk => .inl hk)); have HB := Aside0.mk (Below.refl w.heap.size w); have H : ((binaryutil_ReadI64.f l0).bind fun bt334 => (some (bt334.1, bt334.2.1, bt334.2.2))) = some (r1, r2, r3) := h; clear h; replace H := Option.bind_eq_some_iff.mp H; obtain ⟨⟨t334, t335, t338⟩, A20, H⟩ := H; replace H : (some (t334, t335, t338)) = some (r1, r2, r3) := H; have A2 := Aside0.mk A20; clear A20
  as_aux_lemma =>
    simp only [Option.some.injEq, Prod.mk.injEq] at H
    obtain ⟨rfl, rfl, rfl⟩ := H
    go_enter Tryz.func74, Tryz.ntmps74
    go_wp2_with (first | ((with_reducible refine gate_callee (f := 90) rfl ?_); refine HW.gz (some 6) rfl rfl Tryz.func90 (by kernel_rfl) rfl #[.slice A0 l0.length c0] rfl ?_; (with_reducible refine (binaryutil_ReadI64.calls (fun k_ => (P0_ k_ ∨ w.heap.size ≤ k_)) _ _ l0 t334 t335 t338 _ ?side1 A2.out).mono ?_); (case side1 => exact HO0.out); rintro e w3 ⟨v336, rfl, ho0, hb⟩; refine ⟨_, rfl, ?_⟩; have HO337 := Aside0.mk (Kd.V_lower (Kd.V_mono (ok' := fun k_ => (P0_ k_ ∨ w.heap.size ≤ k_)) ho0 (fun k_ hk_ => Or.elim hk_ (fun hs_ => hs_) (fun hn_ => (.inr (Nat.le_trans (below_size HW.zb) hn_))))) (below_size HW.zb)); replace HB := Aside0.mk (below_step HW.zb hb); (try clear hb); (try clear ho0)))
    go_ret3
    exact ⟨_, rfl, HW.zV HO337.out, HW.zb⟩
def bsoncore_Value_DateTimeOK.f (a0_0 : Int) (l0_1 : List Int) : Option (Int × Bool) := if a0_0 = 9 then ((bsoncore_ReadDateTime.f l0_1).bind fun bt340 => (if bt340.2.2 = true then (some (bt340.1, true)) else (none))) else (some (0, false))
theorem bsoncore_Value_DateTimeOK.calls (a0_0 : Int) (A0_1 : Option Addr) (c0_1 : Nat) (l0_1 : List Int) (r1 : Int) (r2 : Bool) (w : World) (hr0_1 : Kd.C (Kd.int .u8) w A0_1 l0_1.length l0_1) (hc0_1 : l0_1.length ≤ c0_1) (h : bsoncore_Value_DateTimeOK.f a0_0 l0_1 = some (r1, r2)) :
    Calls Tryz.prog 49 #[.agg #[.int .u8 a0_0, .slice A0_1 l0_1.length c0_1]] w fun e w' => e = .returned (.tuple #[.int .i64 r1, .bool r2]) ∧ Below w.heap.size w w' := by
  have hu92 := Tryz.underlying92; have HR0_1 := Aside0.mk hr0_1; have HC0_1 := Aside0.mk hc0_1; clear hr0_1 hc0_1; have HB := Aside0.mk (Below.refl w.heap.size w); have H : (if a0_0 = 9 then ((bsoncore_ReadDateTime.f l0_1).bind fun bt340 => (if bt340.2.2 = true then (some (bt340.1, true)) else (none))) else (some (0, false))) = some (r1, r2) := h; clear h
  by_cases c2 : a0_0 = 9
  rotate_left
  · rw [if_neg c2] at H
    have c2b0 : (a0_0 == 9) = false := beq_eq_false_iff_ne.mpr c2; have c2b1 : (a0_0 != 9) = true := bne_iff_ne.mpr c2
    as_aux_lemma =>
      simp only [Option.some.injEq, Prod.mk.injEq] at H
      obtain ⟨rfl, rfl⟩ := H
      go_enter Tryz.func49, Tryz.ntmps49
      go_wp2_with (first | ((with_reducible refine gate_dst (N := 1) rfl ?_); refine box_event ?hg (N := 1) ?hd (cs := #[.int .u8 a0_0, .slice A0_1 l0_1.length c0_1]) (t := 92) ?hr ?_; (case hd => rfl); (case hg => rfl); (case hr => first | (go_simp; done) | (go_simp; rfl)); intro gb339 hg w8 hbox hb; have n0_ := Aside0.mk (below_step HW.zb hb); have n1_ := Aside0.mk (hbox); have n3_ := Aside0.mk ((by rw [hg]; exact (below_size HW.zb) : w.heap.size ≤ gb339)); clear HB; have HB := n0_; have BK339 := n1_; have GE339 := n3_; clear n0_ n1_ n3_; clear hb hbox hg; obtain ⟨hcz9_0, hcz9_1⟩ := HW.k2 BK339.out))
      go_ret2
      exact ⟨rfl, HW.zb⟩
  rw [if_pos c2] at H; have c2b0 : (a0_0 == 9) = true := beq_iff_eq.mpr c2; have c2b1 : (a0_0 != 9) = false := bne_eq_false_iff_eq.mpr c2; clear c2; replace H := Option.bind_eq_some_iff.mp H; obtain ⟨⟨t340, t341, t344⟩, A30, H⟩ := H; replace H : (if t344 = true then (some (t340, true)) else (none)) = some (r1, r2) := H; have A3 := Aside0.mk A30; clear A30
  by_cases c4 : t344 = true
  rotate_left
  · replace c4 := Bool.eq_false_iff.mpr c4
    subst c4
    have H1 : (none) = some (r1, r2) := by rw [if_neg (show ¬ (false = true) by decide)] at H; exact H
    clear H; have H := H1; clear H1
    exact absurd H (by simp)
  subst c4
  have H1 : (some (t340, true)) = some (r1, r2) := by rw [if_pos rfl] at H; exact H
  clear H; have H := H1; clear H1
  as_aux_lemma =>
    simp only [Option.some.injEq, Prod.mk.injEq] at H
    obtain ⟨rfl, rfl⟩ := H
    go_enter Tryz.func49, Tryz.ntmps49
    go_wp2_with (first | ((with_reducible refine gate_dst (N := 1) rfl ?_); refine box_event ?hg (N := 1) ?hd (cs := #[.int .u8 a0_0, .slice A0_1 l0_1.length c0_1]) (t := 92) ?hr ?_; (case hd => rfl); (case hg => rfl); (case hr => first | (go_simp; done) | (go_simp; rfl)); intro gb339 hg w5 hbox hb; have n0_ := Aside0.mk (below_step HW.zb hb); have n1_ := Aside0.mk (hbox); have n3_ := Aside0.mk ((by rw [hg]; exact (below_size HW.zb) : w.heap.size ≤ gb339)); clear HB; have HB := n0_; have BK339 := n1_; have GE339 := n3_; clear n0_ n1_ n3_; clear hb hbox hg; obtain ⟨hcz6_0, hcz6_1⟩ := HW.k2 BK339.out) | ((with_reducible refine gate_callee (f := 74) rfl ?_); refine HW.gz (some 13) rfl rfl Tryz.func74 (by kernel_rfl) rfl #[.slice A0_1 l0_1.length c0_1] rfl ?_; (with_reducible refine (bsoncore_ReadDateTime.calls (fun k_ => k_ < w.heap.size) _ _ l0_1 t340 t341 true _ ?side1 A3.out).mono ?_); (case side1 => exact Kd.V_mk HC0_1.out (Kd.F_below (Kd.C_F (Kd.heap_int .u8) HR0_1.out) HW.zb)); rintro e w7 ⟨v342, rfl, ho0, hb⟩; refine ⟨_, rfl, ?_⟩; have n2_ := Aside0.mk (below_step HW.zb hb); clear HB; have HB := n2_; clear n2_; (try clear hb); (try clear ho0)))
    go_ret2
    exact ⟨rfl, HW.zb⟩
end Go.Proofs.YtpbfigeaoefcmaaGreat.PBg
