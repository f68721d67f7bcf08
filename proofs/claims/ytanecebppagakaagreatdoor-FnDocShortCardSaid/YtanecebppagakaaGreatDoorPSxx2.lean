import Derived.Test.YtanecebppagakaaGreatDoorPSxx0
import Derived.Test.YtanecebppagakaaGreatDoorPSxx1
namespace Go.Proofs.YtanecebppagakaaGreatDoor.PSx
open Go.Proofs.YtanecebppagakaaGreatDoor.HW (tt ff)
open Go.RowKit Go.Proofs.YtanecebppagakaaGreatDoorW.PrintWords Go.Proofs.YtanecebppagakaaGreatDoorW.PrintLast Go.Proofs.YtanecebppagakaaGreatDoorW.PrintMore
attribute [local go_sem] max2_int min2_int max_two min_two max_three min_three max_four min_four
set_option linter.unusedVariables false
set_option maxHeartbeats 8000000
set_option maxRecDepth 100000
set_option linter.unusedSimpArgs false
def binaryutil_ReadCStringBytes.f (l0 : List Int) : Option (List Int × List Int × Bool) := (bytes_IndexByte.f l0 0).bind fun t185 => (if t185 < 0 then (some (([] : List Int), l0, false)) else (if 0 ≤ t185 then (if t185 ≤ (l0.length : Int) then (if 0 ≤ (wrap64 (t185 + 1)) then (if (wrap64 (t185 + 1)) ≤ (l0.length : Int) then (some ((l0.take (t185 : Int).toNat), (l0.drop ((wrap64 (t185 + 1)) : Int).toNat), true)) else (none)) else (none)) else (none)) else (none)))
theorem binaryutil_ReadCStringBytes.calls (P0_ : Nat → Prop) (A0 : Option Addr) (c0 : Nat) (l0 : List Int) (r1 : List Int) (r2 : List Int) (r3 : Bool) (w : World) (hs0 : Kd.V (Kd.int .u8) 5 w w.heap.size (fun k_ => P0_ k_) (.slice A0 l0.length c0) l0) (h : binaryutil_ReadCStringBytes.f l0 = some (r1, r2, r3)) :
    Calls Tryz.prog 102 #[.slice A0 l0.length c0] w fun e w' => ∃ v0_ v1_ : Value, e = .returned (.tuple #[v0_, v1_, .bool r3]) ∧ Kd.V (Kd.int .u8) 5 w' w.heap.size (fun k_ => (P0_ k_ ∨ w.heap.size ≤ k_)) v0_ r1 ∧ Kd.V (Kd.int .u8) 5 w' w.heap.size (fun k_ => (P0_ k_ ∨ w.heap.size ≤ k_)) v1_ r2 ∧ Below w.heap.size w w' := by
  have HO0 := Aside0.mk (show Kd.V (Kd.int .u8) 5 w w.heap.size (fun k_ => (P0_ k_ ∨ w.heap.size ≤ k_)) (.slice A0 l0.length c0) l0 from Kd.V_mono hs0 (fun k_ hk => .inl hk)); have HB := Aside0.mk (Below.refl w.heap.size w); have H : ((bytes_IndexByte.f l0 0).bind fun t185 => (if t185 < 0 then (some (([] : List Int), l0, false)) else (if 0 ≤ t185 then (if t185 ≤ (l0.length : Int) then (if 0 ≤ (wrap64 (t185 + 1)) then (if (wrap64 (t185 + 1)) ≤ (l0.length : Int) then (some ((l0.take (t185 : Int).toNat), (l0.drop ((wrap64 (t185 + 1)) : Int).toNat), true)) else (none)) else (none)) else (none)) else (none)))) = some (r1, r2, r3) := h; clear h; replace H := Option.bind_eq_some_iff.mp H; obtain ⟨t185, A20, H⟩ := H; replace H : (if t185 < 0 then (some (([] : List Int), l0, false)) else (if 0 ≤ t185 then (if t185 ≤ (l0.length : Int) then (if 0 ≤ (wrap64 (t185 + 1)) then (if (wrap64 (t185 + 1)) ≤ (l0.length : Int) then (some ((l0.take (t185 : Int).toNat), (l0.drop ((wrap64 (t185 + 1)) : Int).toNat), true)) else (none)) else (none)) else (none)) else (none))) = some (r1, r2, r3) := H; have A2 := Aside0.mk A20; clear A20
  by_cases c3 : t185 < 0
  · rw [if_pos c3] at H
    have c3b0 : decide (t185 < 0) = true := decide_eq_true c3; clear c3
    as_aux_lemma =>
      simp only [Option.some.injEq, Prod.mk.injEq] at H
      obtain ⟨rfl, rfl, rfl⟩ := H
      go_enter Tryz.func102, Tryz.ntmps102
      go_wp2_with (first | (go_at_call 129; (with_reducible refine (bytes_IndexByte.calls _ _ l0 0 t185 _ ?side1 ?side2 A2.out).mono ?_); (case side1 => repeat (first | exact (Kd.V_reads' HO0.out).2.2 | (with_reducible refine Kd.C_alloc ?_ _) | (with_reducible refine Kd.C_drewN ?_ _) | (with_reducible refine Kd.C_drew ?_))); (case side2 => exact (Kd.V_reads' HO0.out).2.1); rintro e w' ⟨rfl, ⟨nd, rfl⟩⟩; (try first | exact ⟨rfl, _, World.drewN_drewN _ _ _⟩ | exact ⟨rfl, _, Eq.trans (World.drewN_drewN _ _ _) (congrArg (World.drewN _) (Nat.add_assoc _ _ _))⟩)))
      repeat (go_quiet (fail); try go_wp2)
      go_ret3
      exact ⟨_, _, rfl, Kd.V_nil _ _ _ _ _, HW.zV HO0.out, HW.zb⟩
  rw [if_neg c3] at H; have c3b0 : decide (t185 < 0) = false := decide_eq_false c3; clear c3
  by_cases c4 : 0 ≤ t185
  rotate_left
  · rw [if_neg c4] at H
    exact absurd H (by simp)
  rw [if_pos c4] at H; have c4b0 := eq_true c4; have c4b1 : decide (0 ≤ t185) = true := decide_eq_true c4; clear c4
  by_cases c5 : t185 ≤ (l0.length : Int)
  rotate_left
  · rw [if_neg c5] at H
    exact absurd H (by simp)
  rw [if_pos c5] at H; have c5b0 := eq_true c5; have c5b1 : decide (t185 ≤ (l0.length : Int)) = true := decide_eq_true c5; clear c5; obtain ⟨y186, hy186⟩ : ∃ y_ : List Int, y_ = (l0.take (t185 : Int).toNat) := ⟨_, rfl⟩
  replace H : (if 0 ≤ (wrap64 (t185 + 1)) then (if (wrap64 (t185 + 1)) ≤ (l0.length : Int) then (some (y186, (l0.drop ((wrap64 (t185 + 1)) : Int).toNat), true)) else (none)) else (none)) = some (r1, r2, r3) := by (try rw [hy186]); exact HW.rp
  have Ny186 := Aside0.mk hy186; clear hy186; obtain ⟨ji6, hji6⟩ : ∃ j_ : Int, (wrap64 (t185 + 1)) = j_ := ⟨_, rfl⟩
  replace H : (if 0 ≤ (ji6) then (if (ji6) ≤ (l0.length : Int) then (some (y186, (l0.drop ((ji6) : Int).toNat), true)) else (none)) else (none)) = some (r1, r2, r3) := by first | (rw [hji6] at H; exact H) | (simp only [hji6] at H ⊢; exact H)
  (try rw [hji6] at A2)
  have hji6w : (IntKind.i64.wrap (t185 + 1)) = ji6 := (i64_w _).trans hji6
  by_cases c7 : 0 ≤ (ji6)
  rotate_left
  · rw [if_neg c7] at H
    exact absurd H (by simp)
  rw [if_pos c7] at H; have c7b0 := eq_true c7; have c7b1 : decide (0 ≤ (ji6)) = true := decide_eq_true c7; clear c7
  by_cases c8 : (ji6) ≤ (l0.length : Int)
  rotate_left
  · rw [if_neg c8] at H
    exact absurd H (by simp)
  rw [if_pos c8] at H; have c8b0 := eq_true c8; have c8b1 : decide ((ji6) ≤ (l0.length : Int)) = true := decide_eq_true c8; clear c8; obtain ⟨y191, hy191⟩ : ∃ y_ : List Int, y_ = (l0.drop ((ji6) : Int).toNat) := ⟨_, rfl⟩
  replace H : (some (y186, y191, true)) = some (r1, r2, r3) := by (try rw [hy191]); exact HW.rp
  have Ny191 := Aside0.mk hy191; clear hy191
  as_aux_lemma =>
    simp only [Option.some.injEq, Prod.mk.injEq] at H
    obtain ⟨rfl, rfl, rfl⟩ := H
    go_enter Tryz.func102, Tryz.ntmps102
    go_wp2_with (first | (go_at_call 129; (with_reducible refine (bytes_IndexByte.calls _ _ l0 0 t185 _ ?side1 ?side2 A2.out).mono ?_); (case side1 => repeat (first | exact (Kd.V_reads' HO0.out).2.2 | (with_reducible refine Kd.C_alloc ?_ _) | (with_reducible refine Kd.C_drewN ?_ _) | (with_reducible refine Kd.C_drew ?_))); (case side2 => exact (Kd.V_reads' HO0.out).2.1); rintro e w' ⟨rfl, ⟨nd, rfl⟩⟩; (try first | exact ⟨rfl, _, World.drewN_drewN _ _ _⟩ | exact ⟨rfl, _, Eq.trans (World.drewN_drewN _ _ _) (congrArg (World.drewN _) (Nat.add_assoc _ _ _))⟩); have q9 : (t185 : Int) ≤ ((l0.length : Int) : Int) := HW.od; obtain ⟨i09, hi09, _, hsz9, _⟩ := info_parts info5; have hroom9 : l0.length ≤ c0 := (Kd.V_reads' HO0.out).2.1; have hC9 : Kd.F (Kd.int .u8) _ _ A0 l0.length l0 := (Kd.V_at (base := w.heap.size) HO0.out).2.2; have hcut9 := cut_to (P := Tryz.prog) 22 5 .i64 Tryz.underlying22 hi09 A0 l0.length c0 t185 (HW.od) q9 hroom9; have hr9 := Kd.F_take (m := (t185 : Int).toNat) hC9 (by omega); have hy9 : y186.length = (t185 : Int).toNat := (by rw [Ny186.out, List.length_take]; omega); rw [← Ny186.out] at hr9; rw [← hy9] at hcut9; have HO190 := Aside0.mk (show Kd.V (Kd.int .u8) 5 _ w.heap.size _ (.slice A0 y186.length c0) y186 from Kd.V_mk (by omega) hr9); have HC190 := Aside0.mk (show y186.length ≤ c0 from by omega); clear hr9 hC9 hroom9 hi09 hsz9; have KY9 := Aside0.mk hy9; clear hy9; replace q9 := eq_true q9; have q10 : ((ji6) : Int) ≤ ((l0.length : Int) : Int) := HW.od; obtain ⟨i010, hi010, _, hsz10, _⟩ := info_parts info5; have hroom10 : l0.length ≤ c0 := (Kd.V_reads' HO0.out).2.1; have hC10 : Kd.F (Kd.int .u8) _ _ A0 l0.length l0 := (Kd.V_at (base := w.heap.size) HO0.out).2.2; have q010 : (0 : Int) ≤ ((ji6) : Int) := HW.od; have hcut10 := cut_from (P := Tryz.prog) 22 5 .i64 Tryz.underlying22 hi010 1 hsz10 A0 l0.length c0 (ji6) q010 q10; have hr10 := Kd.F_cut (m := ((ji6) : Int).toNat) (c := c0) hC10 (by omega) hroom10; obtain ⟨A10, hA10⟩ : ∃ A1, A1 = (if c0 = ((ji6) : Int).toNat then A0 else (A0 : Option Addr).map (·.add (((ji6) : Int).toNat * 1))) := ⟨_, rfl⟩; obtain ⟨c10, hc10⟩ : ∃ c1, c1 = c0 - ((ji6) : Int).toNat := ⟨_, rfl⟩; have hy10 : y191.length = l0.length - ((ji6) : Int).toNat := (by rw [Ny191.out, List.length_drop] <;> omega); rw [show (l0).drop ((ji6) : Int).toNat = y191 from Ny191.out.symm] at hr10; replace hr10 : Kd.F (Kd.int .u8) _ _ A10 y191.length y191 := (by rw [hA10]; exact hr10); rw [← hy10, ← hA10, ← hc10] at hcut10; have HO195 := Aside0.mk (show Kd.V (Kd.int .u8) 5 _ w.heap.size _ (.slice A10 y191.length c10) y191 from Kd.V_mk (by rw [hy10, hc10]; exact Nat.sub_le_sub_right hroom10 _) hr10); have HC195 := Aside0.mk (show y191.length ≤ c10 from by rw [hy10, hc10]; exact Nat.sub_le_sub_right hroom10 _); clear hr10 hC10 hroom10 hi010 hsz10 hc10; have KY10 := Aside0.mk hy10; have KA10 := Aside0.mk hA10; clear hy10 hA10; replace q10 := eq_true q10))
    repeat (go_quiet (fail); try go_wp2)
    go_ret3
    exact ⟨_, _, by first | rfl | (simp [errW_none, errW_some] <;> rfl) | (simp only [← hji6]; first | rfl | (simp [errW_none, errW_some] <;> rfl)) | (simp [*, errW_none, errW_some] <;> rfl), HW.zV HO190.out, HW.zV HO195.out, HW.zb⟩
def binaryutil_ReadCString.f (l0 : List Int) : Option (ByteArray × List Int × Bool) := (binaryutil_ReadCStringBytes.f l0).bind fun bt196 => (if bt196.2.2 = true then (some (strOfNums bt196.1, bt196.2.1, true)) else (some ((⟨#[]⟩ : ByteArray), l0, false)))
theorem binaryutil_ReadCString.calls (P0_ : Nat → Prop) (A0 : Option Addr) (c0 : Nat) (l0 : List Int) (r1 : ByteArray) (r2 : List Int) (r3 : Bool) (w : World) (hs0 : Kd.V (Kd.int .u8) 5 w w.heap.size (fun k_ => P0_ k_) (.slice A0 l0.length c0) l0) (h : binaryutil_ReadCString.f l0 = some (r1, r2, r3)) :
    Calls Tryz.prog 55 #[.slice A0 l0.length c0] w fun e w' => ∃ v1_ : Value, e = .returned (.tuple #[.string r1, v1_, .bool r3]) ∧ Kd.V (Kd.int .u8) 5 w' w.heap.size (fun k_ => (P0_ k_ ∨ w.heap.size ≤ k_)) v1_ r2 ∧ Below w.heap.size w w' := by
  have HO0 := Aside0.mk (show Kd.V (Kd.int .u8) 5 w w.heap.size (fun k_ => (P0_ k_ ∨ w.heap.size ≤ k_)) (.slice A0 l0.length c0) l0 from Kd.V_mono hs0 (fun k_ hk => .inl hk)); have HB := Aside0.mk (Below.refl w.heap.size w); have H : ((binaryutil_ReadCStringBytes.f l0).bind fun bt196 => (if bt196.2.2 = true then (some (strOfNums bt196.1, bt196.2.1, true)) else (some ((⟨#[]⟩ : ByteArray), l0, false)))) = some (r1, r2, r3) := h; clear h; replace H := Option.bind_eq_some_iff.mp H; obtain ⟨⟨t196, t199, t202⟩, A20, H⟩ := H; replace H : (if t202 = true then (some (strOfNums t196, t199, true)) else (some ((⟨#[]⟩ : ByteArray), l0, false))) = some (r1, r2, r3) := H; have A2 := Aside0.mk A20; clear A20
  by_cases c3 : t202 = true
  · subst c3
    have H1 : (some (strOfNums t196, t199, true)) = some (r1, r2, r3) := by rw [if_pos rfl] at H; exact H
    clear H; have H := H1; clear H1
    as_aux_lemma =>
      simp only [Option.some.injEq, Prod.mk.injEq] at H
      obtain ⟨rfl, rfl, rfl⟩ := H
      go_enter Tryz.func55, Tryz.ntmps55
      go_wp2_with (first | ((with_reducible refine gate_callee (f := 102) rfl ?_); refine HW.gz (some 10) rfl rfl Tryz.func102 (by kernel_rfl) rfl #[.slice A0 l0.length c0] rfl ?_; (with_reducible refine (binaryutil_ReadCStringBytes.calls (fun k_ => (P0_ k_ ∨ w.heap.size ≤ k_)) _ _ l0 t196 t199 true _ ?side1 A2.out).mono ?_); (case side1 => exact HO0.out); rintro e w4 ⟨v197, v200, rfl, ho0, ho1, hb⟩; refine ⟨_, rfl, ?_⟩; replace HO0 := Aside0.mk (Kd.V_below (HW.zV HO0.out) hb); have HO198 := Aside0.mk (Kd.V_lower (Kd.V_mono (ok' := fun k_ => (P0_ k_ ∨ w.heap.size ≤ k_)) ho0 (fun k_ hk_ => Or.elim hk_ (fun hs_ => hs_) (fun hn_ => (.inr (Nat.le_trans (below_size HW.zb) hn_))))) (below_size HW.zb)); have HO201 := Aside0.mk (Kd.V_lower (Kd.V_mono (ok' := fun k_ => (P0_ k_ ∨ w.heap.size ≤ k_)) ho1 (fun k_ hk_ => Or.elim hk_ (fun hs_ => hs_) (fun hn_ => (.inr (Nat.le_trans (below_size HW.zb) hn_))))) (below_size HW.zb)); replace HB := Aside0.mk (below_step HW.zb hb); (try clear hb); (try clear ho0); (try clear ho1); have hcv5 := HW.V_string (P := Tryz.prog) Tryz.underlying22 Tryz.underlying5 Tryz.underlying9 (HO198.out)))
      go_ret3
      exact ⟨_, rfl, HW.zV HO201.out, HW.zb⟩
  replace c3 := Bool.eq_false_iff.mpr c3; subst c3
  have H1 : (some ((⟨#[]⟩ : ByteArray), l0, false)) = some (r1, r2, r3) := by rw [if_neg (show ¬ (false = true) by decide)] at H; exact H
  clear H; have H := H1; clear H1
  as_aux_lemma =>
    simp only [Option.some.injEq, Prod.mk.injEq] at H
    obtain ⟨rfl, rfl, rfl⟩ := H
    go_enter Tryz.func55, Tryz.ntmps55
    go_wp2_with (first | ((with_reducible refine gate_callee (f := 102) rfl ?_); refine HW.gz (some 10) rfl rfl Tryz.func102 (by kernel_rfl) rfl #[.slice A0 l0.length c0] rfl ?_; (with_reducible refine (binaryutil_ReadCStringBytes.calls (fun k_ => (P0_ k_ ∨ w.heap.size ≤ k_)) _ _ l0 t196 t199 false _ ?side1 A2.out).mono ?_); (case side1 => exact HO0.out); rintro e w6 ⟨v197, v200, rfl, ho0, ho1, hb⟩; refine ⟨_, rfl, ?_⟩; replace HO0 := Aside0.mk (Kd.V_below (HW.zV HO0.out) hb); replace HB := Aside0.mk (below_step HW.zb hb); (try clear hb); (try clear ho0); (try clear ho1)))
    go_ret3
    exact ⟨_, rfl, HW.zV HO0.out, HW.zb⟩
def bsoncore_ReadRegex.f (l0 : List Int) : Option (ByteArray × ByteArray × List Int × Bool) := (binaryutil_ReadCString.f l0).bind fun bt203 => (if bt203.2.2 = true then ((binaryutil_ReadCString.f bt203.2.1).bind fun bt208 => (if bt208.2.2 = true then (some (bt203.1, bt208.1, bt208.2.1, true)) else (some ((⟨#[]⟩ : ByteArray), (⟨#[]⟩ : ByteArray), l0, false)))) else (some ((⟨#[]⟩ : ByteArray), (⟨#[]⟩ : ByteArray), l0, false)))
theorem bsoncore_ReadRegex.calls (P0_ : Nat → Prop) (A0 : Option Addr) (c0 : Nat) (l0 : List Int) (r1 : ByteArray) (r2 : ByteArray) (r3 : List Int) (r4 : Bool) (w : World) (hs0 : Kd.V (Kd.int .u8) 5 w w.heap.size (fun k_ => P0_ k_) (.slice A0 l0.length c0) l0) (h : bsoncore_ReadRegex.f l0 = some (r1, r2, r3, r4)) :
    Calls Tryz.prog 80 #[.slice A0 l0.length c0] w fun e w' => ∃ v2_ : Value, e = .returned (.tuple #[.string r1, .string r2, v2_, .bool r4]) ∧ Kd.V (Kd.int .u8) 5 w' w.heap.size (fun k_ => (P0_ k_ ∨ w.heap.size ≤ k_)) v2_ r3 ∧ Below w.heap.size w w' := by
  have HO0 := Aside0.mk (show Kd.V (Kd.int .u8) 5 w w.heap.size (fun k_ => (P0_ k_ ∨ w.heap.size ≤ k_)) (.slice A0 l0.length c0) l0 from Kd.V_mono hs0 (fun k_ hk => .inl hk)); have HB := Aside0.mk (Below.refl w.heap.size w); have H : ((binaryutil_ReadCString.f l0).bind fun bt203 => (if bt203.2.2 = true then ((binaryutil_ReadCString.f bt203.2.1).bind fun bt208 => (if bt208.2.2 = true then (some (bt203.1, bt208.1, bt208.2.1, true)) else (some ((⟨#[]⟩ : ByteArray), (⟨#[]⟩ : ByteArray), l0, false)))) else (some ((⟨#[]⟩ : ByteArray), (⟨#[]⟩ : ByteArray), l0, false)))) = some (r1, r2, r3, r4) := h; clear h; replace H := Option.bind_eq_some_iff.mp H; obtain ⟨⟨t203, t204, t207⟩, A20, H⟩ := H; replace H : (if t207 = true then ((binaryutil_ReadCString.f t204).bind fun bt208 => (if bt208.2.2 = true then (some (t203, bt208.1, bt208.2.1, true)) else (some ((⟨#[]⟩ : ByteArray), (⟨#[]⟩ : ByteArray), l0, false)))) else (some ((⟨#[]⟩ : ByteArray), (⟨#[]⟩ : ByteArray), l0, false))) = some (r1, r2, r3, r4) := H; have A2 := Aside0.mk A20; clear A20
  by_cases c3 : t207 = true
  rotate_left
  · replace c3 := Bool.eq_false_iff.mpr c3
    subst c3
    have H1 : (some ((⟨#[]⟩ : ByteArray), (⟨#[]⟩ : ByteArray), l0, false)) = some (r1, r2, r3, r4) := by rw [if_neg (show ¬ (false = true) by decide)] at H; exact H
    clear H; have H := H1; clear H1
    as_aux_lemma =>
      simp only [Option.some.injEq, Prod.mk.injEq] at H
      obtain ⟨rfl, rfl, rfl, rfl⟩ := H
      go_enter Tryz.func80, Tryz.ntmps80
      go_wp2_with (first | ((with_reducible refine gate_callee (f := 55) rfl ?_); refine HW.gz (some 8) rfl rfl Tryz.func55 (by kernel_rfl) rfl #[.slice A0 l0.length c0] rfl ?_; (with_reducible refine (binaryutil_ReadCString.calls (fun k_ => (P0_ k_ ∨ w.heap.size ≤ k_)) _ _ l0 t203 t204 false _ ?side1 A2.out).mono ?_); (case side1 => exact HO0.out); rintro e w12 ⟨v205, rfl, ho0, hb⟩; refine ⟨_, rfl, ?_⟩; replace HO0 := Aside0.mk (Kd.V_below (HW.zV HO0.out) hb); have HO206 := Aside0.mk (Kd.V_lower (Kd.V_mono (ok' := fun k_ => (P0_ k_ ∨ w.heap.size ≤ k_)) ho0 (fun k_ hk_ => Or.elim hk_ (fun hs_ => hs_) (fun hn_ => (.inr (Nat.le_trans (below_size HW.zb) hn_))))) (below_size HW.zb)); replace HB := Aside0.mk (below_step HW.zb hb); (try clear hb); (try clear ho0)))
      refine bodyPost_ret (results_list (rs := [.tmp 2, .tmp 3, .tmp 4, .tmp 5]) rfl (by simp) (.tmp (.tmp (.tmp (.tmp .nil))))) rfl ?_
      exact ⟨_, rfl, HW.zV HO0.out, HW.zb⟩
  subst c3
  have H1 : ((binaryutil_ReadCString.f t204).bind fun bt208 => (if bt208.2.2 = true then (some (t203, bt208.1, bt208.2.1, true)) else (some ((⟨#[]⟩ : ByteArray), (⟨#[]⟩ : ByteArray), l0, false)))) = some (r1, r2, r3, r4) := by rw [if_pos rfl] at H; exact H
  clear H; have H := H1; clear H1; replace H := Option.bind_eq_some_iff.mp H; obtain ⟨⟨t208, t209, t212⟩, A40, H⟩ := H; replace H : (if t212 = true then (some (t203, t208, t209, true)) else (some ((⟨#[]⟩ : ByteArray), (⟨#[]⟩ : ByteArray), l0, false))) = some (r1, r2, r3, r4) := H; have A4 := Aside0.mk A40; clear A40
  by_cases c5 : t212 = true
  · subst c5
    have H1 : (some (t203, t208, t209, true)) = some (r1, r2, r3, r4) := by rw [if_pos rfl] at H; exact H
    clear H; have H := H1; clear H1
    as_aux_lemma =>
      simp only [Option.some.injEq, Prod.mk.injEq] at H
      obtain ⟨rfl, rfl, rfl, rfl⟩ := H
      go_enter Tryz.func80, Tryz.ntmps80
      go_wp2_with (first | ((with_reducible refine gate_callee (f := 55) rfl ?_); refine HW.gz (some 8) rfl rfl Tryz.func55 (by kernel_rfl) rfl #[.slice A0 l0.length c0] rfl ?_; (with_reducible refine (binaryutil_ReadCString.calls (fun k_ => (P0_ k_ ∨ w.heap.size ≤ k_)) _ _ l0 t203 t204 true _ ?side1 A2.out).mono ?_); (case side1 => exact HO0.out); rintro e w6 ⟨v205, rfl, ho0, hb⟩; refine ⟨_, rfl, ?_⟩; replace HO0 := Aside0.mk (Kd.V_below (HW.zV HO0.out) hb); have HO206 := Aside0.mk (Kd.V_lower (Kd.V_mono (ok' := fun k_ => (P0_ k_ ∨ w.heap.size ≤ k_)) ho0 (fun k_ hk_ => Or.elim hk_ (fun hs_ => hs_) (fun hn_ => (.inr (Nat.le_trans (below_size HW.zb) hn_))))) (below_size HW.zb)); replace HB := Aside0.mk (below_step HW.zb hb); (try clear hb); (try clear ho0); obtain ⟨Ao7, co7, eo7⟩ := Kd.V_slice HO206.out; subst eo7) | ((with_reducible refine gate_callee (f := 55) rfl ?_); refine HW.gz (some 17) rfl rfl Tryz.func55 (by kernel_rfl) rfl #[.slice Ao7 t204.length co7] rfl ?_; (with_reducible refine (binaryutil_ReadCString.calls (fun k_ => (P0_ k_ ∨ w.heap.size ≤ k_)) _ _ t204 t208 t209 true _ ?side1 A4.out).mono ?_); (case side1 => exact HO206.out); rintro e w8 ⟨v210, rfl, ho0, hb⟩; refine ⟨_, rfl, ?_⟩; replace HO0 := Aside0.mk (Kd.V_below (HW.zV HO0.out) hb); replace HO206 := Aside0.mk (Kd.V_below (HW.zV HO206.out) hb); have HO211 := Aside0.mk (Kd.V_lower (Kd.V_mono (ok' := fun k_ => (P0_ k_ ∨ w.heap.size ≤ k_)) ho0 (fun k_ hk_ => Or.elim hk_ (fun hs_ => hs_) (fun hn_ => (.inr (Nat.le_trans (below_size HW.zb) hn_))))) (below_size HW.zb)); replace HB := Aside0.mk (below_step HW.zb hb); (try clear hb); (try clear ho0)))
      refine bodyPost_ret (results_list (rs := [.tmp 2, .tmp 3, .tmp 4, .tmp 5]) rfl (by simp) (.tmp (.tmp (.tmp (.tmp .nil))))) rfl ?_
      exact ⟨_, rfl, HW.zV HO211.out, HW.zb⟩
  replace c5 := Bool.eq_false_iff.mpr c5; subst c5
  have H1 : (some ((⟨#[]⟩ : ByteArray), (⟨#[]⟩ : ByteArray), l0, false)) = some (r1, r2, r3, r4) := by rw [if_neg (show ¬ (false = true) by decide)] at H; exact H
  clear H; have H := H1; clear H1
  as_aux_lemma =>
    simp only [Option.some.injEq, Prod.mk.injEq] at H
    obtain ⟨rfl, rfl, rfl, rfl⟩ := H
    go_enter Tryz.func80, Tryz.ntmps80
    go_wp2_with (first | ((with_reducible refine gate_callee (f := 55) rfl ?_); refine HW.gz (some 8) rfl rfl Tryz.func55 (by kernel_rfl) rfl #[.slice A0 l0.length c0] rfl ?_; (with_reducible refine (binaryutil_ReadCString.calls (fun k_ => (P0_ k_ ∨ w.heap.size ≤ k_)) _ _ l0 t203 t204 true _ ?side1 A2.out).mono ?_); (case side1 => exact HO0.out); rintro e w9 ⟨v205, rfl, ho0, hb⟩; refine ⟨_, rfl, ?_⟩; replace HO0 := Aside0.mk (Kd.V_below (HW.zV HO0.out) hb); have HO206 := Aside0.mk (Kd.V_lower (Kd.V_mono (ok' := fun k_ => (P0_ k_ ∨ w.heap.size ≤ k_)) ho0 (fun k_ hk_ => Or.elim hk_ (fun hs_ => hs_) (fun hn_ => (.inr (Nat.le_trans (below_size HW.zb) hn_))))) (below_size HW.zb)); replace HB := Aside0.mk (below_step HW.zb hb); (try clear hb); (try clear ho0); obtain ⟨Ao10, co10, eo10⟩ := Kd.V_slice HO206.out; subst eo10) | ((with_reducible refine gate_callee (f := 55) rfl ?_); refine HW.gz (some 17) rfl rfl Tryz.func55 (by kernel_rfl) rfl #[.slice Ao10 t204.length co10] rfl ?_; (with_reducible refine (binaryutil_ReadCString.calls (fun k_ => (P0_ k_ ∨ w.heap.size ≤ k_)) _ _ t204 t208 t209 false _ ?side1 A4.out).mono ?_); (case side1 => exact HO206.out); rintro e w11 ⟨v210, rfl, ho0, hb⟩; refine ⟨_, rfl, ?_⟩; replace HO0 := Aside0.mk (Kd.V_below (HW.zV HO0.out) hb); replace HB := Aside0.mk (below_step HW.zb hb); (try clear hb); (try clear ho0)))
    refine bodyPost_ret (results_list (rs := [.tmp 2, .tmp 3, .tmp 4, .tmp 5]) rfl (by simp) (.tmp (.tmp (.tmp (.tmp .nil))))) rfl ?_
    exact ⟨_, rfl, HW.zV HO0.out, HW.zb⟩
def bsoncore_ReadJavaScript.f (k : Nat) (l0 : List Int) : Option (ByteArray × List Int × Bool) := (bsoncore_readstring.f k l0).bind fun bt213 => (some (bt213.1, bt213.2.1, bt213.2.2))
theorem bsoncore_ReadJavaScript.mono : ∀ a0 k, LeO (bsoncore_ReadJavaScript.f k a0) (bsoncore_ReadJavaScript.f (k + 1) a0) := by
  intro a0 k
  unfold bsoncore_ReadJavaScript.f
  have m0_ := @bsoncore_readstring.mono; exact HW.mo
theorem bsoncore_ReadJavaScript.calls (k : Nat) (P0_ : Nat → Prop) (A0 : Option Addr) (c0 : Nat) (l0 : List Int) (r1 : ByteArray) (r2 : List Int) (r3 : Bool) (w : World) (hs0 : Kd.V (Kd.int .u8) 5 w w.heap.size (fun k_ => P0_ k_) (.slice A0 l0.length c0) l0) (h : bsoncore_ReadJavaScript.f k l0 = some (r1, r2, r3)) :
    Calls Tryz.prog 82 #[.slice A0 l0.length c0] w fun e w' => ∃ v1_ : Value, e = .returned (.tuple #[.string r1, v1_, .bool r3]) ∧ Kd.V (Kd.int .u8) 5 w' w.heap.size (fun k_ => (P0_ k_ ∨ w.heap.size ≤ k_)) v1_ r2 ∧ Below w.heap.size w w' := by
  have HO0 := Aside0.mk (show Kd.V (Kd.int .u8) 5 w w.heap.size (fun k_ => (P0_ k_ ∨ w.heap.size ≤ k_)) (.slice A0 l0.length c0) l0 from Kd.V_mono hs0 (fun k_ hk => .inl hk)); have HB := Aside0.mk (Below.refl w.heap.size w); have H : ((bsoncore_readstring.f k l0).bind fun bt213 => (some (bt213.1, bt213.2.1, bt213.2.2))) = some (r1, r2, r3) := h; clear h; replace H := Option.bind_eq_some_iff.mp H; obtain ⟨⟨t213, t214, t217⟩, A20, H⟩ := H; replace H : (some (t213, t214, t217)) = some (r1, r2, r3) := H; have A2 := Aside0.mk A20; clear A20
  as_aux_lemma =>
    simp only [Option.some.injEq, Prod.mk.injEq] at H
    obtain ⟨rfl, rfl, rfl⟩ := H
    go_enter Tryz.func82, Tryz.ntmps82
    go_wp2_with (first | ((with_reducible refine gate_callee (f := 111) rfl ?_); refine HW.gz (some 6) rfl rfl Tryz.func111 (by kernel_rfl) rfl #[.slice A0 l0.length c0] rfl ?_; (with_reducible refine (bsoncore_readstring.calls k (fun k_ => (P0_ k_ ∨ w.heap.size ≤ k_)) _ _ l0 t213 t214 t217 _ ?side1 A2.out).mono ?_); (case side1 => exact HO0.out); rintro e w3 ⟨v215, rfl, ho0, hb⟩; refine ⟨_, rfl, ?_⟩; have HO216 := Aside0.mk (Kd.V_lower (Kd.V_mono (ok' := fun k_ => (P0_ k_ ∨ w.heap.size ≤ k_)) ho0 (fun k_ hk_ => Or.elim hk_ (fun hs_ => hs_) (fun hn_ => (.inr (Nat.le_trans (below_size HW.zb) hn_))))) (below_size HW.zb)); replace HB := Aside0.mk (below_step HW.zb hb); (try clear hb); (try clear ho0)))
    go_ret3
    exact ⟨_, rfl, HW.zV HO216.out, HW.zb⟩
def bsoncore_ReadSymbol.f (k : Nat) (l0 : List Int) : Option (ByteArray × List Int × Bool) := (bsoncore_readstring.f k l0).bind fun bt218 => (some (bt218.1, bt218.2.1, bt218.2.2))
theorem bsoncore_ReadSymbol.mono : ∀ a0 k, LeO (bsoncore_ReadSymbol.f k a0) (bsoncore_ReadSymbol.f (k + 1) a0) := by
  intro a0 k
  unfold bsoncore_ReadSymbol.f
  have m0_ := @bsoncore_readstring.mono; exact HW.mo
theorem bsoncore_ReadSymbol.calls (k : Nat) (P0_ : Nat → Prop) (A0 : Option Addr) (c0 : Nat) (l0 : List Int) (r1 : ByteArray) (r2 : List Int) (r3 : Bool) (w : World) (hs0 : Kd.V (Kd.int .u8) 5 w w.heap.size (fun k_ => P0_ k_) (.slice A0 l0.length c0) l0) (h : bsoncore_ReadSymbol.f k l0 = some (r1, r2, r3)) :
    Calls Tryz.prog 83 #[.slice A0 l0.length c0] w fun e w' => ∃ v1_ : Value, e = .returned (.tuple #[.string r1, v1_, .bool r3]) ∧ Kd.V (Kd.int .u8) 5 w' w.heap.size (fun k_ => (P0_ k_ ∨ w.heap.size ≤ k_)) v1_ r2 ∧ Below w.heap.size w w' := by
  have HO0 := Aside0.mk (show Kd.V (Kd.int .u8) 5 w w.heap.size (fun k_ => (P0_ k_ ∨ w.heap.size ≤ k_)) (.slice A0 l0.length c0) l0 from Kd.V_mono hs0 (fun k_ hk => .inl hk)); have HB := Aside0.mk (Below.refl w.heap.size w); have H : ((bsoncore_readstring.f k l0).bind fun bt218 => (some (bt218.1, bt218.2.1, bt218.2.2))) = some (r1, r2, r3) := h; clear h; replace H := Option.bind_eq_some_iff.mp H; obtain ⟨⟨t218, t219, t222⟩, A20, H⟩ := H; replace H : (some (t218, t219, t222)) = some (r1, r2, r3) := H; have A2 := Aside0.mk A20; clear A20
  as_aux_lemma =>
    simp only [Option.some.injEq, Prod.mk.injEq] at H
    obtain ⟨rfl, rfl, rfl⟩ := H
    go_enter Tryz.func83, Tryz.ntmps83
    go_wp2_with (first | ((with_reducible refine gate_callee (f := 111) rfl ?_); refine HW.gz (some 6) rfl rfl Tryz.func111 (by kernel_rfl) rfl #[.slice A0 l0.length c0] rfl ?_; (with_reducible refine (bsoncore_readstring.calls k (fun k_ => (P0_ k_ ∨ w.heap.size ≤ k_)) _ _ l0 t218 t219 t222 _ ?side1 A2.out).mono ?_); (case side1 => exact HO0.out); rintro e w3 ⟨v220, rfl, ho0, hb⟩; refine ⟨_, rfl, ?_⟩; have HO221 := Aside0.mk (Kd.V_lower (Kd.V_mono (ok' := fun k_ => (P0_ k_ ∨ w.heap.size ≤ k_)) ho0 (fun k_ hk_ => Or.elim hk_ (fun hs_ => hs_) (fun hn_ => (.inr (Nat.le_trans (below_size HW.zb) hn_))))) (below_size HW.zb)); replace HB := Aside0.mk (below_step HW.zb hb); (try clear hb); (try clear ho0)))
    go_ret3
    exact ⟨_, rfl, HW.zV HO221.out, HW.zb⟩
def bsoncore_ReadCodeWithScope.j0 : Nat → List Int → Bool → Option (ByteArray × List Int × List Int × Bool)
  | 0, _, _ => none
  | k + 1, x0, x21 => if x21 = true then (some ((⟨#[]⟩ : ByteArray), ([] : List Int), x0, false)) else (none)
def bsoncore_ReadCodeWithScope.f (k : Nat) (l0 : List Int) : Option (ByteArray × List Int × List Int × Bool) := (bsoncore_ReadLength.f l0).bind fun bt223 => (if bt223.2.2 = true then (bsoncore_ReadCodeWithScope.j0 k l0 (decide ((l0.length : Int) < (wrap64 (bt223.1))))) else (bsoncore_ReadCodeWithScope.j0 k l0 true))
theorem bsoncore_ReadCodeWithScope.mono_l : ∀ k, (∀ y0 y1, LeO (bsoncore_ReadCodeWithScope.j0 k y0 y1) (bsoncore_ReadCodeWithScope.j0 (k + 1) y0 y1))
  | 0 => fun _ _ r h => by simp [bsoncore_ReadCodeWithScope.j0] at h
  | k + 1 => by
    have ih0 := bsoncore_ReadCodeWithScope.mono_l k
    · intro y0 y1
      unfold bsoncore_ReadCodeWithScope.j0
      have m0_ := @ih0; exact HW.mo
theorem bsoncore_ReadCodeWithScope.mono : ∀ a0 k, LeO (bsoncore_ReadCodeWithScope.f k a0) (bsoncore_ReadCodeWithScope.f (k + 1) a0) := by
  intro a0 k
  have ih0 := bsoncore_ReadCodeWithScope.mono_l k
  unfold bsoncore_ReadCodeWithScope.f
  have m0_ := @ih0; exact HW.mo
theorem bsoncore_ReadCodeWithScope.calls (k : Nat) (P0_ : Nat → Prop) (A0 : Option Addr) (c0 : Nat) (l0 : List Int) (r1 : ByteArray) (r2 : List Int) (r3 : List Int) (r4 : Bool) (w : World) (hs0 : Kd.V (Kd.int .u8) 5 w w.heap.size (fun k_ => P0_ k_) (.slice A0 l0.length c0) l0) (h : bsoncore_ReadCodeWithScope.f k l0 = some (r1, r2, r3, r4)) :
    Calls Tryz.prog 84 #[.slice A0 l0.length c0] w fun e w' => ∃ v1_ v2_ : Value, e = .returned (.tuple #[.string r1, v1_, v2_, .bool r4]) ∧ Kd.R (Kd.int .u8) 5 w' w.heap.size (fun k_ => (w.heap.size ≤ k_)) v1_ r2 ∧ Kd.V (Kd.int .u8) 5 w' w.heap.size (fun k_ => (P0_ k_ ∨ w.heap.size ≤ k_) ∧ some k_ ≠ (v1_ : Value).ownBlock) v2_ r3 ∧ Below w.heap.size w w' := by
  have HO0 := Aside0.mk (show Kd.V (Kd.int .u8) 5 w w.heap.size (fun k_ => (P0_ k_ ∨ w.heap.size ≤ k_)) (.slice A0 l0.length c0) l0 from Kd.V_mono hs0 (fun k_ hk => .inl hk)); have HB := Aside0.mk (Below.refl w.heap.size w); have H : ((bsoncore_ReadLength.f l0).bind fun bt223 => (if bt223.2.2 = true then (bsoncore_ReadCodeWithScope.j0 k l0 (decide ((l0.length : Int) < (wrap64 (bt223.1))))) else (bsoncore_ReadCodeWithScope.j0 k l0 true))) = some (r1, r2, r3, r4) := h; clear h; replace H := Option.bind_eq_some_iff.mp H; obtain ⟨⟨t223, t224, t227⟩, A20, H⟩ := H; replace H : (if t227 = true then (bsoncore_ReadCodeWithScope.j0 k l0 (decide ((l0.length : Int) < (wrap64 (t223))))) else (bsoncore_ReadCodeWithScope.j0 k l0 true)) = some (r1, r2, r3, r4) := H; have A2 := Aside0.mk A20; clear A20; have HC3 := Aside0.mk H; clear H
  go_enter Tryz.func84, Tryz.ntmps84
  go_upto_region 2 with (first | ((with_reducible refine gate_callee (f := 113) rfl ?_); refine HW.gz (some 9) rfl rfl Tryz.func113 (by kernel_rfl) rfl #[.slice A0 l0.length c0] rfl ?_; (with_reducible refine (bsoncore_ReadLength.calls (fun k_ => (P0_ k_ ∨ w.heap.size ≤ k_)) _ _ l0 t223 t224 t227 _ ?side1 A2.out).mono ?_); (case side1 => exact HO0.out); rintro e w4 ⟨v225, rfl, ho0, hb⟩; refine ⟨_, rfl, ?_⟩; replace HO0 := Aside0.mk (Kd.V_below (HW.zV HO0.out) hb); replace HB := Aside0.mk (below_step HW.zb hb); (try clear hb); (try clear ho0)))
  (try simp only [Act.put, List.setIfInBounds_toArray, List.set_cons_zero, List.set_cons_succ])
  go_cut [21] (fun v21 wc => ∃ (kq : Nat) (x21_2 : Bool), v21 = .bool x21_2 ∧ Aside0 (bsoncore_ReadCodeWithScope.j0 kq l0 x21_2 = some (r1, r2, r3, r4)) ∧ Aside0 (kq ≤ k) ∧ Aside0 (Kd.V (Kd.int .u8) 5 wc w.heap.size (fun k_ => (P0_ k_ ∨ w.heap.size ≤ k_)) (.slice A0 l0.length c0) l0) ∧ Aside0 (Below w.heap.size w wc))
  case first =>
    have H := HC3.out; clear HC3
    by_cases c5 : t227 = true
    · subst c5
      have H1 : (bsoncore_ReadCodeWithScope.j0 k l0 (decide ((l0.length : Int) < (wrap64 (t223))))) = some (r1, r2, r3, r4) := by rw [if_pos rfl] at H; exact H
      clear H; have H := H1; clear H1
      as_aux_lemma =>
        have H' := Aside0.mk H; clear H
        go_wp2
        go_meet
        case rel => exact ⟨_, (decide ((l0.length : Int) < (wrap64 (t223)))), HW.rs, H', ⟨by first | omega | exact Nat.le_refl _⟩, ⟨HW.zV HO0.out⟩, ⟨HW.zb⟩⟩
    replace c5 := Bool.eq_false_iff.mpr c5; subst c5
    have H1 : (bsoncore_ReadCodeWithScope.j0 k l0 true) = some (r1, r2, r3, r4) := by rw [if_neg (show ¬ (false = true) by decide)] at H; exact H
    clear H; have H := H1; clear H1
    as_aux_lemma =>
      have H' := Aside0.mk H; clear H
      go_wp2
      go_meet
      case rel => exact ⟨_, (true), HW.rs, H', ⟨by first | omega | exact Nat.le_refl _⟩, ⟨HW.zV HO0.out⟩, ⟨HW.zb⟩⟩
  case rest =>
    clear HC3
    (try clear c1); (try clear p2); (try clear c5)
    obtain ⟨kq, x21_2, rfl, HA, HJ2, HO_0, HB⟩ := hcut
    cases kq with
    | zero => exact absurd HA.out (by simp [bsoncore_ReadCodeWithScope.j0])
    | succ kj2 =>
      have H := HA.out; clear HA
      simp only [bsoncore_ReadCodeWithScope.j0] at H
      by_cases c6 : x21_2 = true
      rotate_left
      · replace c6 := Bool.eq_false_iff.mpr c6
        subst c6
        have H1 : (none) = some (r1, r2, r3, r4) := by rw [if_neg (show ¬ (false = true) by decide)] at H; exact H
        clear H; have H := H1; clear H1
        exact absurd H (by simp)
      subst c6
      have H1 : (some ((⟨#[]⟩ : ByteArray), ([] : List Int), l0, false)) = some (r1, r2, r3, r4) := by rw [if_pos rfl] at H; exact H
      clear H; have H := H1; clear H1
      as_aux_lemma =>
        simp only [Option.some.injEq, Prod.mk.injEq] at H
        obtain ⟨rfl, rfl, rfl, rfl⟩ := H
        go_wp2
        refine bodyPost_ret (results_list (rs := [.tmp 2, .tmp 3, .tmp 4, .tmp 5]) rfl (by simp) (.tmp (.tmp (.tmp (.tmp .nil))))) rfl ?_
        exact ⟨_, _, rfl, by first | exact Kd.R_nil _ _ _ _ _ | exact Kd.N_nil _ _ _ _ _ | exact Kd.V_nil _ _ _ _ _ | exact Kd.Q_nil _ _ _ _ _ | exact Kd.S_nil _ _ _ _ _, by (with_reducible repeat (first | apply Kd.V_alloc | apply Kd.V_drewN | apply Kd.V_drew)); exact Kd.V_mono HO_0.out (fun _ hk => ⟨hk, (by simp [Value.ownBlock])⟩), HW.zb⟩
def bsoncore_ReadInt32.f (l0 : List Int) : Option (Int × List Int × Bool) := (binaryutil_ReadI32.f l0).bind fun bt228 => (some (bt228.1, bt228.2.1, bt228.2.2))
theorem bsoncore_ReadInt32.calls (P0_ : Nat → Prop) (A0 : Option Addr) (c0 : Nat) (l0 : List Int) (r1 : Int) (r2 : List Int) (r3 : Bool) (w : World) (hs0 : Kd.V (Kd.int .u8) 5 w w.heap.size (fun k_ => P0_ k_) (.slice A0 l0.length c0) l0) (h : bsoncore_ReadInt32.f l0 = some (r1, r2, r3)) :
    Calls Tryz.prog 85 #[.slice A0 l0.length c0] w fun e w' => ∃ v1_ : Value, e = .returned (.tuple #[.int .i32 r1, v1_, .bool r3]) ∧ Kd.V (Kd.int .u8) 5 w' w.heap.size (fun k_ => (P0_ k_ ∨ w.heap.size ≤ k_)) v1_ r2 ∧ Below w.heap.size w w' := by
  have HO0 := Aside0.mk (show Kd.V (Kd.int .u8) 5 w w.heap.size (fun k_ => (P0_ k_ ∨ w.heap.size ≤ k_)) (.slice A0 l0.length c0) l0 from Kd.V_mono hs0 (fun k_ hk => .inl hk)); have HB := Aside0.mk (Below.refl w.heap.size w); have H : ((binaryutil_ReadI32.f l0).bind fun bt228 => (some (bt228.1, bt228.2.1, bt228.2.2))) = some (r1, r2, r3) := h; clear h; replace H := Option.bind_eq_some_iff.mp H; obtain ⟨⟨t228, t229, t232⟩, A20, H⟩ := H; replace H : (some (t228, t229, t232)) = some (r1, r2, r3) := H; have A2 := Aside0.mk A20; clear A20
  as_aux_lemma =>
    simp only [Option.some.injEq, Prod.mk.injEq] at H
    obtain ⟨rfl, rfl, rfl⟩ := H
    go_enter Tryz.func85, Tryz.ntmps85
    go_wp2_with (first | ((with_reducible refine gate_callee (f := 115) rfl ?_); refine HW.gz (some 6) rfl rfl Tryz.func115 (by kernel_rfl) rfl #[.slice A0 l0.length c0] rfl ?_; (with_reducible refine (binaryutil_ReadI32.calls (fun k_ => (P0_ k_ ∨ w.heap.size ≤ k_)) _ _ l0 t228 t229 t232 _ ?side1 A2.out).mono ?_); (case side1 => exact HO0.out); rintro e w3 ⟨v230, rfl, ho0, hb⟩; refine ⟨_, rfl, ?_⟩; have HO231 := Aside0.mk (Kd.V_lower (Kd.V_mono (ok' := fun k_ => (P0_ k_ ∨ w.heap.size ≤ k_)) ho0 (fun k_ hk_ => Or.elim hk_ (fun hs_ => hs_) (fun hn_ => (.inr (Nat.le_trans (below_size HW.zb) hn_))))) (below_size HW.zb)); replace HB := Aside0.mk (below_step HW.zb hb); (try clear hb); (try clear ho0)))
    go_ret3
    exact ⟨_, rfl, HW.zV HO231.out, HW.zb⟩
theorem le_at4 {w : World} {A : Option Addr} {l : List Int} (hC : Kd.C (Kd.int .u8) w A l.length l) (h8 : 4 ≤ l.length) : ∃ a, A = some a ∧ ∀ i, i < (l.take 4).length → w.cell? (a.add i) = some (.int .u8 ((l.take 4).getD i 0)) := by
  obtain ⟨a, hA, _⟩ := Kd.at_int hC 0 (by omega) (by omega)
  refine ⟨a, hA, fun i hi => ?_⟩
  have hi8 : i < 4 := by simp only [List.length_take] at hi; omega
  obtain ⟨a', hA', hx⟩ := Kd.at_int hC (i : Int) (by omega) (by omega)
  rw [hA] at hA'
  cases hA'
  rw [Int.toNat_natCast] at hx; rw [hx]
  simp [rd, rdOf, List.getD_eq_getElem?_getD, List.getElem?_take, hi8]
def binaryutil_ReadU32.f (l0 : List Int) : Option (Int × List Int × Bool) := if l0.length < 4 then some (0, l0, false) else if ∀ z ∈ l0.take 4, (Lit.int .u8 z).wf = true then some (Lib.leZ (l0.take 4), l0.drop 4, true) else none
theorem binaryutil_ReadU32.calls (P0_ : Nat → Prop) (A0 : Option Addr) (c0 : Nat) (l0 : List Int) (r1 : Int) (r2 : List Int) (r3 : Bool) (w : World) (hs0 : Kd.V (Kd.int .u8) 5 w w.heap.size (fun k_ => P0_ k_) (.slice A0 l0.length c0) l0) (h : binaryutil_ReadU32.f l0 = some (r1, r2, r3)) :
    Calls Tryz.prog 116 #[.slice A0 l0.length c0] w fun e w' => ∃ v1_ : Value, e = .returned (.tuple #[.int .u32 r1, v1_, .bool r3]) ∧ Kd.V (Kd.int .u8) 5 w' w.heap.size (fun k_ => (P0_ k_ ∨ w.heap.size ≤ k_)) v1_ r2 ∧ Below w.heap.size w w' := by
  unfold binaryutil_ReadU32.f at h
  by_cases hn : l0.length < 4
  · rw [if_pos hn] at h
    simp only [Option.some.injEq, Prod.mk.injEq] at h
    obtain ⟨rfl, rfl, rfl⟩ := h
    have hd : decide ((l0.length : Int) < 4) = true := decide_eq_true (by omega)
    have hd2 : decide (l0.length < 4) = true := decide_eq_true hn
    go_enter Tryz.func116, Tryz.ntmps116
    go_wp2
    go_ret3
    exact ⟨_, rfl, Kd.V_mono hs0 (fun k_ hk => .inl hk), Below.refl _ _⟩
  rw [if_neg hn] at h
  by_cases hw : ∀ z ∈ l0.take 4, (Lit.int .u8 z).wf = true
  case neg => rw [if_neg hw] at h; cases h
  rw [if_pos hw] at h
  simp only [Option.some.injEq, Prod.mk.injEq] at h
  obtain ⟨rfl, rfl, rfl⟩ := h
  have h8 : 4 ≤ l0.length := by omega
  obtain ⟨_, hroom, hC⟩ := Kd.V_reads' hs0; obtain ⟨a, rfl, hcell⟩ := le_at4 hC h8
  have hd : decide ((l0.length : Int) < 4) = false := decide_eq_false (by omega)
  have hd2 : decide (l0.length < 4) = false := decide_eq_false hn
  have hl8 : (l0.take 4).length = 4 := by simp only [List.length_take]; omega
  have ht : (l0.take 4).take 4 = l0.take 4 := by simp [List.take_take]
  obtain ⟨i0, hi0, _, hsz0, _⟩ := info_parts info5; have hF : Kd.F (Kd.int .u8) w (fun k_ => P0_ k_) (some a) l0.length l0 := (Kd.V_at (base := w.heap.size) hs0).2.2
  have hcut := cut_from (P := Tryz.prog) 22 5 .i64 Tryz.underlying22 hi0 1 hsz0 (some a) l0.length c0 4 (by omega) (by omega)
  have hr := Kd.F_cut (m := (4 : Int).toNat) (c := c0) hF (by show 4 ≤ l0.length; omega) hroom
  obtain ⟨A8, hA8⟩ : ∃ A1, A1 = (if c0 = (4 : Int).toNat then (some a) else ((some a) : Option Addr).map (·.add ((4 : Int).toNat * 1))) := ⟨_, rfl⟩; have hy : (l0.drop 4).length = l0.length - (4 : Int).toNat := List.length_drop
  have hr' : Kd.F (Kd.int .u8) w (fun k_ => P0_ k_) A8 (l0.drop 4).length (l0.drop 4) := by rw [hA8]; exact hr
  rw [← hA8] at hcut; clear hA8 hr hF
  have hV : Kd.V (Kd.int .u8) 5 w w.heap.size (fun k_ => P0_ k_) (.slice A8 (l0.drop 4).length (c0 - (4 : Int).toNat)) (l0.drop 4) := Kd.V_mk (by rw [hy]; exact Nat.sub_le_sub_right hroom _) hr'
  rw [hy] at hV; clear hr' hy hs0
  go_enter Tryz.func116, Tryz.ntmps116
  go_wp2
  refine start_ (n := 8) (S := fun _ => True) (ds := []) #[ff,ff,ff,ff,ff,ff,ff,ff] (by kernel_rfl) rfl rfl trivial (fun hHeld => ?_)
  refine take_ (i := 0) (N := some 9) (v := ?_) (a' := ?_) #[tt,ff,ff,ff,ff,ff,ff,ff] rfl rfl (by kernel_rfl) (fun _ _ _ h => h) (Or.inl ⟨by rfl, ?_⟩) hHeld ?_ ?_
  rotate_left
  · rintro w' _
    go_simp
    with_reducible rfl
  rotate_left
  · exact HW.pt
  refine HW.pz (i := 1) (N := some 10) #[tt,tt,ff,ff,ff,ff,ff,ff] ?_
  refine HW.pz (i := 3) (N := some 12) #[tt,tt,ff,tt,ff,ff,ff,ff] ?_
  refine pure_ (i := 4) (N := some 13) (v := .slice A8 (l0.length - (4 : Int).toNat) (c0 - (4 : Int).toNat)) (a' := ?_) #[tt,tt,ff,tt,tt,ff,ff,ff] rfl rfl (by kernel_rfl) (fun _ _ _ h => h) (Or.inl ⟨by rfl, ?_⟩) ?_ ?_
  · intro w'
    simp [execOp, Act.eval, Sem.run_bind]
    have hx : (Tryz.prog).underlying 22 = some (.slice ((Tryz.prog).elem 22)) := by kernel_rfl
    rw [(run_sliceAt_slice (P := Tryz.prog) (w := w') 22 (.slice (some a) l0.length c0) (some (.int .i64 4)) none none hx).trans (hcut w')]
    rfl
  rotate_left
  · exact HW.pt
  refine one_ (i := 2) (N := some 11) #[tt,tt,tt,tt,tt,ff,ff,ff] rfl rfl (by kernel_rfl) (by decide) (fun K_ hK => ?_)
  refine goes_ Tryz.func166 (by kernel_rfl) rfl #[.agg #[], .slice (some a) l0.length c0] (by rfl) rfl rfl HW.mt ?_
  refine (Tryz.binary_LE_Uint32_z a l0.length c0 (l0.take 4) w.drew h8 (Nat.le_of_eq hl8.symm) hcell hw).mono ?_
  rintro e w' ⟨rfl, hb⟩
  rw [ht]
  refine ⟨_, rfl, ?_⟩
  refine hK.out _ _ trivial (fun hHeld => ?_)
  clear hK K_
  refine HW.nz (N := (some 11)) ?_
  refine HW.pz (i := 5) (N := some 2) #[tt,tt,tt,tt,tt,tt,ff,ff] ?_
  refine HW.pz (i := 6) (N := some 3) #[tt,tt,tt,tt,tt,tt,tt,ff] ?_
  refine HW.pz (i := 7) (N := some 4) #[tt,tt,tt,tt,tt,tt,tt,tt] ?_
  refine done_ (by kernel_rfl) ?_
  go_wp2
  go_ret3
  exact ⟨_, rfl, Kd.V_mono (Kd.V_below hV (below_step (below_drew1 (Below.refl w.heap.size w)) hb)) (fun k_ hk => .inl hk), below_step (below_drew1 (Below.refl w.heap.size w)) hb⟩
def bsoncore_ReadTimestamp.f (l0 : List Int) : Option (Int × Int × List Int × Bool) := (binaryutil_ReadU32.f l0).bind fun bt233 => (if bt233.2.2 = true then ((binaryutil_ReadU32.f bt233.2.1).bind fun bt238 => (if bt238.2.2 = true then (some (bt238.1, bt233.1, bt238.2.1, true)) else (some (0, 0, l0, false)))) else (some (0, 0, l0, false)))
theorem bsoncore_ReadTimestamp.calls (P0_ : Nat → Prop) (A0 : Option Addr) (c0 : Nat) (l0 : List Int) (r1 : Int) (r2 : Int) (r3 : List Int) (r4 : Bool) (w : World) (hs0 : Kd.V (Kd.int .u8) 5 w w.heap.size (fun k_ => P0_ k_) (.slice A0 l0.length c0) l0) (h : bsoncore_ReadTimestamp.f l0 = some (r1, r2, r3, r4)) :
    Calls Tryz.prog 86 #[.slice A0 l0.length c0] w fun e w' => ∃ v2_ : Value, e = .returned (.tuple #[.int .u32 r1, .int .u32 r2, v2_, .bool r4]) ∧ Kd.V (Kd.int .u8) 5 w' w.heap.size (fun k_ => (P0_ k_ ∨ w.heap.size ≤ k_)) v2_ r3 ∧ Below w.heap.size w w' := by
  have HO0 := Aside0.mk (show Kd.V (Kd.int .u8) 5 w w.heap.size (fun k_ => (P0_ k_ ∨ w.heap.size ≤ k_)) (.slice A0 l0.length c0) l0 from Kd.V_mono hs0 (fun k_ hk => .inl hk)); have HB := Aside0.mk (Below.refl w.heap.size w); have H : ((binaryutil_ReadU32.f l0).bind fun bt233 => (if bt233.2.2 = true then ((binaryutil_ReadU32.f bt233.2.1).bind fun bt238 => (if bt238.2.2 = true then (some (bt238.1, bt233.1, bt238.2.1, true)) else (some (0, 0, l0, false)))) else (some (0, 0, l0, false)))) = some (r1, r2, r3, r4) := h; clear h; replace H := Option.bind_eq_some_iff.mp H; obtain ⟨⟨t233, t234, t237⟩, A20, H⟩ := H; replace H : (if t237 = true then ((binaryutil_ReadU32.f t234).bind fun bt238 => (if bt238.2.2 = true then (some (bt238.1, t233, bt238.2.1, true)) else (some (0, 0, l0, false)))) else (some (0, 0, l0, false))) = some (r1, r2, r3, r4) := H; have A2 := Aside0.mk A20; clear A20
  by_cases c3 : t237 = true
  rotate_left
  · replace c3 := Bool.eq_false_iff.mpr c3
    subst c3
    have H1 : (some (0, 0, l0, false)) = some (r1, r2, r3, r4) := by rw [if_neg (show ¬ (false = true) by decide)] at H; exact H
    clear H; have H := H1; clear H1
    as_aux_lemma =>
      simp only [Option.some.injEq, Prod.mk.injEq] at H
      obtain ⟨rfl, rfl, rfl, rfl⟩ := H
      go_enter Tryz.func86, Tryz.ntmps86
      go_wp2_with (first | ((with_reducible refine gate_callee (f := 116) rfl ?_); refine HW.gz (some 8) rfl rfl Tryz.func116 (by kernel_rfl) rfl #[.slice A0 l0.length c0] rfl ?_; (with_reducible refine (binaryutil_ReadU32.calls (fun k_ => (P0_ k_ ∨ w.heap.size ≤ k_)) _ _ l0 t233 t234 false _ ?side1 A2.out).mono ?_); (case side1 => exact HO0.out); rintro e w12 ⟨v235, rfl, ho0, hb⟩; refine ⟨_, rfl, ?_⟩; replace HO0 := Aside0.mk (Kd.V_below (HW.zV HO0.out) hb); have HO236 := Aside0.mk (Kd.V_lower (Kd.V_mono (ok' := fun k_ => (P0_ k_ ∨ w.heap.size ≤ k_)) ho0 (fun k_ hk_ => Or.elim hk_ (fun hs_ => hs_) (fun hn_ => (.inr (Nat.le_trans (below_size HW.zb) hn_))))) (below_size HW.zb)); replace HB := Aside0.mk (below_step HW.zb hb); (try clear hb); (try clear ho0)))
      refine bodyPost_ret (results_list (rs := [.tmp 2, .tmp 3, .tmp 4, .tmp 5]) rfl (by simp) (.tmp (.tmp (.tmp (.tmp .nil))))) rfl ?_
      exact ⟨_, rfl, HW.zV HO0.out, HW.zb⟩
  subst c3
  have H1 : ((binaryutil_ReadU32.f t234).bind fun bt238 => (if bt238.2.2 = true then (some (bt238.1, t233, bt238.2.1, true)) else (some (0, 0, l0, false)))) = some (r1, r2, r3, r4) := by rw [if_pos rfl] at H; exact H
  clear H; have H := H1; clear H1; replace H := Option.bind_eq_some_iff.mp H; obtain ⟨⟨t238, t239, t242⟩, A40, H⟩ := H; replace H : (if t242 = true then (some (t238, t233, t239, true)) else (some (0, 0, l0, false))) = some (r1, r2, r3, r4) := H; have A4 := Aside0.mk A40; clear A40
  by_cases c5 : t242 = true
  · subst c5
    have H1 : (some (t238, t233, t239, true)) = some (r1, r2, r3, r4) := by rw [if_pos rfl] at H; exact H
    clear H; have H := H1; clear H1
    as_aux_lemma =>
      simp only [Option.some.injEq, Prod.mk.injEq] at H
      obtain ⟨rfl, rfl, rfl, rfl⟩ := H
      go_enter Tryz.func86, Tryz.ntmps86
      go_wp2_with (first | ((with_reducible refine gate_callee (f := 116) rfl ?_); refine HW.gz (some 8) rfl rfl Tryz.func116 (by kernel_rfl) rfl #[.slice A0 l0.length c0] rfl ?_; (with_reducible refine (binaryutil_ReadU32.calls (fun k_ => (P0_ k_ ∨ w.heap.size ≤ k_)) _ _ l0 t233 t234 true _ ?side1 A2.out).mono ?_); (case side1 => exact HO0.out); rintro e w6 ⟨v235, rfl, ho0, hb⟩; refine ⟨_, rfl, ?_⟩; replace HO0 := Aside0.mk (Kd.V_below (HW.zV HO0.out) hb); have HO236 := Aside0.mk (Kd.V_lower (Kd.V_mono (ok' := fun k_ => (P0_ k_ ∨ w.heap.size ≤ k_)) ho0 (fun k_ hk_ => Or.elim hk_ (fun hs_ => hs_) (fun hn_ => (.inr (Nat.le_trans (below_size HW.zb) hn_))))) (below_size HW.zb)); replace HB := Aside0.mk (below_step HW.zb hb); (try clear hb); (try clear ho0); obtain ⟨Ao7, co7, eo7⟩ := Kd.V_slice HO236.out; subst eo7) | ((with_reducible refine gate_callee (f := 116) rfl ?_); refine HW.gz (some 17) rfl rfl Tryz.func116 (by kernel_rfl) rfl #[.slice Ao7 t234.length co7] rfl ?_; (with_reducible refine (binaryutil_ReadU32.calls (fun k_ => (P0_ k_ ∨ w.heap.size ≤ k_)) _ _ t234 t238 t239 true _ ?side1 A4.out).mono ?_); (case side1 => exact HO236.out); rintro e w8 ⟨v240, rfl, ho0, hb⟩; refine ⟨_, rfl, ?_⟩; replace HO0 := Aside0.mk (Kd.V_below (HW.zV HO0.out) hb); replace HO236 := Aside0.mk (Kd.V_below (HW.zV HO236.out) hb); have HO241 := Aside0.mk (Kd.V_lower (Kd.V_mono (ok' := fun k_ => (P0_ k_ ∨ w.heap.size ≤ k_)) ho0 (fun k_ hk_ => Or.elim hk_ (fun hs_ => hs_) (fun hn_ => (.inr (Nat.le_trans (below_size HW.zb) hn_))))) (below_size HW.zb)); replace HB := Aside0.mk (below_step HW.zb hb); (try clear hb); (try clear ho0)))
      refine bodyPost_ret (results_list (rs := [.tmp 2, .tmp 3, .tmp 4, .tmp 5]) rfl (by simp) (.tmp (.tmp (.tmp (.tmp .nil))))) rfl ?_
      exact ⟨_, rfl, HW.zV HO241.out, HW.zb⟩
  replace c5 := Bool.eq_false_iff.mpr c5; subst c5
  have H1 : (some (0, 0, l0, false)) = some (r1, r2, r3, r4) := by rw [if_neg (show ¬ (false = true) by decide)] at H; exact H
  clear H; have H := H1; clear H1
  as_aux_lemma =>
    simp only [Option.some.injEq, Prod.mk.injEq] at H
    obtain ⟨rfl, rfl, rfl, rfl⟩ := H
    go_enter Tryz.func86, Tryz.ntmps86
    go_wp2_with (first | ((with_reducible refine gate_callee (f := 116) rfl ?_); refine HW.gz (some 8) rfl rfl Tryz.func116 (by kernel_rfl) rfl #[.slice A0 l0.length c0] rfl ?_; (with_reducible refine (binaryutil_ReadU32.calls (fun k_ => (P0_ k_ ∨ w.heap.size ≤ k_)) _ _ l0 t233 t234 true _ ?side1 A2.out).mono ?_); (case side1 => exact HO0.out); rintro e w9 ⟨v235, rfl, ho0, hb⟩; refine ⟨_, rfl, ?_⟩; replace HO0 := Aside0.mk (Kd.V_below (HW.zV HO0.out) hb); have HO236 := Aside0.mk (Kd.V_lower (Kd.V_mono (ok' := fun k_ => (P0_ k_ ∨ w.heap.size ≤ k_)) ho0 (fun k_ hk_ => Or.elim hk_ (fun hs_ => hs_) (fun hn_ => (.inr (Nat.le_trans (below_size HW.zb) hn_))))) (below_size HW.zb)); replace HB := Aside0.mk (below_step HW.zb hb); (try clear hb); (try clear ho0); obtain ⟨Ao10, co10, eo10⟩ := Kd.V_slice HO236.out; subst eo10) | ((with_reducible refine gate_callee (f := 116) rfl ?_); refine HW.gz (some 17) rfl rfl Tryz.func116 (by kernel_rfl) rfl #[.slice Ao10 t234.length co10] rfl ?_; (with_reducible refine (binaryutil_ReadU32.calls (fun k_ => (P0_ k_ ∨ w.heap.size ≤ k_)) _ _ t234 t238 t239 false _ ?side1 A4.out).mono ?_); (case side1 => exact HO236.out); rintro e w11 ⟨v240, rfl, ho0, hb⟩; refine ⟨_, rfl, ?_⟩; replace HO0 := Aside0.mk (Kd.V_below (HW.zV HO0.out) hb); replace HB := Aside0.mk (below_step HW.zb hb); (try clear hb); (try clear ho0)))
    refine bodyPost_ret (results_list (rs := [.tmp 2, .tmp 3, .tmp 4, .tmp 5]) rfl (by simp) (.tmp (.tmp (.tmp (.tmp .nil))))) rfl ?_
    exact ⟨_, rfl, HW.zV HO0.out, HW.zb⟩
def bsoncore_ReadInt64.f (l0 : List Int) : Option (Int × List Int × Bool) := (binaryutil_ReadI64.f l0).bind fun bt243 => (some (bt243.1, bt243.2.1, bt243.2.2))
theorem bsoncore_ReadInt64.calls (P0_ : Nat → Prop) (A0 : Option Addr) (c0 : Nat) (l0 : List Int) (r1 : Int) (r2 : List Int) (r3 : Bool) (w : World) (hs0 : Kd.V (Kd.int .u8) 5 w w.heap.size (fun k_ => P0_ k_) (.slice A0 l0.length c0) l0) (h : bsoncore_ReadInt64.f l0 = some (r1, r2, r3)) :
    Calls Tryz.prog 87 #[.slice A0 l0.length c0] w fun e w' => ∃ v1_ : Value, e = .returned (.tuple #[.int .i64 r1, v1_, .bool r3]) ∧ Kd.V (Kd.int .u8) 5 w' w.heap.size (fun k_ => (P0_ k_ ∨ w.heap.size ≤ k_)) v1_ r2 ∧ Below w.heap.size w w' := by
  have HO0 := Aside0.mk (show Kd.V (Kd.int .u8) 5 w w.heap.size (fun k_ => (P0_ k_ ∨ w.heap.size ≤ k_)) (.slice A0 l0.length c0) l0 from Kd.V_mono hs0 (fun k_ hk => .inl hk)); have HB := Aside0.mk (Below.refl w.heap.size w); have H : ((binaryutil_ReadI64.f l0).bind fun bt243 => (some (bt243.1, bt243.2.1, bt243.2.2))) = some (r1, r2, r3) := h; clear h; replace H := Option.bind_eq_some_iff.mp H; obtain ⟨⟨t243, t244, t247⟩, A20, H⟩ := H; replace H : (some (t243, t244, t247)) = some (r1, r2, r3) := H; have A2 := Aside0.mk A20; clear A20
  as_aux_lemma =>
    simp only [Option.some.injEq, Prod.mk.injEq] at H
    obtain ⟨rfl, rfl, rfl⟩ := H
    go_enter Tryz.func87, Tryz.ntmps87
    go_wp2_with (first | ((with_reducible refine gate_callee (f := 114) rfl ?_); refine HW.gz (some 6) rfl rfl Tryz.func114 (by kernel_rfl) rfl #[.slice A0 l0.length c0] rfl ?_; (with_reducible refine (binaryutil_ReadI64.calls (fun k_ => (P0_ k_ ∨ w.heap.size ≤ k_)) _ _ l0 t243 t244 t247 _ ?side1 A2.out).mono ?_); (case side1 => exact HO0.out); rintro e w3 ⟨v245, rfl, ho0, hb⟩; refine ⟨_, rfl, ?_⟩; have HO246 := Aside0.mk (Kd.V_lower (Kd.V_mono (ok' := fun k_ => (P0_ k_ ∨ w.heap.size ≤ k_)) ho0 (fun k_ hk_ => Or.elim hk_ (fun hs_ => hs_) (fun hn_ => (.inr (Nat.le_trans (below_size HW.zb) hn_))))) (below_size HW.zb)); replace HB := Aside0.mk (below_step HW.zb hb); (try clear hb); (try clear ho0)))
    go_ret3
    exact ⟨_, rfl, HW.zV HO246.out, HW.zb⟩
theorem le_at8 {w : World} {A : Option Addr} {l : List Int} (hC : Kd.C (Kd.int .u8) w A l.length l) (h8 : 8 ≤ l.length) : ∃ a, A = some a ∧ ∀ i, i < (l.take 8).length → w.cell? (a.add i) = some (.int .u8 ((l.take 8).getD i 0)) := by
  obtain ⟨a, hA, _⟩ := Kd.at_int hC 0 (by omega) (by omega)
  refine ⟨a, hA, fun i hi => ?_⟩
  have hi8 : i < 8 := by simp only [List.length_take] at hi; omega
  obtain ⟨a', hA', hx⟩ := Kd.at_int hC (i : Int) (by omega) (by omega)
  rw [hA] at hA'
  cases hA'
  rw [Int.toNat_natCast] at hx; rw [hx]
  simp [rd, rdOf, List.getD_eq_getElem?_getD, List.getElem?_take, hi8]
def binaryutil_ReadU64.f (l0 : List Int) : Option (Int × List Int × Bool) := if l0.length < 8 then some (0, l0, false) else if ∀ z ∈ l0.take 8, (Lit.int .u8 z).wf = true then some (Lib.leZ (l0.take 8), l0.drop 8, true) else none
theorem binaryutil_ReadU64.calls (P0_ : Nat → Prop) (A0 : Option Addr) (c0 : Nat) (l0 : List Int) (r1 : Int) (r2 : List Int) (r3 : Bool) (w : World) (hs0 : Kd.V (Kd.int .u8) 5 w w.heap.size (fun k_ => P0_ k_) (.slice A0 l0.length c0) l0) (h : binaryutil_ReadU64.f l0 = some (r1, r2, r3)) :
    Calls Tryz.prog 110 #[.slice A0 l0.length c0] w fun e w' => ∃ v1_ : Value, e = .returned (.tuple #[.int .u64 r1, v1_, .bool r3]) ∧ Kd.V (Kd.int .u8) 5 w' w.heap.size (fun k_ => (P0_ k_ ∨ w.heap.size ≤ k_)) v1_ r2 ∧ Below w.heap.size w w' := by
  unfold binaryutil_ReadU64.f at h
  by_cases hn : l0.length < 8
  · rw [if_pos hn] at h
    simp only [Option.some.injEq, Prod.mk.injEq] at h
    obtain ⟨rfl, rfl, rfl⟩ := h
    have hd : decide ((l0.length : Int) < 8) = true := decide_eq_true (by omega)
    have hd2 : decide (l0.length < 8) = true := decide_eq_true hn
    go_enter Tryz.func110, Tryz.ntmps110
    go_wp2
    go_ret3
    exact ⟨_, rfl, Kd.V_mono hs0 (fun k_ hk => .inl hk), Below.refl _ _⟩
  rw [if_neg hn] at h
  by_cases hw : ∀ z ∈ l0.take 8, (Lit.int .u8 z).wf = true
  case neg => rw [if_neg hw] at h; cases h
  rw [if_pos hw] at h
  simp only [Option.some.injEq, Prod.mk.injEq] at h
  obtain ⟨rfl, rfl, rfl⟩ := h
  have h8 : 8 ≤ l0.length := by omega
  obtain ⟨_, hroom, hC⟩ := Kd.V_reads' hs0; obtain ⟨a, rfl, hcell⟩ := le_at8 hC h8
  have hd : decide ((l0.length : Int) < 8) = false := decide_eq_false (by omega)
  have hd2 : decide (l0.length < 8) = false := decide_eq_false hn
  have hl8 : (l0.take 8).length = 8 := by simp only [List.length_take]; omega
  have ht : (l0.take 8).take 8 = l0.take 8 := by simp [List.take_take]
  obtain ⟨i0, hi0, _, hsz0, _⟩ := info_parts info5; have hF : Kd.F (Kd.int .u8) w (fun k_ => P0_ k_) (some a) l0.length l0 := (Kd.V_at (base := w.heap.size) hs0).2.2
  have hcut := cut_from (P := Tryz.prog) 22 5 .i64 Tryz.underlying22 hi0 1 hsz0 (some a) l0.length c0 8 (by omega) (by omega)
  have hr := Kd.F_cut (m := (8 : Int).toNat) (c := c0) hF (by show 8 ≤ l0.length; omega) hroom
  obtain ⟨A8, hA8⟩ : ∃ A1, A1 = (if c0 = (8 : Int).toNat then (some a) else ((some a) : Option Addr).map (·.add ((8 : Int).toNat * 1))) := ⟨_, rfl⟩; have hy : (l0.drop 8).length = l0.length - (8 : Int).toNat := List.length_drop
  have hr' : Kd.F (Kd.int .u8) w (fun k_ => P0_ k_) A8 (l0.drop 8).length (l0.drop 8) := by rw [hA8]; exact hr
  rw [← hA8] at hcut; clear hA8 hr hF
  have hV : Kd.V (Kd.int .u8) 5 w w.heap.size (fun k_ => P0_ k_) (.slice A8 (l0.drop 8).length (c0 - (8 : Int).toNat)) (l0.drop 8) := Kd.V_mk (by rw [hy]; exact Nat.sub_le_sub_right hroom _) hr'
  rw [hy] at hV; clear hr' hy hs0
  go_enter Tryz.func110, Tryz.ntmps110
  go_wp2
  refine start_ (n := 8) (S := fun _ => True) (ds := []) #[ff,ff,ff,ff,ff,ff,ff,ff] (by kernel_rfl) rfl rfl trivial (fun hHeld => ?_)
  refine take_ (i := 0) (N := some 9) (v := ?_) (a' := ?_) #[tt,ff,ff,ff,ff,ff,ff,ff] rfl rfl (by kernel_rfl) (fun _ _ _ h => h) (Or.inl ⟨by rfl, ?_⟩) hHeld ?_ ?_
  rotate_left
  · rintro w' _
    go_simp
    with_reducible rfl
  rotate_left
  · exact HW.pt
  refine HW.pz (i := 1) (N := some 10) #[tt,tt,ff,ff,ff,ff,ff,ff] ?_
  refine HW.pz (i := 3) (N := some 12) #[tt,tt,ff,tt,ff,ff,ff,ff] ?_
  refine pure_ (i := 4) (N := some 13) (v := .slice A8 (l0.length - (8 : Int).toNat) (c0 - (8 : Int).toNat)) (a' := ?_) #[tt,tt,ff,tt,tt,ff,ff,ff] rfl rfl (by kernel_rfl) (fun _ _ _ h => h) (Or.inl ⟨by rfl, ?_⟩) ?_ ?_
  · intro w'
    simp [execOp, Act.eval, Sem.run_bind]
    have hx : (Tryz.prog).underlying 22 = some (.slice ((Tryz.prog).elem 22)) := by kernel_rfl
    rw [(run_sliceAt_slice (P := Tryz.prog) (w := w') 22 (.slice (some a) l0.length c0) (some (.int .i64 8)) none none hx).trans (hcut w')]
    rfl
  rotate_left
  · exact HW.pt
  refine one_ (i := 2) (N := some 11) #[tt,tt,tt,tt,tt,ff,ff,ff] rfl rfl (by kernel_rfl) (by decide) (fun K_ hK => ?_)
  refine goes_ Tryz.func165 (by kernel_rfl) rfl #[.agg #[], .slice (some a) l0.length c0] (by rfl) rfl rfl HW.mt ?_
  refine (Tryz.binary_LE_Uint64_z a l0.length c0 (l0.take 8) w.drew h8 (Nat.le_of_eq hl8.symm) hcell hw).mono ?_
  rintro e w' ⟨rfl, hb⟩
  rw [ht]
  refine ⟨_, rfl, ?_⟩
  refine hK.out _ _ trivial (fun hHeld => ?_)
  clear hK K_
  refine HW.nz (N := (some 11)) ?_
  refine HW.pz (i := 5) (N := some 2) #[tt,tt,tt,tt,tt,tt,ff,ff] ?_
  refine HW.pz (i := 6) (N := some 3) #[tt,tt,tt,tt,tt,tt,tt,ff] ?_
  refine HW.pz (i := 7) (N := some 4) #[tt,tt,tt,tt,tt,tt,tt,tt] ?_
  refine done_ (by kernel_rfl) ?_
  go_wp2
  go_ret3
  exact ⟨_, rfl, Kd.V_mono (Kd.V_below hV (below_step (below_drew1 (Below.refl w.heap.size w)) hb)) (fun k_ hk => .inl hk), below_step (below_drew1 (Below.refl w.heap.size w)) hb⟩
def bsoncore_ReadDecimal128.f (l0 : List Int) : Option (Int × Int × List Int × Bool) := (binaryutil_ReadU64.f l0).bind fun bt248 => (if bt248.2.2 = true then ((binaryutil_ReadU64.f bt248.2.1).bind fun bt253 => (if bt253.2.2 = true then (some (bt253.1, bt248.1, bt253.2.1, true)) else (some (0, 0, l0, false)))) else (some (0, 0, l0, false)))
theorem bsoncore_ReadDecimal128.calls (P0_ : Nat → Prop) (A0 : Option Addr) (c0 : Nat) (l0 : List Int) (r1 : Int) (r2 : Int) (r3 : List Int) (r4 : Bool) (w : World) (hs0 : Kd.V (Kd.int .u8) 5 w w.heap.size (fun k_ => P0_ k_) (.slice A0 l0.length c0) l0) (h : bsoncore_ReadDecimal128.f l0 = some (r1, r2, r3, r4)) :
    Calls Tryz.prog 88 #[.slice A0 l0.length c0] w fun e w' => ∃ v2_ : Value, e = .returned (.tuple #[.int .u64 r1, .int .u64 r2, v2_, .bool r4]) ∧ Kd.V (Kd.int .u8) 5 w' w.heap.size (fun k_ => (P0_ k_ ∨ w.heap.size ≤ k_)) v2_ r3 ∧ Below w.heap.size w w' := by
  have HO0 := Aside0.mk (show Kd.V (Kd.int .u8) 5 w w.heap.size (fun k_ => (P0_ k_ ∨ w.heap.size ≤ k_)) (.slice A0 l0.length c0) l0 from Kd.V_mono hs0 (fun k_ hk => .inl hk)); have HB := Aside0.mk (Below.refl w.heap.size w); have H : ((binaryutil_ReadU64.f l0).bind fun bt248 => (if bt248.2.2 = true then ((binaryutil_ReadU64.f bt248.2.1).bind fun bt253 => (if bt253.2.2 = true then (some (bt253.1, bt248.1, bt253.2.1, true)) else (some (0, 0, l0, false)))) else (some (0, 0, l0, false)))) = some (r1, r2, r3, r4) := h; clear h; replace H := Option.bind_eq_some_iff.mp H; obtain ⟨⟨t248, t249, t252⟩, A20, H⟩ := H; replace H : (if t252 = true then ((binaryutil_ReadU64.f t249).bind fun bt253 => (if bt253.2.2 = true then (some (bt253.1, t248, bt253.2.1, true)) else (some (0, 0, l0, false)))) else (some (0, 0, l0, false))) = some (r1, r2, r3, r4) := H; have A2 := Aside0.mk A20; clear A20
  by_cases c3 : t252 = true
  rotate_left
  · replace c3 := Bool.eq_false_iff.mpr c3
    subst c3
    have H1 : (some (0, 0, l0, false)) = some (r1, r2, r3, r4) := by rw [if_neg (show ¬ (false = true) by decide)] at H; exact H
    clear H; have H := H1; clear H1
    as_aux_lemma =>
      simp only [Option.some.injEq, Prod.mk.injEq] at H
      obtain ⟨rfl, rfl, rfl, rfl⟩ := H
      go_enter Tryz.func88, Tryz.ntmps88
      go_wp2_with (first | ((with_reducible refine gate_callee (f := 110) rfl ?_); refine HW.gz (some 8) rfl rfl Tryz.func110 (by kernel_rfl) rfl #[.slice A0 l0.length c0] rfl ?_; (with_reducible refine (binaryutil_ReadU64.calls (fun k_ => (P0_ k_ ∨ w.heap.size ≤ k_)) _ _ l0 t248 t249 false _ ?side1 A2.out).mono ?_); (case side1 => exact HO0.out); rintro e w12 ⟨v250, rfl, ho0, hb⟩; refine ⟨_, rfl, ?_⟩; replace HO0 := Aside0.mk (Kd.V_below (HW.zV HO0.out) hb); have HO251 := Aside0.mk (Kd.V_lower (Kd.V_mono (ok' := fun k_ => (P0_ k_ ∨ w.heap.size ≤ k_)) ho0 (fun k_ hk_ => Or.elim hk_ (fun hs_ => hs_) (fun hn_ => (.inr (Nat.le_trans (below_size HW.zb) hn_))))) (below_size HW.zb)); replace HB := Aside0.mk (below_step HW.zb hb); (try clear hb); (try clear ho0)))
      refine bodyPost_ret (results_list (rs := [.tmp 2, .tmp 3, .tmp 4, .tmp 5]) rfl (by simp) (.tmp (.tmp (.tmp (.tmp .nil))))) rfl ?_
      exact ⟨_, rfl, HW.zV HO0.out, HW.zb⟩
  subst c3
  have H1 : ((binaryutil_ReadU64.f t249).bind fun bt253 => (if bt253.2.2 = true then (some (bt253.1, t248, bt253.2.1, true)) else (some (0, 0, l0, false)))) = some (r1, r2, r3, r4) := by rw [if_pos rfl] at H; exact H
  clear H; have H := H1; clear H1; replace H := Option.bind_eq_some_iff.mp H; obtain ⟨⟨t253, t254, t257⟩, A40, H⟩ := H; replace H : (if t257 = true then (some (t253, t248, t254, true)) else (some (0, 0, l0, false))) = some (r1, r2, r3, r4) := H; have A4 := Aside0.mk A40; clear A40
  by_cases c5 : t257 = true
  · subst c5
    have H1 : (some (t253, t248, t254, true)) = some (r1, r2, r3, r4) := by rw [if_pos rfl] at H; exact H
    clear H; have H := H1; clear H1
    as_aux_lemma =>
      simp only [Option.some.injEq, Prod.mk.injEq] at H
      obtain ⟨rfl, rfl, rfl, rfl⟩ := H
      go_enter Tryz.func88, Tryz.ntmps88
      go_wp2_with (first | ((with_reducible refine gate_callee (f := 110) rfl ?_); refine HW.gz (some 8) rfl rfl Tryz.func110 (by kernel_rfl) rfl #[.slice A0 l0.length c0] rfl ?_; (with_reducible refine (binaryutil_ReadU64.calls (fun k_ => (P0_ k_ ∨ w.heap.size ≤ k_)) _ _ l0 t248 t249 true _ ?side1 A2.out).mono ?_); (case side1 => exact HO0.out); rintro e w6 ⟨v250, rfl, ho0, hb⟩; refine ⟨_, rfl, ?_⟩; replace HO0 := Aside0.mk (Kd.V_below (HW.zV HO0.out) hb); have HO251 := Aside0.mk (Kd.V_lower (Kd.V_mono (ok' := fun k_ => (P0_ k_ ∨ w.heap.size ≤ k_)) ho0 (fun k_ hk_ => Or.elim hk_ (fun hs_ => hs_) (fun hn_ => (.inr (Nat.le_trans (below_size HW.zb) hn_))))) (below_size HW.zb)); replace HB := Aside0.mk (below_step HW.zb hb); (try clear hb); (try clear ho0); obtain ⟨Ao7, co7, eo7⟩ := Kd.V_slice HO251.out; subst eo7) | ((with_reducible refine gate_callee (f := 110) rfl ?_); refine HW.gz (some 17) rfl rfl Tryz.func110 (by kernel_rfl) rfl #[.slice Ao7 t249.length co7] rfl ?_; (with_reducible refine (binaryutil_ReadU64.calls (fun k_ => (P0_ k_ ∨ w.heap.size ≤ k_)) _ _ t249 t253 t254 true _ ?side1 A4.out).mono ?_); (case side1 => exact HO251.out); rintro e w8 ⟨v255, rfl, ho0, hb⟩; refine ⟨_, rfl, ?_⟩; replace HO0 := Aside0.mk (Kd.V_below (HW.zV HO0.out) hb); replace HO251 := Aside0.mk (Kd.V_below (HW.zV HO251.out) hb); have HO256 := Aside0.mk (Kd.V_lower (Kd.V_mono (ok' := fun k_ => (P0_ k_ ∨ w.heap.size ≤ k_)) ho0 (fun k_ hk_ => Or.elim hk_ (fun hs_ => hs_) (fun hn_ => (.inr (Nat.le_trans (below_size HW.zb) hn_))))) (below_size HW.zb)); replace HB := Aside0.mk (below_step HW.zb hb); (try clear hb); (try clear ho0)))
      refine bodyPost_ret (results_list (rs := [.tmp 2, .tmp 3, .tmp 4, .tmp 5]) rfl (by simp) (.tmp (.tmp (.tmp (.tmp .nil))))) rfl ?_
      exact ⟨_, rfl, HW.zV HO256.out, HW.zb⟩
  replace c5 := Bool.eq_false_iff.mpr c5; subst c5
  have H1 : (some (0, 0, l0, false)) = some (r1, r2, r3, r4) := by rw [if_neg (show ¬ (false = true) by decide)] at H; exact H
  clear H; have H := H1; clear H1
  as_aux_lemma =>
    simp only [Option.some.injEq, Prod.mk.injEq] at H
    obtain ⟨rfl, rfl, rfl, rfl⟩ := H
    go_enter Tryz.func88, Tryz.ntmps88
    go_wp2_with (first | ((with_reducible refine gate_callee (f := 110) rfl ?_); refine HW.gz (some 8) rfl rfl Tryz.func110 (by kernel_rfl) rfl #[.slice A0 l0.length c0] rfl ?_; (with_reducible refine (binaryutil_ReadU64.calls (fun k_ => (P0_ k_ ∨ w.heap.size ≤ k_)) _ _ l0 t248 t249 true _ ?side1 A2.out).mono ?_); (case side1 => exact HO0.out); rintro e w9 ⟨v250, rfl, ho0, hb⟩; refine ⟨_, rfl, ?_⟩; replace HO0 := Aside0.mk (Kd.V_below (HW.zV HO0.out) hb); have HO251 := Aside0.mk (Kd.V_lower (Kd.V_mono (ok' := fun k_ => (P0_ k_ ∨ w.heap.size ≤ k_)) ho0 (fun k_ hk_ => Or.elim hk_ (fun hs_ => hs_) (fun hn_ => (.inr (Nat.le_trans (below_size HW.zb) hn_))))) (below_size HW.zb)); replace HB := Aside0.mk (below_step HW.zb hb); (try clear hb); (try clear ho0); obtain ⟨Ao10, co10, eo10⟩ := Kd.V_slice HO251.out; subst eo10) | ((with_reducible refine gate_callee (f := 110) rfl ?_); refine HW.gz (some 17) rfl rfl Tryz.func110 (by kernel_rfl) rfl #[.slice Ao10 t249.length co10] rfl ?_; (with_reducible refine (binaryutil_ReadU64.calls (fun k_ => (P0_ k_ ∨ w.heap.size ≤ k_)) _ _ t249 t253 t254 false _ ?side1 A4.out).mono ?_); (case side1 => exact HO251.out); rintro e w11 ⟨v255, rfl, ho0, hb⟩; refine ⟨_, rfl, ?_⟩; replace HO0 := Aside0.mk (Kd.V_below (HW.zV HO0.out) hb); replace HB := Aside0.mk (below_step HW.zb hb); (try clear hb); (try clear ho0)))
    refine bodyPost_ret (results_list (rs := [.tmp 2, .tmp 3, .tmp 4, .tmp 5]) rfl (by simp) (.tmp (.tmp (.tmp (.tmp .nil))))) rfl ?_
    exact ⟨_, rfl, HW.zV HO0.out, HW.zb⟩
end Go.Proofs.YtanecebppagakaaGreatDoor.PSx
