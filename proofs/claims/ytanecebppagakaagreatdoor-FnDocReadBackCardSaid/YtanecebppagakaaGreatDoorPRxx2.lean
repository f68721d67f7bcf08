import Derived.Test.YtanecebppagakaaGreatDoorPRxx0
import Derived.Test.YtanecebppagakaaGreatDoorPRxx1
namespace Go.Proofs.YtanecebppagakaaGreatDoor.PRx
open Go.RowKit Go.Proofs.YtanecebppagakaaGreatDoorW.PrintWords Go.Proofs.YtanecebppagakaaGreatDoorW.PrintLast Go.Proofs.YtanecebppagakaaGreatDoorW.PrintMore
attribute [local go_sem] max2_int min2_int max_two min_two max_three min_three max_four min_four
set_option linter.unusedVariables false
set_option maxHeartbeats 8000000
set_option maxRecDepth 100000
set_option linter.unusedSimpArgs false
def bsoncore_ReadBinary.j0 : Nat → List Int → Int → List Int → Int → Bool → Option (Int × List Int × List Int × Bool)
  | 0, _, _, _, _, _ => none
  | k + 1, x0, x2, x4, x6, x47 => if x47 = true then (some (0, ([] : List Int), x0, false)) else (if 0 ≤ x6 then (if x6 ≤ (x4.length : Int) then (some (x2, (x4.take (x6 : Int).toNat), (x4.drop (x6 : Int).toNat), true)) else (none)) else (none))
def bsoncore_ReadBinary.f (k : Nat) (l0 : List Int) : Option (Int × List Int × List Int × Bool) := (bsoncore_ReadLength.f l0).bind fun bt173 => (if bt173.2.2 = true then (if (bt173.2.1.length : Int) < 1 then (none) else (if 0 < (bt173.2.1.length : Int) then (if 1 ≤ (bt173.2.1.length : Int) then ((some (bt173.2.1.drop 1 : List Int)).bind fun y179 => (if (y179.length : Int) < (wrap64 (bt173.1)) then (none) else (if (rd bt173.2.1 0) = 2 then ((bsoncore_ReadLength.f y179).bind fun bt184 => (if bt184.2.2 = true then (bsoncore_ReadBinary.j0 k l0 (rd bt173.2.1 0) bt184.2.1 bt184.1 (decide ((bt184.2.1.length : Int) < (wrap64 (bt184.1))))) else (bsoncore_ReadBinary.j0 k l0 (rd bt173.2.1 0) bt184.2.1 bt184.1 true))) else (if 0 ≤ bt173.1 then (if bt173.1 ≤ (y179.length : Int) then (some (rd bt173.2.1 0, (y179.take (bt173.1 : Int).toNat), (y179.drop (bt173.1 : Int).toNat), true)) else (none)) else (none))))) else (none)) else (none))) else (some (0, ([] : List Int), l0, false)))
theorem bsoncore_ReadBinary.mono_l : ∀ k, (∀ y0 y1 y2 y3 y4, LeO (bsoncore_ReadBinary.j0 k y0 y1 y2 y3 y4) (bsoncore_ReadBinary.j0 (k + 1) y0 y1 y2 y3 y4))
  | 0 => fun _ _ _ _ _ r h => by simp [bsoncore_ReadBinary.j0] at h
  | k + 1 => by
    have ih0 := bsoncore_ReadBinary.mono_l k
    · intro y0 y1 y2 y3 y4
      unfold bsoncore_ReadBinary.j0
      have m0_ := @ih0; exact HW.mo
theorem bsoncore_ReadBinary.mono : ∀ a0 k, LeO (bsoncore_ReadBinary.f k a0) (bsoncore_ReadBinary.f (k + 1) a0) := by
  intro a0 k
  have ih0 := bsoncore_ReadBinary.mono_l k
  unfold bsoncore_ReadBinary.f
  have m0_ := @ih0; exact HW.mo
theorem bsoncore_ReadBinary.calls (k : Nat) (P0_ : Nat → Prop) (A0 : Option Addr) (c0 : Nat) (l0 : List Int) (r1 : Int) (r2 : List Int) (r3 : List Int) (r4 : Bool) (w : World) (hs0 : Kd.V (Kd.int .u8) 5 w w.heap.size (fun k_ => P0_ k_) (.slice A0 l0.length c0) l0) (h : bsoncore_ReadBinary.f k l0 = some (r1, r2, r3, r4)) :
    Calls Tryz.prog 75 #[.slice A0 l0.length c0] w fun e w' => ∃ v1_ v2_ : Value, e = .returned (.tuple #[.int .u8 r1, v1_, v2_, .bool r4]) ∧ Kd.V (Kd.int .u8) 5 w' w.heap.size (fun k_ => (P0_ k_ ∨ w.heap.size ≤ k_)) v1_ r2 ∧ Kd.V (Kd.int .u8) 5 w' w.heap.size (fun k_ => (P0_ k_ ∨ w.heap.size ≤ k_)) v2_ r3 ∧ Below w.heap.size w w' := by
  have HO0 := Aside0.mk (show Kd.V (Kd.int .u8) 5 w w.heap.size (fun k_ => (P0_ k_ ∨ w.heap.size ≤ k_)) (.slice A0 l0.length c0) l0 from Kd.V_mono hs0 (fun k_ hk => .inl hk)); have HB := Aside0.mk (Below.refl w.heap.size w)
  have H : ((bsoncore_ReadLength.f l0).bind fun bt173 => (if bt173.2.2 = true then (if (bt173.2.1.length : Int) < 1 then (none) else (if 0 < (bt173.2.1.length : Int) then (if 1 ≤ (bt173.2.1.length : Int) then ((some (bt173.2.1.drop 1 : List Int)).bind fun y179 => (if (y179.length : Int) < (wrap64 (bt173.1)) then (none) else (if (rd bt173.2.1 0) = 2 then ((bsoncore_ReadLength.f y179).bind fun bt184 => (if bt184.2.2 = true then (bsoncore_ReadBinary.j0 k l0 (rd bt173.2.1 0) bt184.2.1 bt184.1 (decide ((bt184.2.1.length : Int) < (wrap64 (bt184.1))))) else (bsoncore_ReadBinary.j0 k l0 (rd bt173.2.1 0) bt184.2.1 bt184.1 true))) else (if 0 ≤ bt173.1 then (if bt173.1 ≤ (y179.length : Int) then (some (rd bt173.2.1 0, (y179.take (bt173.1 : Int).toNat), (y179.drop (bt173.1 : Int).toNat), true)) else (none)) else (none))))) else (none)) else (none))) else (some (0, ([] : List Int), l0, false)))) = some (r1, r2, r3, r4) := h
  clear h; replace H := Option.bind_eq_some_iff.mp H; obtain ⟨⟨t173, t174, t177⟩, A20, H⟩ := H
  replace H : (if t177 = true then (if (t174.length : Int) < 1 then (none) else (if 0 < (t174.length : Int) then (if 1 ≤ (t174.length : Int) then ((some (t174.drop 1 : List Int)).bind fun y179 => (if (y179.length : Int) < (wrap64 (t173)) then (none) else (if (rd t174 0) = 2 then ((bsoncore_ReadLength.f y179).bind fun bt184 => (if bt184.2.2 = true then (bsoncore_ReadBinary.j0 k l0 (rd t174 0) bt184.2.1 bt184.1 (decide ((bt184.2.1.length : Int) < (wrap64 (bt184.1))))) else (bsoncore_ReadBinary.j0 k l0 (rd t174 0) bt184.2.1 bt184.1 true))) else (if 0 ≤ t173 then (if t173 ≤ (y179.length : Int) then (some (rd t174 0, (y179.take (t173 : Int).toNat), (y179.drop (t173 : Int).toNat), true)) else (none)) else (none))))) else (none)) else (none))) else (some (0, ([] : List Int), l0, false))) = some (r1, r2, r3, r4) := H
  have A2 := Aside0.mk A20; clear A20
  by_cases c3 : t177 = true
  rotate_left
  · replace c3 := Bool.eq_false_iff.mpr c3
    subst c3
    have H1 : (some (0, ([] : List Int), l0, false)) = some (r1, r2, r3, r4) := by rw [if_neg (show ¬ (false = true) by decide)] at H; exact H
    clear H; have H := H1; clear H1
    as_aux_lemma =>
      simp only [Option.some.injEq, Prod.mk.injEq] at H
      obtain ⟨rfl, rfl, rfl, rfl⟩ := H
      go_enter Tryz.func75, Tryz.ntmps75
      go_wp2_with (first | (go_at_call 113; (with_reducible refine (bsoncore_ReadLength.calls (fun k_ => (P0_ k_ ∨ w.heap.size ≤ k_)) _ _ l0 t173 t174 false _ ?side1 A2.out).mono ?_); (case side1 => exact HO0.out); rintro e w34 ⟨v175, rfl, ho0, hb⟩; replace HO0 := Aside0.mk (Kd.V_below (HW.zV HO0.out) hb); have HO176 := Aside0.mk (Kd.V_lower (Kd.V_mono (ok' := fun k_ => (P0_ k_ ∨ w.heap.size ≤ k_)) ho0 (fun k_ hk_ => Or.elim hk_ (fun hs_ => hs_) (fun hn_ => (.inr (Nat.le_trans (below_size HW.zb) hn_))))) (below_size HW.zb)); replace HB := Aside0.mk (below_step HW.zb hb); (try clear hb); (try clear ho0)))
      repeat (go_quiet (fail); try go_wp2)
      refine bodyPost_ret (results_list (rs := [.tmp 2, .tmp 3, .tmp 4, .tmp 5]) rfl (by simp) (.tmp (.tmp (.tmp (.tmp .nil))))) rfl ?_
      exact ⟨_, _, rfl, Kd.V_nil _ _ _ _ _, HW.zV HO0.out, HW.zb⟩
  subst c3
  have H1 : (if (t174.length : Int) < 1 then (none) else (if 0 < (t174.length : Int) then (if 1 ≤ (t174.length : Int) then ((some (t174.drop 1 : List Int)).bind fun y179 => (if (y179.length : Int) < (wrap64 (t173)) then (none) else (if (rd t174 0) = 2 then ((bsoncore_ReadLength.f y179).bind fun bt184 => (if bt184.2.2 = true then (bsoncore_ReadBinary.j0 k l0 (rd t174 0) bt184.2.1 bt184.1 (decide ((bt184.2.1.length : Int) < (wrap64 (bt184.1))))) else (bsoncore_ReadBinary.j0 k l0 (rd t174 0) bt184.2.1 bt184.1 true))) else (if 0 ≤ t173 then (if t173 ≤ (y179.length : Int) then (some (rd t174 0, (y179.take (t173 : Int).toNat), (y179.drop (t173 : Int).toNat), true)) else (none)) else (none))))) else (none)) else (none))) = some (r1, r2, r3, r4) := by rw [if_pos rfl] at H; exact H
  clear H; have H := H1; clear H1
  by_cases c4 : (t174.length : Int) < 1
  · rw [if_pos c4] at H
    exact absurd H (by simp)
  rw [if_neg c4] at H; have c4b0 : decide ((t174.length : Int) < 1) = false := decide_eq_false c4
  have c4b1 : decide (t174.length < 1) = false := decide_eq_false (by omega)
  clear c4
  by_cases c5 : 0 < (t174.length : Int)
  rotate_left
  · rw [if_neg c5] at H
    exact absurd H (by simp)
  rw [if_pos c5] at H; have c5b0 : decide (0 < (t174.length : Int)) = true := decide_eq_true c5
  have c5b1 : decide (0 < t174.length) = true := decide_eq_true (by omega)
  clear c5
  by_cases c6 : 1 ≤ (t174.length : Int)
  rotate_left
  · rw [if_neg c6] at H
    exact absurd H (by simp)
  rw [if_pos c6] at H; have c6b0 := eq_true c6; have c6b1 : decide (1 ≤ (t174.length : Int)) = true := decide_eq_true c6; clear c6; obtain ⟨y179, hy179⟩ : ∃ y_ : List Int, y_ = (t174.drop 1) := ⟨_, rfl⟩
  replace H : (if (y179.length : Int) < (wrap64 (t173)) then (none) else (if (rd t174 0) = 2 then ((bsoncore_ReadLength.f y179).bind fun bt184 => (if bt184.2.2 = true then (bsoncore_ReadBinary.j0 k l0 (rd t174 0) bt184.2.1 bt184.1 (decide ((bt184.2.1.length : Int) < (wrap64 (bt184.1))))) else (bsoncore_ReadBinary.j0 k l0 (rd t174 0) bt184.2.1 bt184.1 true))) else (if 0 ≤ t173 then (if t173 ≤ (y179.length : Int) then (some (rd t174 0, (y179.take (t173 : Int).toNat), (y179.drop (t173 : Int).toNat), true)) else (none)) else (none)))) = some (r1, r2, r3, r4) := by (try rw [hy179]); exact HW.rp
  have Ny179 := Aside0.mk hy179; clear hy179
  by_cases c7 : (y179.length : Int) < (wrap64 (t173))
  · rw [if_pos c7] at H
    exact absurd H (by simp)
  rw [if_neg c7] at H; have c7b0 : decide ((y179.length : Int) < (wrap64 (t173))) = false := decide_eq_false c7; clear c7
  by_cases c8 : (rd t174 0) = 2
  rotate_left
  · rw [if_neg c8] at H
    have c8b0 : ((rd t174 0) == 2) = false := beq_eq_false_iff_ne.mpr c8; have c8b1 : ((rd t174 0) != 2) = true := bne_iff_ne.mpr c8
    by_cases c25 : 0 ≤ t173
    rotate_left
    · rw [if_neg c25] at H
      exact absurd H (by simp)
    rw [if_pos c25] at H; have c25b0 := eq_true c25; have c25b1 : decide (0 ≤ t173) = true := decide_eq_true c25; clear c25
    by_cases c26 : t173 ≤ (y179.length : Int)
    rotate_left
    · rw [if_neg c26] at H
      exact absurd H (by simp)
    rw [if_pos c26] at H; have c26b0 := eq_true c26; have c26b1 : decide (t173 ≤ (y179.length : Int)) = true := decide_eq_true c26; clear c26; obtain ⟨y199, hy199⟩ : ∃ y_ : List Int, y_ = (y179.take (t173 : Int).toNat) := ⟨_, rfl⟩
    replace H : (some (rd t174 0, y199, (y179.drop (t173 : Int).toNat), true)) = some (r1, r2, r3, r4) := by (try rw [hy199]); exact HW.rp
    have Ny199 := Aside0.mk hy199; clear hy199
    have c27b0 := eq_true (HW.od : 0 ≤ t173)
    have c28b0 := eq_true (HW.od : t173 ≤ (y179.length : Int))
    obtain ⟨y204, hy204⟩ : ∃ y_ : List Int, y_ = (y179.drop (t173 : Int).toNat) := ⟨_, rfl⟩
    replace H : (some (rd t174 0, y199, y204, true)) = some (r1, r2, r3, r4) := by (try rw [hy204]); exact HW.rp
    have Ny204 := Aside0.mk hy204; clear hy204
    as_aux_lemma =>
      simp only [Option.some.injEq, Prod.mk.injEq] at H
      obtain ⟨rfl, rfl, rfl, rfl⟩ := H
      go_enter Tryz.func75, Tryz.ntmps75
      go_wp2_with (first | (go_at_call 113; (with_reducible refine (bsoncore_ReadLength.calls (fun k_ => (P0_ k_ ∨ w.heap.size ≤ k_)) _ _ l0 t173 t174 true _ ?side1 A2.out).mono ?_); (case side1 => exact HO0.out); rintro e w29 ⟨v175, rfl, ho0, hb⟩; replace HO0 := Aside0.mk (Kd.V_below (HW.zV HO0.out) hb); have HO176 := Aside0.mk (Kd.V_lower (Kd.V_mono (ok' := fun k_ => (P0_ k_ ∨ w.heap.size ≤ k_)) ho0 (fun k_ hk_ => Or.elim hk_ (fun hs_ => hs_) (fun hn_ => (.inr (Nat.le_trans (below_size HW.zb) hn_))))) (below_size HW.zb)); replace HB := Aside0.mk (below_step HW.zb hb); (try clear hb); (try clear ho0); obtain ⟨Ao30, co30, eo30⟩ := Kd.V_slice HO176.out; subst eo30; have p178 : 0 ≤ (0 : Int) := (by omega); have q178 : 0 < (t174.length : Int) := HW.od; obtain ⟨ad178, e178, hx178_0⟩ := Kd.at_int (Kd.V_reads' HO176.out).2.2 0 p178 q178; cases e178; have qi178 : (0 < t174.length) = True := eq_true (by omega); (try rw [show ((0 : Int)).toNat = 0 from rfl] at hx178_0); (try rw [Addr.add_zero'] at hx178_0); replace p178 := eq_true p178; replace q178 := eq_true q178; have q31 : (1 : Int) ≤ ((t174.length : Int) : Int) := HW.od; obtain ⟨i031, hi031, _, hsz31, _⟩ := info_parts info5; have hroom31 : t174.length ≤ co30 := (Kd.V_reads' HO176.out).2.1; have hC31 : Kd.F (Kd.int .u8) _ _ (some ad178) t174.length t174 := (Kd.V_at (base := w.heap.size) HO176.out).2.2; have hcut31 := cut_from (P := Tryz.prog) 22 5 .i64 Tryz.underlying22 hi031 1 hsz31 (some ad178) t174.length co30 1 (by omega) q31; have hr31 := Kd.F_cut (m := (1 : Int).toNat) (c := co30) hC31 (by omega) hroom31; obtain ⟨A31, hA31⟩ : ∃ A1, A1 = (if co30 = (1 : Int).toNat then (some ad178) else ((some ad178) : Option Addr).map (·.add ((1 : Int).toNat * 1))) := ⟨_, rfl⟩; obtain ⟨c31, hc31⟩ : ∃ c1, c1 = co30 - (1 : Int).toNat := ⟨_, rfl⟩; have hy31 : y179.length = t174.length - (1 : Int).toNat := (by rw [Ny179.out, List.length_drop] <;> omega); rw [show (t174).drop (1 : Int).toNat = y179 from Ny179.out.symm] at hr31; replace hr31 : Kd.F (Kd.int .u8) _ _ A31 y179.length y179 := (by rw [hA31]; exact hr31); rw [← hy31, ← hA31, ← hc31] at hcut31; have HO183 := Aside0.mk (show Kd.V (Kd.int .u8) 5 _ w.heap.size _ (.slice A31 y179.length c31) y179 from Kd.V_mk (by rw [hy31, hc31]; exact Nat.sub_le_sub_right hroom31 _) hr31); have HC183 := Aside0.mk (show y179.length ≤ c31 from by rw [hy31, hc31]; exact Nat.sub_le_sub_right hroom31 _); clear hr31 hC31 hroom31 hi031 hsz31 hc31; have KY31 := Aside0.mk hy31; have KA31 := Aside0.mk hA31; clear hy31 hA31; replace q31 := eq_true q31; have q32 : (t173 : Int) ≤ ((y179.length : Int) : Int) := HW.od; obtain ⟨i032, hi032, _, hsz32, _⟩ := info_parts info5; have hroom32 : y179.length ≤ c31 := (Kd.V_reads' HO183.out).2.1; have hC32 : Kd.F (Kd.int .u8) _ _ A31 y179.length y179 := (Kd.V_at (base := w.heap.size) HO183.out).2.2; have hcut32 := cut_to (P := Tryz.prog) 22 5 .i32 Tryz.underlying22 hi032 A31 y179.length c31 t173 (HW.od) q32 hroom32; have hr32 := Kd.F_take (m := (t173 : Int).toNat) hC32 (by omega); have hy32 : y199.length = (t173 : Int).toNat := (by rw [Ny199.out, List.length_take]; omega); rw [← Ny199.out] at hr32; rw [← hy32] at hcut32; have HO203 := Aside0.mk (show Kd.V (Kd.int .u8) 5 _ w.heap.size _ (.slice A31 y199.length c31) y199 from Kd.V_mk (by omega) hr32); have HC203 := Aside0.mk (show y199.length ≤ c31 from by omega); clear hr32 hC32 hroom32 hi032 hsz32; have KY32 := Aside0.mk hy32; clear hy32; replace q32 := eq_true q32; have q33 : (t173 : Int) ≤ ((y179.length : Int) : Int) := HW.od; obtain ⟨i033, hi033, _, hsz33, _⟩ := info_parts info5; have hroom33 : y179.length ≤ c31 := (Kd.V_reads' HO183.out).2.1; have hC33 : Kd.F (Kd.int .u8) _ _ A31 y179.length y179 := (Kd.V_at (base := w.heap.size) HO183.out).2.2; have q033 : (0 : Int) ≤ (t173 : Int) := HW.od; have hcut33 := cut_from (P := Tryz.prog) 22 5 .i32 Tryz.underlying22 hi033 1 hsz33 A31 y179.length c31 t173 q033 q33; have hr33 := Kd.F_cut (m := (t173 : Int).toNat) (c := c31) hC33 (by omega) hroom33; obtain ⟨A33, hA33⟩ : ∃ A1, A1 = (if c31 = (t173 : Int).toNat then A31 else (A31 : Option Addr).map (·.add ((t173 : Int).toNat * 1))) := ⟨_, rfl⟩; obtain ⟨c33, hc33⟩ : ∃ c1, c1 = c31 - (t173 : Int).toNat := ⟨_, rfl⟩; have hy33 : y204.length = y179.length - (t173 : Int).toNat := (by rw [Ny204.out, List.length_drop] <;> omega); rw [show (y179).drop (t173 : Int).toNat = y204 from Ny204.out.symm] at hr33; replace hr33 : Kd.F (Kd.int .u8) _ _ A33 y204.length y204 := (by rw [hA33]; exact hr33); rw [← hy33, ← hA33, ← hc33] at hcut33; have HO208 := Aside0.mk (show Kd.V (Kd.int .u8) 5 _ w.heap.size _ (.slice A33 y204.length c33) y204 from Kd.V_mk (by rw [hy33, hc33]; exact Nat.sub_le_sub_right hroom33 _) hr33); have HC208 := Aside0.mk (show y204.length ≤ c33 from by rw [hy33, hc33]; exact Nat.sub_le_sub_right hroom33 _); clear hr33 hC33 hroom33 hi033 hsz33 hc33; have KY33 := Aside0.mk hy33; have KA33 := Aside0.mk hA33; clear hy33 hA33; replace q33 := eq_true q33))
      repeat (go_quiet (fail); try go_wp2)
      refine bodyPost_ret (results_list (rs := [.tmp 2, .tmp 3, .tmp 4, .tmp 5]) rfl (by simp) (.tmp (.tmp (.tmp (.tmp .nil))))) rfl ?_
      exact ⟨_, _, rfl, HW.zV HO203.out, HW.zV HO208.out, HW.zb⟩
  rw [if_pos c8] at H; have c8b0 : ((rd t174 0) == 2) = true := beq_iff_eq.mpr c8; have c8b1 : ((rd t174 0) != 2) = false := bne_eq_false_iff_eq.mpr c8; clear c8; replace H := Option.bind_eq_some_iff.mp H; obtain ⟨⟨t184, t185, t188⟩, A90, H⟩ := H; replace H : (if t188 = true then (bsoncore_ReadBinary.j0 k l0 (rd t174 0) t185 t184 (decide ((t185.length : Int) < (wrap64 (t184))))) else (bsoncore_ReadBinary.j0 k l0 (rd t174 0) t185 t184 true)) = some (r1, r2, r3, r4) := H; have A9 := Aside0.mk A90; clear A90; have HC10 := Aside0.mk H; clear H
  go_enter Tryz.func75, Tryz.ntmps75
  go_upto_region 11 with (first | (go_at_call 113; (with_reducible refine (bsoncore_ReadLength.calls (fun k_ => (P0_ k_ ∨ w.heap.size ≤ k_)) _ _ l0 t173 t174 true _ ?side1 A2.out).mono ?_); (case side1 => exact HO0.out); rintro e w11 ⟨v175, rfl, ho0, hb⟩; replace HO0 := Aside0.mk (Kd.V_below (HW.zV HO0.out) hb); have HO176 := Aside0.mk (Kd.V_lower (Kd.V_mono (ok' := fun k_ => (P0_ k_ ∨ w.heap.size ≤ k_)) ho0 (fun k_ hk_ => Or.elim hk_ (fun hs_ => hs_) (fun hn_ => (.inr (Nat.le_trans (below_size HW.zb) hn_))))) (below_size HW.zb)); replace HB := Aside0.mk (below_step HW.zb hb); (try clear hb); (try clear ho0); obtain ⟨Ao12, co12, eo12⟩ := Kd.V_slice HO176.out; subst eo12; have p178 : 0 ≤ (0 : Int) := (by omega); have q178 : 0 < (t174.length : Int) := HW.od; obtain ⟨ad178, e178, hx178_0⟩ := Kd.at_int (Kd.V_reads' HO176.out).2.2 0 p178 q178; cases e178; have qi178 : (0 < t174.length) = True := eq_true (by omega); (try rw [show ((0 : Int)).toNat = 0 from rfl] at hx178_0); (try rw [Addr.add_zero'] at hx178_0); replace p178 := eq_true p178; replace q178 := eq_true q178; have q13 : (1 : Int) ≤ ((t174.length : Int) : Int) := HW.od; obtain ⟨i013, hi013, _, hsz13, _⟩ := info_parts info5; have hroom13 : t174.length ≤ co12 := (Kd.V_reads' HO176.out).2.1; have hC13 : Kd.F (Kd.int .u8) _ _ (some ad178) t174.length t174 := (Kd.V_at (base := w.heap.size) HO176.out).2.2; have hcut13 := cut_from (P := Tryz.prog) 22 5 .i64 Tryz.underlying22 hi013 1 hsz13 (some ad178) t174.length co12 1 (by omega) q13; have hr13 := Kd.F_cut (m := (1 : Int).toNat) (c := co12) hC13 (by omega) hroom13; obtain ⟨A13, hA13⟩ : ∃ A1, A1 = (if co12 = (1 : Int).toNat then (some ad178) else ((some ad178) : Option Addr).map (·.add ((1 : Int).toNat * 1))) := ⟨_, rfl⟩; obtain ⟨c13, hc13⟩ : ∃ c1, c1 = co12 - (1 : Int).toNat := ⟨_, rfl⟩; have hy13 : y179.length = t174.length - (1 : Int).toNat := (by rw [Ny179.out, List.length_drop] <;> omega); rw [show (t174).drop (1 : Int).toNat = y179 from Ny179.out.symm] at hr13; replace hr13 : Kd.F (Kd.int .u8) _ _ A13 y179.length y179 := (by rw [hA13]; exact hr13); rw [← hy13, ← hA13, ← hc13] at hcut13; have HO183 := Aside0.mk (show Kd.V (Kd.int .u8) 5 _ w.heap.size _ (.slice A13 y179.length c13) y179 from Kd.V_mk (by rw [hy13, hc13]; exact Nat.sub_le_sub_right hroom13 _) hr13); have HC183 := Aside0.mk (show y179.length ≤ c13 from by rw [hy13, hc13]; exact Nat.sub_le_sub_right hroom13 _); clear hr13 hC13 hroom13 hi013 hsz13 hc13; have KY13 := Aside0.mk hy13; have KA13 := Aside0.mk hA13; clear hy13 hA13; replace q13 := eq_true q13) | (go_at_call 113; (with_reducible refine (bsoncore_ReadLength.calls (fun k_ => (P0_ k_ ∨ w.heap.size ≤ k_)) _ _ y179 t184 t185 t188 _ ?side1 A9.out).mono ?_); (case side1 => exact HO183.out); rintro e w14 ⟨v186, rfl, ho0, hb⟩; replace HO0 := Aside0.mk (Kd.V_below (HW.zV HO0.out) hb); replace HO176 := Aside0.mk (Kd.V_below (HW.zV HO176.out) hb); replace HO183 := Aside0.mk (Kd.V_below (HW.zV HO183.out) hb); have HO187 := Aside0.mk (Kd.V_lower (Kd.V_mono (ok' := fun k_ => (P0_ k_ ∨ w.heap.size ≤ k_)) ho0 (fun k_ hk_ => Or.elim hk_ (fun hs_ => hs_) (fun hn_ => (.inr (Nat.le_trans (below_size HW.zb) hn_))))) (below_size HW.zb)); replace HB := Aside0.mk (below_step HW.zb hb); (try clear hb); (try clear ho0)))
  repeat (go_quiet (fail); try go_upto_region 11 with (first | (go_at_call 113; (with_reducible refine (bsoncore_ReadLength.calls (fun k_ => (P0_ k_ ∨ w.heap.size ≤ k_)) _ _ y179 t184 t185 t188 _ ?side1 A9.out).mono ?_); (case side1 => exact HO183.out); rintro e w14 ⟨v186, rfl, ho0, hb⟩; replace HO0 := Aside0.mk (Kd.V_below (HW.zV HO0.out) hb); replace HO176 := Aside0.mk (Kd.V_below (HW.zV HO176.out) hb); replace HO183 := Aside0.mk (Kd.V_below (HW.zV HO183.out) hb); have HO187 := Aside0.mk (Kd.V_lower (Kd.V_mono (ok' := fun k_ => (P0_ k_ ∨ w.heap.size ≤ k_)) ho0 (fun k_ hk_ => Or.elim hk_ (fun hs_ => hs_) (fun hn_ => (.inr (Nat.le_trans (below_size HW.zb) hn_))))) (below_size HW.zb)); replace HB := Aside0.mk (below_step HW.zb hb); (try clear hb); (try clear ho0))))
  (try simp only [Act.put, List.setIfInBounds_toArray, List.set_cons_zero, List.set_cons_succ])
  go_cut [47] (fun v47 wc => ∃ (kq : Nat) (x47_9 : Bool), v47 = .bool x47_9 ∧ Aside0 (bsoncore_ReadBinary.j0 kq l0 (rd t174 0) t185 t184 x47_9 = some (r1, r2, r3, r4)) ∧ Aside0 (kq ≤ k) ∧ Aside0 (Kd.V (Kd.int .u8) 5 wc w.heap.size (fun k_ => (P0_ k_ ∨ w.heap.size ≤ k_)) (.slice A0 l0.length c0) l0) ∧ Aside0 (Kd.V (Kd.int .u8) 5 wc w.heap.size (fun k_ => (P0_ k_ ∨ w.heap.size ≤ k_)) v186 t185) ∧ Aside0 (Below w.heap.size w wc))
  case first =>
    have H := HC10.out; clear HC10
    by_cases c15 : t188 = true
    · subst c15
      have H1 : (bsoncore_ReadBinary.j0 k l0 (rd t174 0) t185 t184 (decide ((t185.length : Int) < (wrap64 (t184))))) = some (r1, r2, r3, r4) := by rw [if_pos rfl] at H; exact H
      clear H; have H := H1; clear H1
      as_aux_lemma =>
        have H' := Aside0.mk H; clear H; obtain ⟨Ao16, co16, eo16⟩ := Kd.V_slice HO187.out; subst eo16
        go_wp2
        repeat (go_quiet (fail); try go_wp2)
        go_meet
        case rel => exact ⟨_, (decide ((t185.length : Int) < (wrap64 (t184)))), HW.rs, H', ⟨by first | omega | exact Nat.le_refl _⟩, ⟨HW.zV HO0.out⟩, ⟨HW.zV HO187.out⟩, ⟨HW.zb⟩⟩
    replace c15 := Bool.eq_false_iff.mpr c15; subst c15
    have H1 : (bsoncore_ReadBinary.j0 k l0 (rd t174 0) t185 t184 true) = some (r1, r2, r3, r4) := by rw [if_neg (show ¬ (false = true) by decide)] at H; exact H
    clear H; have H := H1; clear H1
    as_aux_lemma =>
      have H' := Aside0.mk H; clear H
      go_wp2
      repeat (go_quiet (fail); try go_wp2)
      go_meet
      case rel => exact ⟨_, (true), HW.rs, H', ⟨by first | omega | exact Nat.le_refl _⟩, ⟨HW.zV HO0.out⟩, ⟨HW.zV HO187.out⟩, ⟨HW.zb⟩⟩
  case rest =>
    clear HC10
    (try clear c1); (try clear p1); (try clear q1); (try clear hx1); (try clear qi1); (try clear p2); (try clear c3); (try clear c4); (try clear c4b0); (try clear c4b1); (try clear c5); (try clear c5b0); (try clear c5b1); (try clear c6); (try clear c6b0); (try clear c6b1); (try clear p6); (try clear c7); (try clear c7b0); (try clear c8); (try clear c8b0); (try clear c8b1); (try clear c13); (try clear q13); (try clear c15); (try clear hx178_0); (try clear p178); (try clear q13); (try clear q178)
    obtain ⟨kq, x47_9, rfl, HA, HJ9, HO_0, HO_4, HB⟩ := hcut
    cases kq with
    | zero => exact absurd HA.out (by simp [bsoncore_ReadBinary.j0])
    | succ kj9 =>
      have H := HA.out; clear HA
      simp only [bsoncore_ReadBinary.j0] at H
      by_cases c17 : x47_9 = true
      · subst c17
        have H1 : (some (0, ([] : List Int), l0, false)) = some (r1, r2, r3, r4) := by rw [if_pos rfl] at H; exact H
        clear H; have H := H1; clear H1
        as_aux_lemma =>
          simp only [Option.some.injEq, Prod.mk.injEq] at H
          obtain ⟨rfl, rfl, rfl, rfl⟩ := H
          go_wp2
          repeat (go_quiet (fail); try go_wp2)
          refine bodyPost_ret (results_list (rs := [.tmp 2, .tmp 3, .tmp 4, .tmp 5]) rfl (by simp) (.tmp (.tmp (.tmp (.tmp .nil))))) rfl ?_
          exact ⟨_, _, rfl, Kd.V_nil _ _ _ _ _, HW.zV HO_0.out, HW.zb⟩
      replace c17 := Bool.eq_false_iff.mpr c17; subst c17
      have H1 : (if 0 ≤ t184 then (if t184 ≤ (t185.length : Int) then (some ((rd t174 0), (t185.take (t184 : Int).toNat), (t185.drop (t184 : Int).toNat), true)) else (none)) else (none)) = some (r1, r2, r3, r4) := by rw [if_neg (show ¬ (false = true) by decide)] at H; exact H
      clear H; have H := H1; clear H1
      by_cases c18 : 0 ≤ t184
      rotate_left
      · rw [if_neg c18] at H
        exact absurd H (by simp)
      rw [if_pos c18] at H; have c18b0 := eq_true c18; have c18b1 : decide (0 ≤ t184) = true := decide_eq_true c18; clear c18
      by_cases c19 : t184 ≤ (t185.length : Int)
      rotate_left
      · rw [if_neg c19] at H
        exact absurd H (by simp)
      rw [if_pos c19] at H; have c19b0 := eq_true c19; have c19b1 : decide (t184 ≤ (t185.length : Int)) = true := decide_eq_true c19; clear c19; obtain ⟨y189, hy189⟩ : ∃ y_ : List Int, y_ = (t185.take (t184 : Int).toNat) := ⟨_, rfl⟩
      replace H : (some ((rd t174 0), y189, (t185.drop (t184 : Int).toNat), true)) = some (r1, r2, r3, r4) := by (try rw [hy189]); exact HW.rp
      have Ny189 := Aside0.mk hy189; clear hy189
      have c20b0 := eq_true (HW.od : 0 ≤ t184)
      have c21b0 := eq_true (HW.od : t184 ≤ (t185.length : Int))
      obtain ⟨y194, hy194⟩ : ∃ y_ : List Int, y_ = (t185.drop (t184 : Int).toNat) := ⟨_, rfl⟩
      replace H : (some ((rd t174 0), y189, y194, true)) = some (r1, r2, r3, r4) := by (try rw [hy194]); exact HW.rp
      have Ny194 := Aside0.mk hy194; clear hy194
      as_aux_lemma =>
        simp only [Option.some.injEq, Prod.mk.injEq] at H
        obtain ⟨rfl, rfl, rfl, rfl⟩ := H; obtain ⟨Ao23, co23, eo23⟩ := Kd.V_slice HO_4.out; subst eo23
        have q22 : (t184 : Int) ≤ ((t185.length : Int) : Int) := HW.od
        obtain ⟨i022, hi022, _, hsz22, _⟩ := info_parts info5; have hroom22 : t185.length ≤ co23 := (Kd.V_reads' HO_4.out).2.1; have hC22 : Kd.F (Kd.int .u8) _ _ Ao23 t185.length t185 := (Kd.V_at (base := w.heap.size) HO_4.out).2.2
        have hcut22 := cut_to (P := Tryz.prog) 22 5 .i32 Tryz.underlying22 hi022 Ao23 t185.length co23 t184 (HW.od) q22 hroom22
        have hr22 := Kd.F_take (m := (t184 : Int).toNat) hC22 (by omega)
        have hy22 : y189.length = (t184 : Int).toNat := (by rw [Ny189.out, List.length_take]; omega)
        rw [← Ny189.out] at hr22; rw [← hy22] at hcut22
        have HO193 := Aside0.mk (show Kd.V (Kd.int .u8) 5 _ w.heap.size _ (.slice Ao23 y189.length co23) y189 from Kd.V_mk (by omega) hr22)
        have HC193 := Aside0.mk (show y189.length ≤ co23 from by omega)
        clear hr22 hC22 hroom22 hi022 hsz22; have KY22 := Aside0.mk hy22; clear hy22; replace q22 := eq_true q22
        have q24 : (t184 : Int) ≤ ((t185.length : Int) : Int) := HW.od
        obtain ⟨i024, hi024, _, hsz24, _⟩ := info_parts info5; have hroom24 : t185.length ≤ co23 := (Kd.V_reads' HO_4.out).2.1; have hC24 : Kd.F (Kd.int .u8) _ _ Ao23 t185.length t185 := (Kd.V_at (base := w.heap.size) HO_4.out).2.2
        have q024 : (0 : Int) ≤ (t184 : Int) := HW.od
        have hcut24 := cut_from (P := Tryz.prog) 22 5 .i32 Tryz.underlying22 hi024 1 hsz24 Ao23 t185.length co23 t184 q024 q24
        have hr24 := Kd.F_cut (m := (t184 : Int).toNat) (c := co23) hC24 (by omega) hroom24
        obtain ⟨A24, hA24⟩ : ∃ A1, A1 = (if co23 = (t184 : Int).toNat then Ao23 else (Ao23 : Option Addr).map (·.add ((t184 : Int).toNat * 1))) := ⟨_, rfl⟩; obtain ⟨c24, hc24⟩ : ∃ c1, c1 = co23 - (t184 : Int).toNat := ⟨_, rfl⟩
        have hy24 : y194.length = t185.length - (t184 : Int).toNat := (by rw [Ny194.out, List.length_drop] <;> omega)
        rw [show (t185).drop (t184 : Int).toNat = y194 from Ny194.out.symm] at hr24
        replace hr24 : Kd.F (Kd.int .u8) _ _ A24 y194.length y194 := (by rw [hA24]; exact hr24)
        rw [← hy24, ← hA24, ← hc24] at hcut24
        have HO198 := Aside0.mk (show Kd.V (Kd.int .u8) 5 _ w.heap.size _ (.slice A24 y194.length c24) y194 from Kd.V_mk (by rw [hy24, hc24]; exact Nat.sub_le_sub_right hroom24 _) hr24)
        have HC198 := Aside0.mk (show y194.length ≤ c24 from by rw [hy24, hc24]; exact Nat.sub_le_sub_right hroom24 _)
        clear hr24 hC24 hroom24 hi024 hsz24 hc24; have KY24 := Aside0.mk hy24; have KA24 := Aside0.mk hA24; clear hy24 hA24; replace q24 := eq_true q24
        go_wp2
        repeat (go_quiet (fail); try go_wp2)
        refine bodyPost_ret (results_list (rs := [.tmp 2, .tmp 3, .tmp 4, .tmp 5]) rfl (by simp) (.tmp (.tmp (.tmp (.tmp .nil))))) rfl ?_
        exact ⟨_, _, rfl, HW.zV HO193.out, HW.zV HO198.out, HW.zb⟩
def bsoncore_ReadBoolean.f (l0 : List Int) : Option (Bool × List Int × Bool) := if (l0.length : Int) < 1 then (none) else (if 0 < (l0.length : Int) then (if 1 ≤ (l0.length : Int) then (some (((rd l0 0) == 1), (l0.drop 1), true)) else (none)) else (none))
theorem bsoncore_ReadBoolean.calls (P0_ : Nat → Prop) (A0 : Option Addr) (c0 : Nat) (l0 : List Int) (r1 : Bool) (r2 : List Int) (r3 : Bool) (w : World) (hs0 : Kd.V (Kd.int .u8) 5 w w.heap.size (fun k_ => P0_ k_) (.slice A0 l0.length c0) l0) (h : bsoncore_ReadBoolean.f l0 = some (r1, r2, r3)) :
    Calls Tryz.prog 77 #[.slice A0 l0.length c0] w fun e w' => ∃ v1_ : Value, e = .returned (.tuple #[.bool r1, v1_, .bool r3]) ∧ Kd.V (Kd.int .u8) 5 w' w.heap.size (fun k_ => (P0_ k_ ∨ w.heap.size ≤ k_)) v1_ r2 ∧ Below w.heap.size w w' := by
  have HO0 := Aside0.mk (show Kd.V (Kd.int .u8) 5 w w.heap.size (fun k_ => (P0_ k_ ∨ w.heap.size ≤ k_)) (.slice A0 l0.length c0) l0 from Kd.V_mono hs0 (fun k_ hk => .inl hk)); have HB := Aside0.mk (Below.refl w.heap.size w); have H : (if (l0.length : Int) < 1 then (none) else (if 0 < (l0.length : Int) then (if 1 ≤ (l0.length : Int) then (some (((rd l0 0) == 1), (l0.drop 1), true)) else (none)) else (none))) = some (r1, r2, r3) := h; clear h
  by_cases c2 : (l0.length : Int) < 1
  · rw [if_pos c2] at H
    exact absurd H (by simp)
  rw [if_neg c2] at H; have c2b0 : decide ((l0.length : Int) < 1) = false := decide_eq_false c2
  have c2b1 : decide (l0.length < 1) = false := decide_eq_false (by omega)
  clear c2
  by_cases c3 : 0 < (l0.length : Int)
  rotate_left
  · rw [if_neg c3] at H
    exact absurd H (by simp)
  rw [if_pos c3] at H; have c3b0 : decide (0 < (l0.length : Int)) = true := decide_eq_true c3
  have c3b1 : decide (0 < l0.length) = true := decide_eq_true (by omega)
  clear c3
  by_cases c4 : 1 ≤ (l0.length : Int)
  rotate_left
  · rw [if_neg c4] at H
    exact absurd H (by simp)
  rw [if_pos c4] at H; have c4b0 := eq_true c4; have c4b1 : decide (1 ≤ (l0.length : Int)) = true := decide_eq_true c4; clear c4; obtain ⟨y210, hy210⟩ : ∃ y_ : List Int, y_ = (l0.drop 1) := ⟨_, rfl⟩
  replace H : (some (((rd l0 0) == 1), y210, true)) = some (r1, r2, r3) := by (try rw [hy210]); exact HW.rp
  have Ny210 := Aside0.mk hy210; clear hy210
  as_aux_lemma =>
    simp only [Option.some.injEq, Prod.mk.injEq] at H
    obtain ⟨rfl, rfl, rfl⟩ := H
    have p209 : 0 ≤ (0 : Int) := (by omega)
    have q209 : 0 < (l0.length : Int) := HW.od
    obtain ⟨ad209, e209, hx209_0⟩ := Kd.at_int (Kd.V_reads' HO0.out).2.2 0 p209 q209
    cases e209
    have qi209 : (0 < l0.length) = True := eq_true (by omega)
    (try rw [show ((0 : Int)).toNat = 0 from rfl] at hx209_0)
    (try rw [Addr.add_zero'] at hx209_0)
    replace p209 := eq_true p209; replace q209 := eq_true q209
    have q5 : (1 : Int) ≤ ((l0.length : Int) : Int) := HW.od
    obtain ⟨i05, hi05, _, hsz5, _⟩ := info_parts info5; have hroom5 : l0.length ≤ c0 := (Kd.V_reads' HO0.out).2.1; have hC5 : Kd.F (Kd.int .u8) _ _ (some ad209) l0.length l0 := (Kd.V_at (base := w.heap.size) HO0.out).2.2
    have hcut5 := cut_from (P := Tryz.prog) 22 5 .i64 Tryz.underlying22 hi05 1 hsz5 (some ad209) l0.length c0 1 (by omega) q5
    have hr5 := Kd.F_cut (m := (1 : Int).toNat) (c := c0) hC5 (by omega) hroom5
    obtain ⟨A5, hA5⟩ : ∃ A1, A1 = (if c0 = (1 : Int).toNat then (some ad209) else ((some ad209) : Option Addr).map (·.add ((1 : Int).toNat * 1))) := ⟨_, rfl⟩; obtain ⟨c5, hc5⟩ : ∃ c1, c1 = c0 - (1 : Int).toNat := ⟨_, rfl⟩
    have hy5 : y210.length = l0.length - (1 : Int).toNat := (by rw [Ny210.out, List.length_drop] <;> omega)
    rw [show (l0).drop (1 : Int).toNat = y210 from Ny210.out.symm] at hr5
    replace hr5 : Kd.F (Kd.int .u8) _ _ A5 y210.length y210 := (by rw [hA5]; exact hr5)
    rw [← hy5, ← hA5, ← hc5] at hcut5
    have HO214 := Aside0.mk (show Kd.V (Kd.int .u8) 5 _ w.heap.size _ (.slice A5 y210.length c5) y210 from Kd.V_mk (by rw [hy5, hc5]; exact Nat.sub_le_sub_right hroom5 _) hr5)
    have HC214 := Aside0.mk (show y210.length ≤ c5 from by rw [hy5, hc5]; exact Nat.sub_le_sub_right hroom5 _)
    clear hr5 hC5 hroom5 hi05 hsz5 hc5; have KY5 := Aside0.mk hy5; have KA5 := Aside0.mk hA5; clear hy5 hA5; replace q5 := eq_true q5
    go_enter Tryz.func77, Tryz.ntmps77
    go_wp2
    repeat (go_quiet (fail); try go_wp2)
    go_ret3
    exact ⟨_, rfl, HW.zV HO214.out, HW.zb⟩
def impl_one.f (a0 : Bool) : Option (Int) := if a0 = true then (some 1) else (some 0)
theorem impl_one.calls (a0 : Bool) (r : Int) (w : World) (h : impl_one.f a0 = some r) :
    Calls Tryz.prog 78 #[.bool a0] w fun e w' => e = .returned (.int .i64 r) ∧ Drawn0 w w' := by
  have H : (if a0 = true then (some 1) else (some 0)) = some r := h; clear h
  by_cases c2 : a0 = true
  · subst c2
    have H1 : (some 1) = some r := by rw [if_pos rfl] at H; exact H
    clear H; have H := H1; clear H1
    as_aux_lemma =>
      obtain rfl := Option.some.inj H
      go_enter Tryz.func78, Tryz.ntmps78
      go_wp2
      go_ret
      exact ⟨by first | rfl | (simp; done) | (simp [*]; done), by repeat (first | exact Drawn0.refl _ | apply Drawn0.step)⟩
  replace c2 := Bool.eq_false_iff.mpr c2; subst c2
  have H1 : (some 0) = some r := by rw [if_neg (show ¬ (false = true) by decide)] at H; exact H
  clear H; have H := H1; clear H1
  as_aux_lemma =>
    obtain rfl := Option.some.inj H
    go_enter Tryz.func78, Tryz.ntmps78
    go_wp2
    go_ret
    exact ⟨by first | rfl | (simp; done) | (simp [*]; done), by repeat (first | exact Drawn0.refl _ | apply Drawn0.step)⟩
def binaryutil_ReadI64.f (l0 : List Int) : Option (Int × List Int × Bool) := if (l0.length : Int) < 8 then (none) else (if 7 < (l0.length : Int) then (if 0 < (l0.length : Int) then (if 1 < (l0.length : Int) then (if 2 < (l0.length : Int) then (if 3 < (l0.length : Int) then (if 4 < (l0.length : Int) then (if 5 < (l0.length : Int) then (if 6 < (l0.length : Int) then (if 8 ≤ (l0.length : Int) then (some (Go.bits .or .i64 (Go.bits .or .i64 (Go.bits .or .i64 (Go.bits .or .i64 (Go.bits .or .i64 (Go.bits .or .i64 (Go.bits .or .i64 (wrap64 (rd l0 0)) (wrap64 ((wrap64 (rd l0 1)) * 256))) (wrap64 ((wrap64 (rd l0 2)) * 65536))) (wrap64 ((wrap64 (rd l0 3)) * 16777216))) (wrap64 ((wrap64 (rd l0 4)) * 4294967296))) (wrap64 ((wrap64 (rd l0 5)) * 1099511627776))) (wrap64 ((wrap64 (rd l0 6)) * 281474976710656))) (wrap64 ((wrap64 (rd l0 7)) * 72057594037927936)), (l0.drop 8), true)) else (none)) else (none)) else (none)) else (none)) else (none)) else (none)) else (none)) else (none)) else (none))
theorem binaryutil_ReadI64.calls (P0_ : Nat → Prop) (A0 : Option Addr) (c0 : Nat) (l0 : List Int) (r1 : Int) (r2 : List Int) (r3 : Bool) (w : World) (hs0 : Kd.V (Kd.int .u8) 5 w w.heap.size (fun k_ => P0_ k_) (.slice A0 l0.length c0) l0) (h : binaryutil_ReadI64.f l0 = some (r1, r2, r3)) :
    Calls Tryz.prog 114 #[.slice A0 l0.length c0] w fun e w' => ∃ v1_ : Value, e = .returned (.tuple #[.int .i64 r1, v1_, .bool r3]) ∧ Kd.V (Kd.int .u8) 5 w' w.heap.size (fun k_ => (P0_ k_ ∨ w.heap.size ≤ k_)) v1_ r2 ∧ Below w.heap.size w w' := by
  have HO0 := Aside0.mk (show Kd.V (Kd.int .u8) 5 w w.heap.size (fun k_ => (P0_ k_ ∨ w.heap.size ≤ k_)) (.slice A0 l0.length c0) l0 from Kd.V_mono hs0 (fun k_ hk => .inl hk)); have HB := Aside0.mk (Below.refl w.heap.size w)
  have H : (if (l0.length : Int) < 8 then (none) else (if 7 < (l0.length : Int) then (if 0 < (l0.length : Int) then (if 1 < (l0.length : Int) then (if 2 < (l0.length : Int) then (if 3 < (l0.length : Int) then (if 4 < (l0.length : Int) then (if 5 < (l0.length : Int) then (if 6 < (l0.length : Int) then (if 8 ≤ (l0.length : Int) then (some (Go.bits .or .i64 (Go.bits .or .i64 (Go.bits .or .i64 (Go.bits .or .i64 (Go.bits .or .i64 (Go.bits .or .i64 (Go.bits .or .i64 (wrap64 (rd l0 0)) (wrap64 ((wrap64 (rd l0 1)) * 256))) (wrap64 ((wrap64 (rd l0 2)) * 65536))) (wrap64 ((wrap64 (rd l0 3)) * 16777216))) (wrap64 ((wrap64 (rd l0 4)) * 4294967296))) (wrap64 ((wrap64 (rd l0 5)) * 1099511627776))) (wrap64 ((wrap64 (rd l0 6)) * 281474976710656))) (wrap64 ((wrap64 (rd l0 7)) * 72057594037927936)), (l0.drop 8), true)) else (none)) else (none)) else (none)) else (none)) else (none)) else (none)) else (none)) else (none)) else (none))) = some (r1, r2, r3) := h
  clear h
  by_cases c2 : (l0.length : Int) < 8
  · rw [if_pos c2] at H
    exact absurd H (by simp)
  rw [if_neg c2] at H; have c2b0 : decide ((l0.length : Int) < 8) = false := decide_eq_false c2
  have c2b1 : decide (l0.length < 8) = false := decide_eq_false (by omega)
  clear c2
  by_cases c3 : 7 < (l0.length : Int)
  rotate_left
  · rw [if_neg c3] at H
    exact absurd H (by simp)
  rw [if_pos c3] at H; have c3b0 : decide (7 < (l0.length : Int)) = true := decide_eq_true c3
  have c3b1 : decide (7 < l0.length) = true := decide_eq_true (by omega)
  clear c3
  by_cases c4 : 0 < (l0.length : Int)
  rotate_left
  · rw [if_neg c4] at H
    exact absurd H (by simp)
  rw [if_pos c4] at H; have c4b0 : decide (0 < (l0.length : Int)) = true := decide_eq_true c4
  have c4b1 : decide (0 < l0.length) = true := decide_eq_true (by omega)
  clear c4
  by_cases c5 : 1 < (l0.length : Int)
  rotate_left
  · rw [if_neg c5] at H
    exact absurd H (by simp)
  rw [if_pos c5] at H; have c5b0 : decide (1 < (l0.length : Int)) = true := decide_eq_true c5
  have c5b1 : decide (1 < l0.length) = true := decide_eq_true (by omega)
  clear c5
  by_cases c6 : 2 < (l0.length : Int)
  rotate_left
  · rw [if_neg c6] at H
    exact absurd H (by simp)
  rw [if_pos c6] at H; have c6b0 : decide (2 < (l0.length : Int)) = true := decide_eq_true c6
  have c6b1 : decide (2 < l0.length) = true := decide_eq_true (by omega)
  clear c6
  by_cases c7 : 3 < (l0.length : Int)
  rotate_left
  · rw [if_neg c7] at H
    exact absurd H (by simp)
  rw [if_pos c7] at H; have c7b0 : decide (3 < (l0.length : Int)) = true := decide_eq_true c7
  have c7b1 : decide (3 < l0.length) = true := decide_eq_true (by omega)
  clear c7
  by_cases c8 : 4 < (l0.length : Int)
  rotate_left
  · rw [if_neg c8] at H
    exact absurd H (by simp)
  rw [if_pos c8] at H; have c8b0 : decide (4 < (l0.length : Int)) = true := decide_eq_true c8
  have c8b1 : decide (4 < l0.length) = true := decide_eq_true (by omega)
  clear c8
  by_cases c9 : 5 < (l0.length : Int)
  rotate_left
  · rw [if_neg c9] at H
    exact absurd H (by simp)
  rw [if_pos c9] at H; have c9b0 : decide (5 < (l0.length : Int)) = true := decide_eq_true c9
  have c9b1 : decide (5 < l0.length) = true := decide_eq_true (by omega)
  clear c9
  by_cases c10 : 6 < (l0.length : Int)
  rotate_left
  · rw [if_neg c10] at H
    exact absurd H (by simp)
  rw [if_pos c10] at H; have c10b0 : decide (6 < (l0.length : Int)) = true := decide_eq_true c10
  have c10b1 : decide (6 < l0.length) = true := decide_eq_true (by omega)
  clear c10
  by_cases c11 : 8 ≤ (l0.length : Int)
  rotate_left
  · rw [if_neg c11] at H
    exact absurd H (by simp)
  rw [if_pos c11] at H; have c11b0 := eq_true c11; have c11b1 : decide (8 ≤ (l0.length : Int)) = true := decide_eq_true c11; clear c11; obtain ⟨y224, hy224⟩ : ∃ y_ : List Int, y_ = (l0.drop 8) := ⟨_, rfl⟩
  replace H : (some (Go.bits .or .i64 (Go.bits .or .i64 (Go.bits .or .i64 (Go.bits .or .i64 (Go.bits .or .i64 (Go.bits .or .i64 (Go.bits .or .i64 (wrap64 (rd l0 0)) (wrap64 ((wrap64 (rd l0 1)) * 256))) (wrap64 ((wrap64 (rd l0 2)) * 65536))) (wrap64 ((wrap64 (rd l0 3)) * 16777216))) (wrap64 ((wrap64 (rd l0 4)) * 4294967296))) (wrap64 ((wrap64 (rd l0 5)) * 1099511627776))) (wrap64 ((wrap64 (rd l0 6)) * 281474976710656))) (wrap64 ((wrap64 (rd l0 7)) * 72057594037927936)), y224, true)) = some (r1, r2, r3) := by (try rw [hy224]); exact HW.rp
  have Ny224 := Aside0.mk hy224; clear hy224
  as_aux_lemma =>
    simp only [Option.some.injEq, Prod.mk.injEq] at H
    obtain ⟨rfl, rfl, rfl⟩ := H
    have p215 : 0 ≤ (7 : Int) := (by omega)
    have q215 : 7 < (l0.length : Int) := HW.od
    obtain ⟨ad215, e215, hx215_0⟩ := Kd.at_int (Kd.V_reads' HO0.out).2.2 7 p215 q215
    cases e215
    (try simp only [show (7 : Int).toNat = 7 from rfl, Nat.reduceMul, Nat.reduceEqDiff, Go.Addr.add, ↓reduceIte] at hx215_0)
    have qi215 : (7 < l0.length) = True := eq_true (by omega)
    (try rw [show ((7 : Int)).toNat = 7 from rfl] at hx215_0)
    replace p215 := eq_true p215; replace q215 := eq_true q215
    have p216 : 0 ≤ (0 : Int) := (by omega)
    have q216 : 0 < (l0.length : Int) := HW.od
    obtain ⟨ad216, e216, hx216_0⟩ := Kd.at_int (Kd.V_reads' HO0.out).2.2 0 p216 q216
    obtain rfl : ad215 = ad216 := (by injection e216)
    have qi216 : (0 < l0.length) = True := eq_true (by omega)
    (try rw [show ((0 : Int)).toNat = 0 from rfl] at hx216_0)
    (try rw [Addr.add_zero'] at hx216_0)
    replace p216 := eq_true p216; replace q216 := eq_true q216
    have p217 : 0 ≤ (1 : Int) := (by omega)
    have q217 : 1 < (l0.length : Int) := HW.od
    obtain ⟨ad217, e217, hx217_0⟩ := Kd.at_int (Kd.V_reads' HO0.out).2.2 1 p217 q217
    obtain rfl : ad215 = ad217 := (by injection e217)
    (try simp only [show (1 : Int).toNat = 1 from rfl, Nat.reduceMul, Nat.reduceEqDiff, Go.Addr.add, ↓reduceIte] at hx217_0)
    have qi217 : (1 < l0.length) = True := eq_true (by omega)
    (try rw [show ((1 : Int)).toNat = 1 from rfl] at hx217_0)
    replace p217 := eq_true p217; replace q217 := eq_true q217
    have p218 : 0 ≤ (2 : Int) := (by omega)
    have q218 : 2 < (l0.length : Int) := HW.od
    obtain ⟨ad218, e218, hx218_0⟩ := Kd.at_int (Kd.V_reads' HO0.out).2.2 2 p218 q218
    obtain rfl : ad215 = ad218 := (by injection e218)
    (try simp only [show (2 : Int).toNat = 2 from rfl, Nat.reduceMul, Nat.reduceEqDiff, Go.Addr.add, ↓reduceIte] at hx218_0)
    have qi218 : (2 < l0.length) = True := eq_true (by omega)
    (try rw [show ((2 : Int)).toNat = 2 from rfl] at hx218_0)
    replace p218 := eq_true p218; replace q218 := eq_true q218
    have p219 : 0 ≤ (3 : Int) := (by omega)
    have q219 : 3 < (l0.length : Int) := HW.od
    obtain ⟨ad219, e219, hx219_0⟩ := Kd.at_int (Kd.V_reads' HO0.out).2.2 3 p219 q219
    obtain rfl : ad215 = ad219 := (by injection e219)
    (try simp only [show (3 : Int).toNat = 3 from rfl, Nat.reduceMul, Nat.reduceEqDiff, Go.Addr.add, ↓reduceIte] at hx219_0)
    have qi219 : (3 < l0.length) = True := eq_true (by omega)
    (try rw [show ((3 : Int)).toNat = 3 from rfl] at hx219_0)
    replace p219 := eq_true p219; replace q219 := eq_true q219
    have p220 : 0 ≤ (4 : Int) := (by omega)
    have q220 : 4 < (l0.length : Int) := HW.od
    obtain ⟨ad220, e220, hx220_0⟩ := Kd.at_int (Kd.V_reads' HO0.out).2.2 4 p220 q220
    obtain rfl : ad215 = ad220 := (by injection e220)
    (try simp only [show (4 : Int).toNat = 4 from rfl, Nat.reduceMul, Nat.reduceEqDiff, Go.Addr.add, ↓reduceIte] at hx220_0)
    have qi220 : (4 < l0.length) = True := eq_true (by omega)
    (try rw [show ((4 : Int)).toNat = 4 from rfl] at hx220_0)
    replace p220 := eq_true p220; replace q220 := eq_true q220
    have p221 : 0 ≤ (5 : Int) := (by omega)
    have q221 : 5 < (l0.length : Int) := HW.od
    obtain ⟨ad221, e221, hx221_0⟩ := Kd.at_int (Kd.V_reads' HO0.out).2.2 5 p221 q221
    obtain rfl : ad215 = ad221 := (by injection e221)
    (try simp only [show (5 : Int).toNat = 5 from rfl, Nat.reduceMul, Nat.reduceEqDiff, Go.Addr.add, ↓reduceIte] at hx221_0)
    have qi221 : (5 < l0.length) = True := eq_true (by omega)
    (try rw [show ((5 : Int)).toNat = 5 from rfl] at hx221_0)
    replace p221 := eq_true p221; replace q221 := eq_true q221
    have p222 : 0 ≤ (6 : Int) := (by omega)
    have q222 : 6 < (l0.length : Int) := HW.od
    obtain ⟨ad222, e222, hx222_0⟩ := Kd.at_int (Kd.V_reads' HO0.out).2.2 6 p222 q222
    obtain rfl : ad215 = ad222 := (by injection e222)
    (try simp only [show (6 : Int).toNat = 6 from rfl, Nat.reduceMul, Nat.reduceEqDiff, Go.Addr.add, ↓reduceIte] at hx222_0)
    have qi222 : (6 < l0.length) = True := eq_true (by omega)
    (try rw [show ((6 : Int)).toNat = 6 from rfl] at hx222_0)
    replace p222 := eq_true p222; replace q222 := eq_true q222
    have p223 : 0 ≤ (7 : Int) := (by omega)
    have q223 : 7 < (l0.length : Int) := HW.od
    obtain ⟨ad223, e223, hx223_0⟩ := Kd.at_int (Kd.V_reads' HO0.out).2.2 7 p223 q223
    obtain rfl : ad215 = ad223 := (by injection e223)
    (try simp only [show (7 : Int).toNat = 7 from rfl, Nat.reduceMul, Nat.reduceEqDiff, Go.Addr.add, ↓reduceIte] at hx223_0)
    have qi223 : (7 < l0.length) = True := eq_true (by omega)
    (try rw [show ((7 : Int)).toNat = 7 from rfl] at hx223_0)
    replace p223 := eq_true p223; replace q223 := eq_true q223
    have q12 : (8 : Int) ≤ ((l0.length : Int) : Int) := HW.od
    obtain ⟨i012, hi012, _, hsz12, _⟩ := info_parts info5; have hroom12 : l0.length ≤ c0 := (Kd.V_reads' HO0.out).2.1; have hC12 : Kd.F (Kd.int .u8) _ _ (some ad215) l0.length l0 := (Kd.V_at (base := w.heap.size) HO0.out).2.2
    have hcut12 := cut_from (P := Tryz.prog) 22 5 .i64 Tryz.underlying22 hi012 1 hsz12 (some ad215) l0.length c0 8 (by omega) q12
    have hr12 := Kd.F_cut (m := (8 : Int).toNat) (c := c0) hC12 (by omega) hroom12
    obtain ⟨A12, hA12⟩ : ∃ A1, A1 = (if c0 = (8 : Int).toNat then (some ad215) else ((some ad215) : Option Addr).map (·.add ((8 : Int).toNat * 1))) := ⟨_, rfl⟩; obtain ⟨c12, hc12⟩ : ∃ c1, c1 = c0 - (8 : Int).toNat := ⟨_, rfl⟩
    have hy12 : y224.length = l0.length - (8 : Int).toNat := (by rw [Ny224.out, List.length_drop] <;> omega)
    rw [show (l0).drop (8 : Int).toNat = y224 from Ny224.out.symm] at hr12
    replace hr12 : Kd.F (Kd.int .u8) _ _ A12 y224.length y224 := (by rw [hA12]; exact hr12)
    rw [← hy12, ← hA12, ← hc12] at hcut12
    have HO228 := Aside0.mk (show Kd.V (Kd.int .u8) 5 _ w.heap.size _ (.slice A12 y224.length c12) y224 from Kd.V_mk (by rw [hy12, hc12]; exact Nat.sub_le_sub_right hroom12 _) hr12)
    have HC228 := Aside0.mk (show y224.length ≤ c12 from by rw [hy12, hc12]; exact Nat.sub_le_sub_right hroom12 _)
    clear hr12 hC12 hroom12 hi012 hsz12 hc12; have KY12 := Aside0.mk hy12; have KA12 := Aside0.mk hA12; clear hy12 hA12; replace q12 := eq_true q12
    go_enter Tryz.func114, Tryz.ntmps114
    go_wp2
    repeat (go_quiet (fail); try go_wp2)
    go_ret3
    exact ⟨_, rfl, HW.zV HO228.out, HW.zb⟩
def bsoncore_ReadDateTime.f (l0 : List Int) : Option (Int × List Int × Bool) := (binaryutil_ReadI64.f l0).bind fun bt229 => (some (bt229.1, bt229.2.1, bt229.2.2))
theorem bsoncore_ReadDateTime.calls (P0_ : Nat → Prop) (A0 : Option Addr) (c0 : Nat) (l0 : List Int) (r1 : Int) (r2 : List Int) (r3 : Bool) (w : World) (hs0 : Kd.V (Kd.int .u8) 5 w w.heap.size (fun k_ => P0_ k_) (.slice A0 l0.length c0) l0) (h : bsoncore_ReadDateTime.f l0 = some (r1, r2, r3)) :
    Calls Tryz.prog 79 #[.slice A0 l0.length c0] w fun e w' => ∃ v1_ : Value, e = .returned (.tuple #[.int .i64 r1, v1_, .bool r3]) ∧ Kd.V (Kd.int .u8) 5 w' w.heap.size (fun k_ => (P0_ k_ ∨ w.heap.size ≤ k_)) v1_ r2 ∧ Below w.heap.size w w' := by
  have HO0 := Aside0.mk (show Kd.V (Kd.int .u8) 5 w w.heap.size (fun k_ => (P0_ k_ ∨ w.heap.size ≤ k_)) (.slice A0 l0.length c0) l0 from Kd.V_mono hs0 (fun k_ hk => .inl hk)); have HB := Aside0.mk (Below.refl w.heap.size w); have H : ((binaryutil_ReadI64.f l0).bind fun bt229 => (some (bt229.1, bt229.2.1, bt229.2.2))) = some (r1, r2, r3) := h; clear h; replace H := Option.bind_eq_some_iff.mp H; obtain ⟨⟨t229, t230, t233⟩, A20, H⟩ := H; replace H : (some (t229, t230, t233)) = some (r1, r2, r3) := H; have A2 := Aside0.mk A20; clear A20
  as_aux_lemma =>
    simp only [Option.some.injEq, Prod.mk.injEq] at H
    obtain ⟨rfl, rfl, rfl⟩ := H
    go_enter Tryz.func79, Tryz.ntmps79
    go_wp2_with (first | ((with_reducible refine gate_callee (f := 114) rfl ?_); refine HW.gz (some 6) rfl rfl Tryz.func114 (by kernel_rfl) rfl #[.slice A0 l0.length c0] rfl ?_; (with_reducible refine (binaryutil_ReadI64.calls (fun k_ => (P0_ k_ ∨ w.heap.size ≤ k_)) _ _ l0 t229 t230 t233 _ ?side1 A2.out).mono ?_); (case side1 => exact HO0.out); rintro e w3 ⟨v231, rfl, ho0, hb⟩; refine ⟨_, rfl, ?_⟩; have HO232 := Aside0.mk (Kd.V_lower (Kd.V_mono (ok' := fun k_ => (P0_ k_ ∨ w.heap.size ≤ k_)) ho0 (fun k_ hk_ => Or.elim hk_ (fun hs_ => hs_) (fun hn_ => (.inr (Nat.le_trans (below_size HW.zb) hn_))))) (below_size HW.zb)); replace HB := Aside0.mk (below_step HW.zb hb); (try clear hb); (try clear ho0)))
    go_ret3
    exact ⟨_, rfl, HW.zV HO232.out, HW.zb⟩
def bytes_IndexByte.f (l0 : List Int) (a1 : Int) : Option (Int) := some (Lib.indexByte (Lib.bytesOf l0) a1.toNat.toUInt8)
theorem bytes_IndexByte.calls (A0 : Option Addr) (c0 : Nat) (l0 : List Int) (a1 : Int) (r : Int) (w : World) (hr0 : Kd.C (Kd.int .u8) w A0 l0.length l0) (_hc0 : l0.length ≤ c0) (h : bytes_IndexByte.f l0 a1 = some r) :
    Calls Tryz.prog 129 #[.slice A0 l0.length c0, .int .u8 a1] w fun e w' => e = .returned (.int .i64 r) ∧ Drawn0 w w' := by
  obtain rfl := Option.some.inj h; clear h; have HR := Kd.reads_of_C (enc := Value.int .u8) (d := (0 : Int)) (h1 := fun _ => rfl) hr0; clear hr0
  cases A0 with
  | none =>
    have hl : l0 = [] := by
      rcases Nat.eq_zero_or_pos l0.length with hz | hz
      · exact List.eq_nil_of_length_eq_zero hz
      obtain ⟨_, he, _⟩ := HR.2.2 hz
      cases he
    subst hl
    go_enter Tryz.func129, Tryz.ntmps129
    go_wp2
    rw [run_callFunc_extern Tryz.func171 (by kernel_rfl) (by kernel_rfl) (by kernel_rfl) (e := Extern.BytealgIndexByte.indexByte) (by kernel_rfl), Lib.run_indexByteNil w]
    simp only [Result.andThen]
    rw [Oper.upon_value]
    go_wp2
    go_ret
    exact ⟨rfl, ⟨0, rfl⟩⟩
  | some a =>
    have hc : ∀ i, i < l0.length → w.cell? (a.add i) = some (.int .u8 (l0.getD i 0)) := by
      intro i hi
      obtain ⟨ad, he, hc⟩ := HR.2.2 (by omega)
      cases he
      exact hc i hi
    clear HR
    go_enter Tryz.func129, Tryz.ntmps129
    go_wp2
    rw [run_callFunc_extern Tryz.func171 (by kernel_rfl) (by kernel_rfl) (by kernel_rfl) (e := Extern.BytealgIndexByte.indexByte) (by kernel_rfl), Lib.run_indexByteAt w a l0.length c0 l0 rfl hc a1]
    simp only [Result.andThen]
    rw [Oper.upon_value]
    go_wp2
    go_ret
    exact ⟨rfl, ⟨0, rfl⟩⟩
def binaryutil_ReadCStringBytes.f (l0 : List Int) : Option (List Int × List Int × Bool) := (bytes_IndexByte.f l0 0).bind fun t234 => (if t234 < 0 then (some (([] : List Int), l0, false)) else (if 0 ≤ t234 then (if t234 ≤ (l0.length : Int) then (if 0 ≤ (wrap64 (t234 + 1)) then (if (wrap64 (t234 + 1)) ≤ (l0.length : Int) then (some ((l0.take (t234 : Int).toNat), (l0.drop ((wrap64 (t234 + 1)) : Int).toNat), true)) else (none)) else (none)) else (none)) else (none)))
theorem binaryutil_ReadCStringBytes.calls (P0_ : Nat → Prop) (A0 : Option Addr) (c0 : Nat) (l0 : List Int) (r1 : List Int) (r2 : List Int) (r3 : Bool) (w : World) (hs0 : Kd.V (Kd.int .u8) 5 w w.heap.size (fun k_ => P0_ k_) (.slice A0 l0.length c0) l0) (h : binaryutil_ReadCStringBytes.f l0 = some (r1, r2, r3)) :
    Calls Tryz.prog 102 #[.slice A0 l0.length c0] w fun e w' => ∃ v0_ v1_ : Value, e = .returned (.tuple #[v0_, v1_, .bool r3]) ∧ Kd.V (Kd.int .u8) 5 w' w.heap.size (fun k_ => (P0_ k_ ∨ w.heap.size ≤ k_)) v0_ r1 ∧ Kd.V (Kd.int .u8) 5 w' w.heap.size (fun k_ => (P0_ k_ ∨ w.heap.size ≤ k_)) v1_ r2 ∧ Below w.heap.size w w' := by
  have HO0 := Aside0.mk (show Kd.V (Kd.int .u8) 5 w w.heap.size (fun k_ => (P0_ k_ ∨ w.heap.size ≤ k_)) (.slice A0 l0.length c0) l0 from Kd.V_mono hs0 (fun k_ hk => .inl hk)); have HB := Aside0.mk (Below.refl w.heap.size w); have H : ((bytes_IndexByte.f l0 0).bind fun t234 => (if t234 < 0 then (some (([] : List Int), l0, false)) else (if 0 ≤ t234 then (if t234 ≤ (l0.length : Int) then (if 0 ≤ (wrap64 (t234 + 1)) then (if (wrap64 (t234 + 1)) ≤ (l0.length : Int) then (some ((l0.take (t234 : Int).toNat), (l0.drop ((wrap64 (t234 + 1)) : Int).toNat), true)) else (none)) else (none)) else (none)) else (none)))) = some (r1, r2, r3) := h; clear h; replace H := Option.bind_eq_some_iff.mp H; obtain ⟨t234, A20, H⟩ := H; replace H : (if t234 < 0 then (some (([] : List Int), l0, false)) else (if 0 ≤ t234 then (if t234 ≤ (l0.length : Int) then (if 0 ≤ (wrap64 (t234 + 1)) then (if (wrap64 (t234 + 1)) ≤ (l0.length : Int) then (some ((l0.take (t234 : Int).toNat), (l0.drop ((wrap64 (t234 + 1)) : Int).toNat), true)) else (none)) else (none)) else (none)) else (none))) = some (r1, r2, r3) := H; have A2 := Aside0.mk A20; clear A20
  by_cases c3 : t234 < 0
  · rw [if_pos c3] at H
    have c3b0 : decide (t234 < 0) = true := decide_eq_true c3; clear c3
    as_aux_lemma =>
      simp only [Option.some.injEq, Prod.mk.injEq] at H
      obtain ⟨rfl, rfl, rfl⟩ := H
      go_enter Tryz.func102, Tryz.ntmps102
      go_wp2_with (first | (go_at_call 129; (with_reducible refine (bytes_IndexByte.calls _ _ l0 0 t234 _ ?side1 ?side2 A2.out).mono ?_); (case side1 => repeat (first | exact (Kd.V_reads' HO0.out).2.2 | (with_reducible refine Kd.C_alloc ?_ _) | (with_reducible refine Kd.C_drewN ?_ _) | (with_reducible refine Kd.C_drew ?_))); (case side2 => exact (Kd.V_reads' HO0.out).2.1); rintro e w' ⟨rfl, ⟨nd, rfl⟩⟩; (try first | exact ⟨rfl, _, World.drewN_drewN _ _ _⟩ | exact ⟨rfl, _, Eq.trans (World.drewN_drewN _ _ _) (congrArg (World.drewN _) (Nat.add_assoc _ _ _))⟩)))
      repeat (go_quiet (fail); try go_wp2)
      go_ret3
      exact ⟨_, _, rfl, Kd.V_nil _ _ _ _ _, HW.zV HO0.out, HW.zb⟩
  rw [if_neg c3] at H; have c3b0 : decide (t234 < 0) = false := decide_eq_false c3; clear c3
  by_cases c4 : 0 ≤ t234
  rotate_left
  · rw [if_neg c4] at H
    exact absurd H (by simp)
  rw [if_pos c4] at H; have c4b0 := eq_true c4; have c4b1 : decide (0 ≤ t234) = true := decide_eq_true c4; clear c4
  by_cases c5 : t234 ≤ (l0.length : Int)
  rotate_left
  · rw [if_neg c5] at H
    exact absurd H (by simp)
  rw [if_pos c5] at H; have c5b0 := eq_true c5; have c5b1 : decide (t234 ≤ (l0.length : Int)) = true := decide_eq_true c5; clear c5; obtain ⟨y235, hy235⟩ : ∃ y_ : List Int, y_ = (l0.take (t234 : Int).toNat) := ⟨_, rfl⟩
  replace H : (if 0 ≤ (wrap64 (t234 + 1)) then (if (wrap64 (t234 + 1)) ≤ (l0.length : Int) then (some (y235, (l0.drop ((wrap64 (t234 + 1)) : Int).toNat), true)) else (none)) else (none)) = some (r1, r2, r3) := by (try rw [hy235]); exact HW.rp
  have Ny235 := Aside0.mk hy235; clear hy235; obtain ⟨ji6, hji6⟩ : ∃ j_ : Int, (wrap64 (t234 + 1)) = j_ := ⟨_, rfl⟩
  replace H : (if 0 ≤ (ji6) then (if (ji6) ≤ (l0.length : Int) then (some (y235, (l0.drop ((ji6) : Int).toNat), true)) else (none)) else (none)) = some (r1, r2, r3) := by first | (rw [hji6] at H; exact H) | (simp only [hji6] at H ⊢; exact H)
  (try rw [hji6] at A2)
  have hji6w : (IntKind.i64.wrap (t234 + 1)) = ji6 := (i64_w _).trans hji6
  by_cases c7 : 0 ≤ (ji6)
  rotate_left
  · rw [if_neg c7] at H
    exact absurd H (by simp)
  rw [if_pos c7] at H; have c7b0 := eq_true c7; have c7b1 : decide (0 ≤ (ji6)) = true := decide_eq_true c7; clear c7
  by_cases c8 : (ji6) ≤ (l0.length : Int)
  rotate_left
  · rw [if_neg c8] at H
    exact absurd H (by simp)
  rw [if_pos c8] at H; have c8b0 := eq_true c8; have c8b1 : decide ((ji6) ≤ (l0.length : Int)) = true := decide_eq_true c8; clear c8; obtain ⟨y240, hy240⟩ : ∃ y_ : List Int, y_ = (l0.drop ((ji6) : Int).toNat) := ⟨_, rfl⟩
  replace H : (some (y235, y240, true)) = some (r1, r2, r3) := by (try rw [hy240]); exact HW.rp
  have Ny240 := Aside0.mk hy240; clear hy240
  as_aux_lemma =>
    simp only [Option.some.injEq, Prod.mk.injEq] at H
    obtain ⟨rfl, rfl, rfl⟩ := H
    go_enter Tryz.func102, Tryz.ntmps102
    go_wp2_with (first | (go_at_call 129; (with_reducible refine (bytes_IndexByte.calls _ _ l0 0 t234 _ ?side1 ?side2 A2.out).mono ?_); (case side1 => repeat (first | exact (Kd.V_reads' HO0.out).2.2 | (with_reducible refine Kd.C_alloc ?_ _) | (with_reducible refine Kd.C_drewN ?_ _) | (with_reducible refine Kd.C_drew ?_))); (case side2 => exact (Kd.V_reads' HO0.out).2.1); rintro e w' ⟨rfl, ⟨nd, rfl⟩⟩; (try first | exact ⟨rfl, _, World.drewN_drewN _ _ _⟩ | exact ⟨rfl, _, Eq.trans (World.drewN_drewN _ _ _) (congrArg (World.drewN _) (Nat.add_assoc _ _ _))⟩); have q9 : (t234 : Int) ≤ ((l0.length : Int) : Int) := HW.od; obtain ⟨i09, hi09, _, hsz9, _⟩ := info_parts info5; have hroom9 : l0.length ≤ c0 := (Kd.V_reads' HO0.out).2.1; have hC9 : Kd.F (Kd.int .u8) _ _ A0 l0.length l0 := (Kd.V_at (base := w.heap.size) HO0.out).2.2; have hcut9 := cut_to (P := Tryz.prog) 22 5 .i64 Tryz.underlying22 hi09 A0 l0.length c0 t234 (HW.od) q9 hroom9; have hr9 := Kd.F_take (m := (t234 : Int).toNat) hC9 (by omega); have hy9 : y235.length = (t234 : Int).toNat := (by rw [Ny235.out, List.length_take]; omega); rw [← Ny235.out] at hr9; rw [← hy9] at hcut9; have HO239 := Aside0.mk (show Kd.V (Kd.int .u8) 5 _ w.heap.size _ (.slice A0 y235.length c0) y235 from Kd.V_mk (by omega) hr9); have HC239 := Aside0.mk (show y235.length ≤ c0 from by omega); clear hr9 hC9 hroom9 hi09 hsz9; have KY9 := Aside0.mk hy9; clear hy9; replace q9 := eq_true q9; have q10 : ((ji6) : Int) ≤ ((l0.length : Int) : Int) := HW.od; obtain ⟨i010, hi010, _, hsz10, _⟩ := info_parts info5; have hroom10 : l0.length ≤ c0 := (Kd.V_reads' HO0.out).2.1; have hC10 : Kd.F (Kd.int .u8) _ _ A0 l0.length l0 := (Kd.V_at (base := w.heap.size) HO0.out).2.2; have q010 : (0 : Int) ≤ ((ji6) : Int) := HW.od; have hcut10 := cut_from (P := Tryz.prog) 22 5 .i64 Tryz.underlying22 hi010 1 hsz10 A0 l0.length c0 (ji6) q010 q10; have hr10 := Kd.F_cut (m := ((ji6) : Int).toNat) (c := c0) hC10 (by omega) hroom10; obtain ⟨A10, hA10⟩ : ∃ A1, A1 = (if c0 = ((ji6) : Int).toNat then A0 else (A0 : Option Addr).map (·.add (((ji6) : Int).toNat * 1))) := ⟨_, rfl⟩; obtain ⟨c10, hc10⟩ : ∃ c1, c1 = c0 - ((ji6) : Int).toNat := ⟨_, rfl⟩; have hy10 : y240.length = l0.length - ((ji6) : Int).toNat := (by rw [Ny240.out, List.length_drop] <;> omega); rw [show (l0).drop ((ji6) : Int).toNat = y240 from Ny240.out.symm] at hr10; replace hr10 : Kd.F (Kd.int .u8) _ _ A10 y240.length y240 := (by rw [hA10]; exact hr10); rw [← hy10, ← hA10, ← hc10] at hcut10; have HO244 := Aside0.mk (show Kd.V (Kd.int .u8) 5 _ w.heap.size _ (.slice A10 y240.length c10) y240 from Kd.V_mk (by rw [hy10, hc10]; exact Nat.sub_le_sub_right hroom10 _) hr10); have HC244 := Aside0.mk (show y240.length ≤ c10 from by rw [hy10, hc10]; exact Nat.sub_le_sub_right hroom10 _); clear hr10 hC10 hroom10 hi010 hsz10 hc10; have KY10 := Aside0.mk hy10; have KA10 := Aside0.mk hA10; clear hy10 hA10; replace q10 := eq_true q10))
    repeat (go_quiet (fail); try go_wp2)
    go_ret3
    exact ⟨_, _, by first | rfl | (simp [errW_none, errW_some] <;> rfl) | (simp only [← hji6]; first | rfl | (simp [errW_none, errW_some] <;> rfl)) | (simp [*, errW_none, errW_some] <;> rfl), HW.zV HO239.out, HW.zV HO244.out, HW.zb⟩
def binaryutil_ReadCString.f (l0 : List Int) : Option (ByteArray × List Int × Bool) := (binaryutil_ReadCStringBytes.f l0).bind fun bt245 => (if bt245.2.2 = true then (some (strOfNums bt245.1, bt245.2.1, true)) else (some ((⟨#[]⟩ : ByteArray), l0, false)))
theorem binaryutil_ReadCString.calls (P0_ : Nat → Prop) (A0 : Option Addr) (c0 : Nat) (l0 : List Int) (r1 : ByteArray) (r2 : List Int) (r3 : Bool) (w : World) (hs0 : Kd.V (Kd.int .u8) 5 w w.heap.size (fun k_ => P0_ k_) (.slice A0 l0.length c0) l0) (h : binaryutil_ReadCString.f l0 = some (r1, r2, r3)) :
    Calls Tryz.prog 55 #[.slice A0 l0.length c0] w fun e w' => ∃ v1_ : Value, e = .returned (.tuple #[.string r1, v1_, .bool r3]) ∧ Kd.V (Kd.int .u8) 5 w' w.heap.size (fun k_ => (P0_ k_ ∨ w.heap.size ≤ k_)) v1_ r2 ∧ Below w.heap.size w w' := by
  have HO0 := Aside0.mk (show Kd.V (Kd.int .u8) 5 w w.heap.size (fun k_ => (P0_ k_ ∨ w.heap.size ≤ k_)) (.slice A0 l0.length c0) l0 from Kd.V_mono hs0 (fun k_ hk => .inl hk)); have HB := Aside0.mk (Below.refl w.heap.size w); have H : ((binaryutil_ReadCStringBytes.f l0).bind fun bt245 => (if bt245.2.2 = true then (some (strOfNums bt245.1, bt245.2.1, true)) else (some ((⟨#[]⟩ : ByteArray), l0, false)))) = some (r1, r2, r3) := h; clear h; replace H := Option.bind_eq_some_iff.mp H; obtain ⟨⟨t245, t248, t251⟩, A20, H⟩ := H; replace H : (if t251 = true then (some (strOfNums t245, t248, true)) else (some ((⟨#[]⟩ : ByteArray), l0, false))) = some (r1, r2, r3) := H; have A2 := Aside0.mk A20; clear A20
  by_cases c3 : t251 = true
  · subst c3
    have H1 : (some (strOfNums t245, t248, true)) = some (r1, r2, r3) := by rw [if_pos rfl] at H; exact H
    clear H; have H := H1; clear H1
    as_aux_lemma =>
      simp only [Option.some.injEq, Prod.mk.injEq] at H
      obtain ⟨rfl, rfl, rfl⟩ := H
      go_enter Tryz.func55, Tryz.ntmps55
      go_wp2_with (first | ((with_reducible refine gate_callee (f := 102) rfl ?_); refine HW.gz (some 10) rfl rfl Tryz.func102 (by kernel_rfl) rfl #[.slice A0 l0.length c0] rfl ?_; (with_reducible refine (binaryutil_ReadCStringBytes.calls (fun k_ => (P0_ k_ ∨ w.heap.size ≤ k_)) _ _ l0 t245 t248 true _ ?side1 A2.out).mono ?_); (case side1 => exact HO0.out); rintro e w4 ⟨v246, v249, rfl, ho0, ho1, hb⟩; refine ⟨_, rfl, ?_⟩; replace HO0 := Aside0.mk (Kd.V_below (HW.zV HO0.out) hb); have HO247 := Aside0.mk (Kd.V_lower (Kd.V_mono (ok' := fun k_ => (P0_ k_ ∨ w.heap.size ≤ k_)) ho0 (fun k_ hk_ => Or.elim hk_ (fun hs_ => hs_) (fun hn_ => (.inr (Nat.le_trans (below_size HW.zb) hn_))))) (below_size HW.zb)); have HO250 := Aside0.mk (Kd.V_lower (Kd.V_mono (ok' := fun k_ => (P0_ k_ ∨ w.heap.size ≤ k_)) ho1 (fun k_ hk_ => Or.elim hk_ (fun hs_ => hs_) (fun hn_ => (.inr (Nat.le_trans (below_size HW.zb) hn_))))) (below_size HW.zb)); replace HB := Aside0.mk (below_step HW.zb hb); (try clear hb); (try clear ho0); (try clear ho1); have hcv5 := HW.V_string (P := Tryz.prog) Tryz.underlying22 Tryz.underlying5 Tryz.underlying9 (HO247.out)))
      go_ret3
      exact ⟨_, rfl, HW.zV HO250.out, HW.zb⟩
  replace c3 := Bool.eq_false_iff.mpr c3; subst c3
  have H1 : (some ((⟨#[]⟩ : ByteArray), l0, false)) = some (r1, r2, r3) := by rw [if_neg (show ¬ (false = true) by decide)] at H; exact H
  clear H; have H := H1; clear H1
  as_aux_lemma =>
    simp only [Option.some.injEq, Prod.mk.injEq] at H
    obtain ⟨rfl, rfl, rfl⟩ := H
    go_enter Tryz.func55, Tryz.ntmps55
    go_wp2_with (first | ((with_reducible refine gate_callee (f := 102) rfl ?_); refine HW.gz (some 10) rfl rfl Tryz.func102 (by kernel_rfl) rfl #[.slice A0 l0.length c0] rfl ?_; (with_reducible refine (binaryutil_ReadCStringBytes.calls (fun k_ => (P0_ k_ ∨ w.heap.size ≤ k_)) _ _ l0 t245 t248 false _ ?side1 A2.out).mono ?_); (case side1 => exact HO0.out); rintro e w6 ⟨v246, v249, rfl, ho0, ho1, hb⟩; refine ⟨_, rfl, ?_⟩; replace HO0 := Aside0.mk (Kd.V_below (HW.zV HO0.out) hb); replace HB := Aside0.mk (below_step HW.zb hb); (try clear hb); (try clear ho0); (try clear ho1)))
    go_ret3
    exact ⟨_, rfl, HW.zV HO0.out, HW.zb⟩
def bsoncore_ReadRegex.f (l0 : List Int) : Option (ByteArray × ByteArray × List Int × Bool) := (binaryutil_ReadCString.f l0).bind fun bt252 => (if bt252.2.2 = true then ((binaryutil_ReadCString.f bt252.2.1).bind fun bt257 => (if bt257.2.2 = true then (some (bt252.1, bt257.1, bt257.2.1, true)) else (some ((⟨#[]⟩ : ByteArray), (⟨#[]⟩ : ByteArray), l0, false)))) else (some ((⟨#[]⟩ : ByteArray), (⟨#[]⟩ : ByteArray), l0, false)))
theorem bsoncore_ReadRegex.calls (P0_ : Nat → Prop) (A0 : Option Addr) (c0 : Nat) (l0 : List Int) (r1 : ByteArray) (r2 : ByteArray) (r3 : List Int) (r4 : Bool) (w : World) (hs0 : Kd.V (Kd.int .u8) 5 w w.heap.size (fun k_ => P0_ k_) (.slice A0 l0.length c0) l0) (h : bsoncore_ReadRegex.f l0 = some (r1, r2, r3, r4)) :
    Calls Tryz.prog 80 #[.slice A0 l0.length c0] w fun e w' => ∃ v2_ : Value, e = .returned (.tuple #[.string r1, .string r2, v2_, .bool r4]) ∧ Kd.V (Kd.int .u8) 5 w' w.heap.size (fun k_ => (P0_ k_ ∨ w.heap.size ≤ k_)) v2_ r3 ∧ Below w.heap.size w w' := by
  have HO0 := Aside0.mk (show Kd.V (Kd.int .u8) 5 w w.heap.size (fun k_ => (P0_ k_ ∨ w.heap.size ≤ k_)) (.slice A0 l0.length c0) l0 from Kd.V_mono hs0 (fun k_ hk => .inl hk)); have HB := Aside0.mk (Below.refl w.heap.size w); have H : ((binaryutil_ReadCString.f l0).bind fun bt252 => (if bt252.2.2 = true then ((binaryutil_ReadCString.f bt252.2.1).bind fun bt257 => (if bt257.2.2 = true then (some (bt252.1, bt257.1, bt257.2.1, true)) else (some ((⟨#[]⟩ : ByteArray), (⟨#[]⟩ : ByteArray), l0, false)))) else (some ((⟨#[]⟩ : ByteArray), (⟨#[]⟩ : ByteArray), l0, false)))) = some (r1, r2, r3, r4) := h; clear h; replace H := Option.bind_eq_some_iff.mp H; obtain ⟨⟨t252, t253, t256⟩, A20, H⟩ := H; replace H : (if t256 = true then ((binaryutil_ReadCString.f t253).bind fun bt257 => (if bt257.2.2 = true then (some (t252, bt257.1, bt257.2.1, true)) else (some ((⟨#[]⟩ : ByteArray), (⟨#[]⟩ : ByteArray), l0, false)))) else (some ((⟨#[]⟩ : ByteArray), (⟨#[]⟩ : ByteArray), l0, false))) = some (r1, r2, r3, r4) := H; have A2 := Aside0.mk A20; clear A20
  by_cases c3 : t256 = true
  rotate_left
  · replace c3 := Bool.eq_false_iff.mpr c3
    subst c3
    have H1 : (some ((⟨#[]⟩ : ByteArray), (⟨#[]⟩ : ByteArray), l0, false)) = some (r1, r2, r3, r4) := by rw [if_neg (show ¬ (false = true) by decide)] at H; exact H
    clear H; have H := H1; clear H1
    as_aux_lemma =>
      simp only [Option.some.injEq, Prod.mk.injEq] at H
      obtain ⟨rfl, rfl, rfl, rfl⟩ := H
      go_enter Tryz.func80, Tryz.ntmps80
      go_wp2_with (first | ((with_reducible refine gate_callee (f := 55) rfl ?_); refine HW.gz (some 8) rfl rfl Tryz.func55 (by kernel_rfl) rfl #[.slice A0 l0.length c0] rfl ?_; (with_reducible refine (binaryutil_ReadCString.calls (fun k_ => (P0_ k_ ∨ w.heap.size ≤ k_)) _ _ l0 t252 t253 false _ ?side1 A2.out).mono ?_); (case side1 => exact HO0.out); rintro e w12 ⟨v254, rfl, ho0, hb⟩; refine ⟨_, rfl, ?_⟩; replace HO0 := Aside0.mk (Kd.V_below (HW.zV HO0.out) hb); have HO255 := Aside0.mk (Kd.V_lower (Kd.V_mono (ok' := fun k_ => (P0_ k_ ∨ w.heap.size ≤ k_)) ho0 (fun k_ hk_ => Or.elim hk_ (fun hs_ => hs_) (fun hn_ => (.inr (Nat.le_trans (below_size HW.zb) hn_))))) (below_size HW.zb)); replace HB := Aside0.mk (below_step HW.zb hb); (try clear hb); (try clear ho0)))
      refine bodyPost_ret (results_list (rs := [.tmp 2, .tmp 3, .tmp 4, .tmp 5]) rfl (by simp) (.tmp (.tmp (.tmp (.tmp .nil))))) rfl ?_
      exact ⟨_, rfl, HW.zV HO0.out, HW.zb⟩
  subst c3
  have H1 : ((binaryutil_ReadCString.f t253).bind fun bt257 => (if bt257.2.2 = true then (some (t252, bt257.1, bt257.2.1, true)) else (some ((⟨#[]⟩ : ByteArray), (⟨#[]⟩ : ByteArray), l0, false)))) = some (r1, r2, r3, r4) := by rw [if_pos rfl] at H; exact H
  clear H; have H := H1; clear H1; replace H := Option.bind_eq_some_iff.mp H; obtain ⟨⟨t257, t258, t261⟩, A40, H⟩ := H; replace H : (if t261 = true then (some (t252, t257, t258, true)) else (some ((⟨#[]⟩ : ByteArray), (⟨#[]⟩ : ByteArray), l0, false))) = some (r1, r2, r3, r4) := H; have A4 := Aside0.mk A40; clear A40
  by_cases c5 : t261 = true
  · subst c5
    have H1 : (some (t252, t257, t258, true)) = some (r1, r2, r3, r4) := by rw [if_pos rfl] at H; exact H
    clear H; have H := H1; clear H1
    as_aux_lemma =>
      simp only [Option.some.injEq, Prod.mk.injEq] at H
      obtain ⟨rfl, rfl, rfl, rfl⟩ := H
      go_enter Tryz.func80, Tryz.ntmps80
      go_wp2_with (first | ((with_reducible refine gate_callee (f := 55) rfl ?_); refine HW.gz (some 8) rfl rfl Tryz.func55 (by kernel_rfl) rfl #[.slice A0 l0.length c0] rfl ?_; (with_reducible refine (binaryutil_ReadCString.calls (fun k_ => (P0_ k_ ∨ w.heap.size ≤ k_)) _ _ l0 t252 t253 true _ ?side1 A2.out).mono ?_); (case side1 => exact HO0.out); rintro e w6 ⟨v254, rfl, ho0, hb⟩; refine ⟨_, rfl, ?_⟩; replace HO0 := Aside0.mk (Kd.V_below (HW.zV HO0.out) hb); have HO255 := Aside0.mk (Kd.V_lower (Kd.V_mono (ok' := fun k_ => (P0_ k_ ∨ w.heap.size ≤ k_)) ho0 (fun k_ hk_ => Or.elim hk_ (fun hs_ => hs_) (fun hn_ => (.inr (Nat.le_trans (below_size HW.zb) hn_))))) (below_size HW.zb)); replace HB := Aside0.mk (below_step HW.zb hb); (try clear hb); (try clear ho0); obtain ⟨Ao7, co7, eo7⟩ := Kd.V_slice HO255.out; subst eo7) | ((with_reducible refine gate_callee (f := 55) rfl ?_); refine HW.gz (some 17) rfl rfl Tryz.func55 (by kernel_rfl) rfl #[.slice Ao7 t253.length co7] rfl ?_; (with_reducible refine (binaryutil_ReadCString.calls (fun k_ => (P0_ k_ ∨ w.heap.size ≤ k_)) _ _ t253 t257 t258 true _ ?side1 A4.out).mono ?_); (case side1 => exact HO255.out); rintro e w8 ⟨v259, rfl, ho0, hb⟩; refine ⟨_, rfl, ?_⟩; replace HO0 := Aside0.mk (Kd.V_below (HW.zV HO0.out) hb); replace HO255 := Aside0.mk (Kd.V_below (HW.zV HO255.out) hb); have HO260 := Aside0.mk (Kd.V_lower (Kd.V_mono (ok' := fun k_ => (P0_ k_ ∨ w.heap.size ≤ k_)) ho0 (fun k_ hk_ => Or.elim hk_ (fun hs_ => hs_) (fun hn_ => (.inr (Nat.le_trans (below_size HW.zb) hn_))))) (below_size HW.zb)); replace HB := Aside0.mk (below_step HW.zb hb); (try clear hb); (try clear ho0)))
      refine bodyPost_ret (results_list (rs := [.tmp 2, .tmp 3, .tmp 4, .tmp 5]) rfl (by simp) (.tmp (.tmp (.tmp (.tmp .nil))))) rfl ?_
      exact ⟨_, rfl, HW.zV HO260.out, HW.zb⟩
  replace c5 := Bool.eq_false_iff.mpr c5; subst c5
  have H1 : (some ((⟨#[]⟩ : ByteArray), (⟨#[]⟩ : ByteArray), l0, false)) = some (r1, r2, r3, r4) := by rw [if_neg (show ¬ (false = true) by decide)] at H; exact H
  clear H; have H := H1; clear H1
  as_aux_lemma =>
    simp only [Option.some.injEq, Prod.mk.injEq] at H
    obtain ⟨rfl, rfl, rfl, rfl⟩ := H
    go_enter Tryz.func80, Tryz.ntmps80
    go_wp2_with (first | ((with_reducible refine gate_callee (f := 55) rfl ?_); refine HW.gz (some 8) rfl rfl Tryz.func55 (by kernel_rfl) rfl #[.slice A0 l0.length c0] rfl ?_; (with_reducible refine (binaryutil_ReadCString.calls (fun k_ => (P0_ k_ ∨ w.heap.size ≤ k_)) _ _ l0 t252 t253 true _ ?side1 A2.out).mono ?_); (case side1 => exact HO0.out); rintro e w9 ⟨v254, rfl, ho0, hb⟩; refine ⟨_, rfl, ?_⟩; replace HO0 := Aside0.mk (Kd.V_below (HW.zV HO0.out) hb); have HO255 := Aside0.mk (Kd.V_lower (Kd.V_mono (ok' := fun k_ => (P0_ k_ ∨ w.heap.size ≤ k_)) ho0 (fun k_ hk_ => Or.elim hk_ (fun hs_ => hs_) (fun hn_ => (.inr (Nat.le_trans (below_size HW.zb) hn_))))) (below_size HW.zb)); replace HB := Aside0.mk (below_step HW.zb hb); (try clear hb); (try clear ho0); obtain ⟨Ao10, co10, eo10⟩ := Kd.V_slice HO255.out; subst eo10) | ((with_reducible refine gate_callee (f := 55) rfl ?_); refine HW.gz (some 17) rfl rfl Tryz.func55 (by kernel_rfl) rfl #[.slice Ao10 t253.length co10] rfl ?_; (with_reducible refine (binaryutil_ReadCString.calls (fun k_ => (P0_ k_ ∨ w.heap.size ≤ k_)) _ _ t253 t257 t258 false _ ?side1 A4.out).mono ?_); (case side1 => exact HO255.out); rintro e w11 ⟨v259, rfl, ho0, hb⟩; refine ⟨_, rfl, ?_⟩; replace HO0 := Aside0.mk (Kd.V_below (HW.zV HO0.out) hb); replace HB := Aside0.mk (below_step HW.zb hb); (try clear hb); (try clear ho0)))
    refine bodyPost_ret (results_list (rs := [.tmp 2, .tmp 3, .tmp 4, .tmp 5]) rfl (by simp) (.tmp (.tmp (.tmp (.tmp .nil))))) rfl ?_
    exact ⟨_, rfl, HW.zV HO0.out, HW.zb⟩
def bsoncore_ReadJavaScript.f (k : Nat) (l0 : List Int) : Option (ByteArray × List Int × Bool) := (bsoncore_readstring.f k l0).bind fun bt262 => (some (bt262.1, bt262.2.1, bt262.2.2))
theorem bsoncore_ReadJavaScript.mono : ∀ a0 k, LeO (bsoncore_ReadJavaScript.f k a0) (bsoncore_ReadJavaScript.f (k + 1) a0) := by
  intro a0 k
  unfold bsoncore_ReadJavaScript.f
  have m0_ := @bsoncore_readstring.mono; exact HW.mo
theorem bsoncore_ReadJavaScript.calls (k : Nat) (P0_ : Nat → Prop) (A0 : Option Addr) (c0 : Nat) (l0 : List Int) (r1 : ByteArray) (r2 : List Int) (r3 : Bool) (w : World) (hs0 : Kd.V (Kd.int .u8) 5 w w.heap.size (fun k_ => P0_ k_) (.slice A0 l0.length c0) l0) (h : bsoncore_ReadJavaScript.f k l0 = some (r1, r2, r3)) :
    Calls Tryz.prog 82 #[.slice A0 l0.length c0] w fun e w' => ∃ v1_ : Value, e = .returned (.tuple #[.string r1, v1_, .bool r3]) ∧ Kd.V (Kd.int .u8) 5 w' w.heap.size (fun k_ => (P0_ k_ ∨ w.heap.size ≤ k_)) v1_ r2 ∧ Below w.heap.size w w' := by
  have HO0 := Aside0.mk (show Kd.V (Kd.int .u8) 5 w w.heap.size (fun k_ => (P0_ k_ ∨ w.heap.size ≤ k_)) (.slice A0 l0.length c0) l0 from Kd.V_mono hs0 (fun k_ hk => .inl hk)); have HB := Aside0.mk (Below.refl w.heap.size w); have H : ((bsoncore_readstring.f k l0).bind fun bt262 => (some (bt262.1, bt262.2.1, bt262.2.2))) = some (r1, r2, r3) := h; clear h; replace H := Option.bind_eq_some_iff.mp H; obtain ⟨⟨t262, t263, t266⟩, A20, H⟩ := H; replace H : (some (t262, t263, t266)) = some (r1, r2, r3) := H; have A2 := Aside0.mk A20; clear A20
  as_aux_lemma =>
    simp only [Option.some.injEq, Prod.mk.injEq] at H
    obtain ⟨rfl, rfl, rfl⟩ := H
    go_enter Tryz.func82, Tryz.ntmps82
    go_wp2_with (first | ((with_reducible refine gate_callee (f := 111) rfl ?_); refine HW.gz (some 6) rfl rfl Tryz.func111 (by kernel_rfl) rfl #[.slice A0 l0.length c0] rfl ?_; (with_reducible refine (bsoncore_readstring.calls k (fun k_ => (P0_ k_ ∨ w.heap.size ≤ k_)) _ _ l0 t262 t263 t266 _ ?side1 A2.out).mono ?_); (case side1 => exact HO0.out); rintro e w3 ⟨v264, rfl, ho0, hb⟩; refine ⟨_, rfl, ?_⟩; have HO265 := Aside0.mk (Kd.V_lower (Kd.V_mono (ok' := fun k_ => (P0_ k_ ∨ w.heap.size ≤ k_)) ho0 (fun k_ hk_ => Or.elim hk_ (fun hs_ => hs_) (fun hn_ => (.inr (Nat.le_trans (below_size HW.zb) hn_))))) (below_size HW.zb)); replace HB := Aside0.mk (below_step HW.zb hb); (try clear hb); (try clear ho0)))
    go_ret3
    exact ⟨_, rfl, HW.zV HO265.out, HW.zb⟩
end Go.Proofs.YtanecebppagakaaGreatDoor.PRx
