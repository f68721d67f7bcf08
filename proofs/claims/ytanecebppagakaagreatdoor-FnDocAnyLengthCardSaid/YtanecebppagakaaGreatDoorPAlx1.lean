/- Printed by a program of this session (a turned copy of the printer of the kit): contracts of functions of the translation, each with the Lean function that it computes. Conditions: as each theorem states them. -/
import Derived.Test.YtanecebppagakaaGreatDoorPAlx0
namespace Go.Proofs.YtanecebppagakaaGreatDoor.PAl
open Go.RowKit Go.Proofs.YtanecebppagakaaGreatDoorW.PrintWords Go.Proofs.YtanecebppagakaaGreatDoorW.PrintLast Go.Proofs.YtanecebppagakaaGreatDoorW.PrintMore
attribute [local go_sem] max2_int min2_int max_two min_two max_three min_three max_four min_four   -- for this text's walks alone
set_option linter.unusedVariables false
set_option linter.unusedSimpArgs false

/-! ### laws_docCopy: function 11 -/
def laws_docCopy.f (l0 : List Int) : Option (List Int) := (some (([] : List Int) : List Int)).bind fun y101 => (if y101.length + l0.length < 140737488355328 then (some (y101 ++ l0)) else (none))
set_option maxHeartbeats 8000000 in
set_option maxRecDepth 100000 in
theorem laws_docCopy.calls (A0 : Option Addr) (c0 : Nat) (l0 : List Int) (r : List Int) (w : World) (hr0 : Kd.C (Kd.int .u8) w A0 l0.length l0) (hc0 : l0.length ≤ c0) (h : laws_docCopy.f l0 = some r) :
    Calls Tryz.prog 11 #[.slice A0 l0.length c0] w fun e w' => ∃ v0_ : Value, e = .returned (v0_) ∧ Kd.R (Kd.int .u8) 5 w' w.heap.size (fun _ => True) v0_ r ∧ Below w.heap.size w w' := by
  have HR0 := Aside0.mk hr0
  have HC0 := Aside0.mk hc0
  clear hr0 hc0
  have HB := Aside0.mk (Below.refl w.heap.size w)
  have H : ((some (([] : List Int) : List Int)).bind fun y101 => (if y101.length + l0.length < 140737488355328 then (some (y101 ++ l0)) else (none))) = some r := h
  clear h
  obtain ⟨y101, hy101⟩ : ∃ y_ : List Int, y_ = (([] : List Int)) := ⟨_, rfl⟩
  replace H : (if y101.length + l0.length < 140737488355328 then (some (y101 ++ l0)) else (none)) = some r := by first | (rw [hy101]; with_reducible exact H) | (have H2_ := (Option.bind_some _ _).symm.trans H; rw [hy101]; with_reducible exact H2_) | (have H2_ := (Option.bind_some _ _).symm.trans H; with_reducible exact H2_) | with_reducible exact H | (rw [hy101]; exact H) | exact H
  have Ny101 := Aside0.mk hy101
  clear hy101
  by_cases c2 : y101.length + l0.length < 140737488355328
  rotate_left
  · rw [if_neg c2] at H
    exact absurd H (by simp)
  rw [if_pos c2] at H
  have LMc2 := Aside0.mk c2
  clear c2
  obtain ⟨y104, hy104⟩ : ∃ y_ : List Int, y_ = (y101 ++ l0) := ⟨_, rfl⟩
  replace H : (some y104) = some r := by first | (rw [hy104]; with_reducible exact H) | (have H2_ := (Option.bind_some _ _).symm.trans H; rw [hy104]; with_reducible exact H2_) | (have H2_ := (Option.bind_some _ _).symm.trans H; with_reducible exact H2_) | with_reducible exact H | (rw [hy104]; exact H) | exact H
  have Ny104 := Aside0.mk hy104
  clear hy104
  as_aux_lemma =>
    obtain rfl := Option.some.inj H
    go_enter Tryz.func11, Tryz.ntmps11
    go_wp2_with (first | ((with_reducible refine gate_dst (N := 3) rfl ?_); refine Kd.R_lit (Kd.int .u8) _ 5 ?hg (N := 3) ?hd (xs := ([] : List Int)) (inner := []) (ok := fun _ => True) (okp := fun _ => True) ?hr ?hp (fun _ hk => hk) trivial (Below.refl _ _) (Nat.le_refl _) (by simp) ?_; (case hd => rfl); (case hg => rfl); (case hr => first | (go_simp; done) | (go_simp; rfl)); (case hp => exact (Reps.none _ _)); intro v102 w3 ho4 hb hg_ hnew_; clear hg_ hnew_; (first | rw [← Ny101.out] at ho4 | (simp only [Int.reduceToNat] at ho4; rw [← Ny101.out] at ho4)); have n0_ := Aside0.mk (Kd.R_lower ho4 (below_size HW.zb)); have n1_ := Aside0.mk (below_step HW.zb hb); clear HB; have HO103 := n0_; have HB := n1_; clear n0_ n1_; clear hb ho4) | ((with_reducible refine gate_builtin (b := .append) (xs := #[.tmp 3, .tmp 4]) rfl ?_); at_builtin; refine Kd.R_append_rows (Kd.int .u8) (w0 := w) w.heap.size rfl (.tmp 3) (.tmp 4) 22 5 (.int .u8 0) 1 rfl Tryz.underlying22 info5 rfl (by decide) (by omega) v102 y101 l0 _ _ _ (fun _ => True) (fun _ => False) rfl rfl ?aO ?aR (fun _ _ h => h) (fun _ h => h.elim) ?aF ?aB ?aS ?aL ?_; (case aR => repeat (first | exact (Kd.C_below HR0.out HB.out) | (with_reducible refine Kd.C_alloc ?_ _) | (with_reducible refine Kd.C_drewN ?_ _) | (with_reducible refine Kd.C_drew ?_))); (case aB => exact HW.zb); (case aF => exact (fun _ _ => trivial)); (case aO => exact (HW.zR HO103.out)); (case aS => exact (below_size HW.zb)); (case aL => have := LMc2.out; omega); intro v105 w5 ho hb hg hat; rw [← Ny104.out] at ho; have n0_ := Aside0.mk (hb); have n1_ := Aside0.mk (ho); clear HB; clear HO103; have HB := n0_; have HO106 := n1_; clear n0_ n1_; clear ho hb hg hat))
    go_ret
    exact ⟨_, by first | rfl | (simp [errW_none, errW_some] <;> rfl) | (simp [*, errW_none, errW_some] <;> rfl), HW.zR HO106.out, HW.zb⟩

/-! ### impl_own: function 53 -/
def impl_own.f (l0 : List Int) : Option (List Int) := if ([] : List Int).length + l0.length < 140737488355328 then (some (([] : List Int) ++ l0)) else (none)
set_option maxHeartbeats 8000000 in
set_option maxRecDepth 100000 in
theorem impl_own.calls (A0 : Option Addr) (c0 : Nat) (l0 : List Int) (r : List Int) (w : World) (hr0 : Kd.C (Kd.int .u8) w A0 l0.length l0) (hc0 : l0.length ≤ c0) (h : impl_own.f l0 = some r) :
    Calls Tryz.prog 53 #[.slice A0 l0.length c0] w fun e w' => ∃ v0_ : Value, e = .returned (v0_) ∧ Kd.R (Kd.int .u8) 5 w' w.heap.size (fun _ => True) v0_ r ∧ Below w.heap.size w w' := by
  have HR0 := Aside0.mk hr0
  have HC0 := Aside0.mk hc0
  clear hr0 hc0
  have HB := Aside0.mk (Below.refl w.heap.size w)
  have H : (if ([] : List Int).length + l0.length < 140737488355328 then (some (([] : List Int) ++ l0)) else (none)) = some r := h
  clear h
  by_cases c2 : ([] : List Int).length + l0.length < 140737488355328
  rotate_left
  · rw [if_neg c2] at H
    exact absurd H (by simp)
  rw [if_pos c2] at H
  have LMc2 := Aside0.mk c2
  clear c2
  obtain ⟨y107, hy107⟩ : ∃ y_ : List Int, y_ = (([] : List Int) ++ l0) := ⟨_, rfl⟩
  replace H : (some y107) = some r := by first | (rw [hy107]; with_reducible exact H) | (have H2_ := (Option.bind_some _ _).symm.trans H; rw [hy107]; with_reducible exact H2_) | (have H2_ := (Option.bind_some _ _).symm.trans H; with_reducible exact H2_) | with_reducible exact H | (rw [hy107]; exact H) | exact H
  have Ny107 := Aside0.mk hy107
  clear hy107
  as_aux_lemma =>
    obtain rfl := Option.some.inj H
    go_enter Tryz.func53, Tryz.ntmps53
    go_wp2_with (first | ((with_reducible refine gate_builtin (b := .append) (xs := #[.const (.slice none 0 0), .tmp 3]) rfl ?_); at_builtin; refine Kd.R_append_rows (Kd.int .u8) (w0 := w) w.heap.size rfl (.const (.slice none 0 0)) (.tmp 3) 22 5 (.int .u8 0) 1 rfl Tryz.underlying22 info5 rfl (by decide) (by omega) (.slice none 0 0) ([] : List Int) l0 _ _ _ (fun _ => True) (fun _ => False) rfl rfl ?aO ?aR (fun _ _ h => h) (fun _ h => h.elim) ?aF ?aB ?aS ?aL ?_; (case aR => repeat (first | exact HR0.out | (with_reducible refine Kd.C_alloc ?_ _) | (with_reducible refine Kd.C_drewN ?_ _) | (with_reducible refine Kd.C_drew ?_))); (case aB => exact HW.zb); (case aF => exact (fun _ _ => trivial)); (case aO => exact ((Kd.R_nil _ _ _ _ (fun _ => True)))); (case aS => exact (below_size HW.zb)); (case aL => have := LMc2.out; omega); intro v108 w3 ho hb hg hat; rw [← Ny107.out] at ho; have n0_ := Aside0.mk (hb); have n1_ := Aside0.mk (ho); clear HB; have HB := n0_; have HO109 := n1_; clear n0_ n1_; clear ho hb hg hat))
    go_ret
    exact ⟨_, by first | rfl | (simp [errW_none, errW_some] <;> rfl) | (simp [*, errW_none, errW_some] <;> rfl), HW.zR HO109.out, HW.zb⟩

/-! ### binaryutil_ReadI32: function 115 -/
def binaryutil_ReadI32.f (l0 : List Int) : Option (Int × List Int × Bool) := if (l0.length : Int) < 4 then (some (0, l0, false)) else (if 3 < (l0.length : Int) then (if 0 < (l0.length : Int) then (if 1 < (l0.length : Int) then (if 2 < (l0.length : Int) then (if 4 ≤ (l0.length : Int) then (some (Go.bits .or .i32 (Go.bits .or .i32 (Go.bits .or .i32 (wrap32 (rd l0 0)) (wrap32 ((wrap32 (rd l0 1)) * 256))) (wrap32 ((wrap32 (rd l0 2)) * 65536))) (wrap32 ((wrap32 (rd l0 3)) * 16777216)), (l0.drop 4), true)) else (none)) else (none)) else (none)) else (none)) else (none))
set_option maxHeartbeats 8000000 in
set_option maxRecDepth 100000 in
theorem binaryutil_ReadI32.calls (P0_ : Nat → Prop) (A0 : Option Addr) (c0 : Nat) (l0 : List Int) (r1 : Int) (r2 : List Int) (r3 : Bool) (w : World) (hs0 : Kd.V (Kd.int .u8) 5 w w.heap.size (fun k_ => P0_ k_) (.slice A0 l0.length c0) l0) (h : binaryutil_ReadI32.f l0 = some (r1, r2, r3)) :
    Calls Tryz.prog 115 #[.slice A0 l0.length c0] w fun e w' => ∃ v1_ : Value, e = .returned (.tuple #[.int .i32 r1, v1_, .bool r3]) ∧ Kd.V (Kd.int .u8) 5 w' w.heap.size (fun k_ => (P0_ k_ ∨ w.heap.size ≤ k_)) v1_ r2 ∧ Below w.heap.size w w' := by
  have HO0 := Aside0.mk (show Kd.V (Kd.int .u8) 5 w w.heap.size (fun k_ => (P0_ k_ ∨ w.heap.size ≤ k_)) (.slice A0 l0.length c0) l0 from Kd.V_mono hs0 (fun k_ hk => .inl hk))
  have HB := Aside0.mk (Below.refl w.heap.size w)
  have H : (if (l0.length : Int) < 4 then (some (0, l0, false)) else (if 3 < (l0.length : Int) then (if 0 < (l0.length : Int) then (if 1 < (l0.length : Int) then (if 2 < (l0.length : Int) then (if 4 ≤ (l0.length : Int) then (some (Go.bits .or .i32 (Go.bits .or .i32 (Go.bits .or .i32 (wrap32 (rd l0 0)) (wrap32 ((wrap32 (rd l0 1)) * 256))) (wrap32 ((wrap32 (rd l0 2)) * 65536))) (wrap32 ((wrap32 (rd l0 3)) * 16777216)), (l0.drop 4), true)) else (none)) else (none)) else (none)) else (none)) else (none))) = some (r1, r2, r3) := h
  clear h
  by_cases c2 : (l0.length : Int) < 4
  · rw [if_pos c2] at H
    have c2b0 : decide ((l0.length : Int) < 4) = true := decide_eq_true c2
    have c2b1 : decide (l0.length < 4) = true := decide_eq_true (by omega)
    clear c2
    as_aux_lemma =>
      simp only [Option.some.injEq, Prod.mk.injEq] at H
      obtain ⟨rfl, rfl, rfl⟩ := H
      go_enter Tryz.func115, Tryz.ntmps115
      go_wp2
      repeat (go_quiet (fail); try go_wp2)
      go_ret3
      exact ⟨_, by first | rfl | (simp [errW_none, errW_some] <;> rfl) | (simp [*, errW_none, errW_some] <;> rfl), HW.zV HO0.out, HW.zb⟩
  rw [if_neg c2] at H
  have c2b0 : decide ((l0.length : Int) < 4) = false := decide_eq_false c2
  have c2b1 : decide (l0.length < 4) = false := decide_eq_false (by omega)
  clear c2
  by_cases c3 : 3 < (l0.length : Int)
  rotate_left
  · rw [if_neg c3] at H
    exact absurd H (by simp)
  rw [if_pos c3] at H
  have c3b0 : decide (3 < (l0.length : Int)) = true := decide_eq_true c3
  have c3b1 : decide (3 < l0.length) = true := decide_eq_true (by omega)
  clear c3
  by_cases c4 : 0 < (l0.length : Int)
  rotate_left
  · rw [if_neg c4] at H
    exact absurd H (by simp)
  rw [if_pos c4] at H
  have c4b0 : decide (0 < (l0.length : Int)) = true := decide_eq_true c4
  have c4b1 : decide (0 < l0.length) = true := decide_eq_true (by omega)
  clear c4
  by_cases c5 : 1 < (l0.length : Int)
  rotate_left
  · rw [if_neg c5] at H
    exact absurd H (by simp)
  rw [if_pos c5] at H
  have c5b0 : decide (1 < (l0.length : Int)) = true := decide_eq_true c5
  have c5b1 : decide (1 < l0.length) = true := decide_eq_true (by omega)
  clear c5
  by_cases c6 : 2 < (l0.length : Int)
  rotate_left
  · rw [if_neg c6] at H
    exact absurd H (by simp)
  rw [if_pos c6] at H
  have c6b0 : decide (2 < (l0.length : Int)) = true := decide_eq_true c6
  have c6b1 : decide (2 < l0.length) = true := decide_eq_true (by omega)
  clear c6
  by_cases c7 : 4 ≤ (l0.length : Int)
  rotate_left
  · rw [if_neg c7] at H
    exact absurd H (by simp)
  rw [if_pos c7] at H
  have c7b0 := eq_true c7
  have c7b1 : decide (4 ≤ (l0.length : Int)) = true := decide_eq_true c7
  clear c7
  obtain ⟨y115, hy115⟩ : ∃ y_ : List Int, y_ = (l0.drop 4) := ⟨_, rfl⟩
  replace H : (some (Go.bits .or .i32 (Go.bits .or .i32 (Go.bits .or .i32 (wrap32 (rd l0 0)) (wrap32 ((wrap32 (rd l0 1)) * 256))) (wrap32 ((wrap32 (rd l0 2)) * 65536))) (wrap32 ((wrap32 (rd l0 3)) * 16777216)), y115, true)) = some (r1, r2, r3) := by first | (rw [hy115]; with_reducible exact H) | (have H2_ := (Option.bind_some _ _).symm.trans H; rw [hy115]; with_reducible exact H2_) | (have H2_ := (Option.bind_some _ _).symm.trans H; with_reducible exact H2_) | with_reducible exact H | (rw [hy115]; exact H) | exact H
  have Ny115 := Aside0.mk hy115
  clear hy115
  as_aux_lemma =>
    simp only [Option.some.injEq, Prod.mk.injEq] at H
    obtain ⟨rfl, rfl, rfl⟩ := H
    have p110 : 0 ≤ (3 : Int) := (by omega)
    have q110 : 3 < (l0.length : Int) := of_decide_eq_true (by first | (with_reducible assumption) | assumption)
    obtain ⟨ad110, e110, hx110_0⟩ := Kd.at_int (Kd.V_reads' HO0.out).2.2 3 p110 q110
    cases e110
    (try simp only [show (3 : Int).toNat = 3 from rfl, Nat.reduceMul, Nat.reduceEqDiff, Go.Addr.add, ↓reduceIte] at hx110_0)
    have qi110 : (3 < l0.length) = True := eq_true (by omega)
    (try rw [show ((3 : Int)).toNat = 3 from rfl] at hx110_0)
    replace p110 := eq_true p110
    replace q110 := eq_true q110
    have p111 : 0 ≤ (0 : Int) := (by omega)
    have q111 : 0 < (l0.length : Int) := of_decide_eq_true (by first | (with_reducible assumption) | assumption)
    obtain ⟨ad111, e111, hx111_0⟩ := Kd.at_int (Kd.V_reads' HO0.out).2.2 0 p111 q111
    obtain rfl : ad110 = ad111 := (by injection e111)
    have qi111 : (0 < l0.length) = True := eq_true (by omega)
    (try rw [show ((0 : Int)).toNat = 0 from rfl] at hx111_0)
    (try rw [Addr.add_zero'] at hx111_0)
    replace p111 := eq_true p111
    replace q111 := eq_true q111
    have p112 : 0 ≤ (1 : Int) := (by omega)
    have q112 : 1 < (l0.length : Int) := of_decide_eq_true (by first | (with_reducible assumption) | assumption)
    obtain ⟨ad112, e112, hx112_0⟩ := Kd.at_int (Kd.V_reads' HO0.out).2.2 1 p112 q112
    obtain rfl : ad110 = ad112 := (by injection e112)
    (try simp only [show (1 : Int).toNat = 1 from rfl, Nat.reduceMul, Nat.reduceEqDiff, Go.Addr.add, ↓reduceIte] at hx112_0)
    have qi112 : (1 < l0.length) = True := eq_true (by omega)
    (try rw [show ((1 : Int)).toNat = 1 from rfl] at hx112_0)
    replace p112 := eq_true p112
    replace q112 := eq_true q112
    have p113 : 0 ≤ (2 : Int) := (by omega)
    have q113 : 2 < (l0.length : Int) := of_decide_eq_true (by first | (with_reducible assumption) | assumption)
    obtain ⟨ad113, e113, hx113_0⟩ := Kd.at_int (Kd.V_reads' HO0.out).2.2 2 p113 q113
    obtain rfl : ad110 = ad113 := (by injection e113)
    (try simp only [show (2 : Int).toNat = 2 from rfl, Nat.reduceMul, Nat.reduceEqDiff, Go.Addr.add, ↓reduceIte] at hx113_0)
    have qi113 : (2 < l0.length) = True := eq_true (by omega)
    (try rw [show ((2 : Int)).toNat = 2 from rfl] at hx113_0)
    replace p113 := eq_true p113
    replace q113 := eq_true q113
    have p114 : 0 ≤ (3 : Int) := (by omega)
    have q114 : 3 < (l0.length : Int) := of_decide_eq_true (by first | (with_reducible assumption) | assumption)
    obtain ⟨ad114, e114, hx114_0⟩ := Kd.at_int (Kd.V_reads' HO0.out).2.2 3 p114 q114
    obtain rfl : ad110 = ad114 := (by injection e114)
    (try simp only [show (3 : Int).toNat = 3 from rfl, Nat.reduceMul, Nat.reduceEqDiff, Go.Addr.add, ↓reduceIte] at hx114_0)
    have qi114 : (3 < l0.length) = True := eq_true (by omega)
    (try rw [show ((3 : Int)).toNat = 3 from rfl] at hx114_0)
    replace p114 := eq_true p114
    replace q114 := eq_true q114
    have q8 : (4 : Int) ≤ ((l0.length : Int) : Int) := of_decide_eq_true (by first | (with_reducible assumption) | assumption)
    obtain ⟨i08, hi08, _, hsz8, _⟩ := info_parts info5
    have hroom8 : l0.length ≤ c0 := (Kd.V_reads' HO0.out).2.1
    have hC8 : Kd.F (Kd.int .u8) _ _ (some ad110) l0.length l0 := (Kd.V_at (base := w.heap.size) HO0.out).2.2
    have hcut8 := cut_from (P := Tryz.prog) 22 5 .i64 Tryz.underlying22 hi08 1 hsz8 (some ad110) l0.length c0 4 (by omega) q8
    have hr8 := Kd.F_cut (m := (4 : Int).toNat) (c := c0) hC8 (by omega) hroom8
    obtain ⟨A8, hA8⟩ : ∃ A1, A1 = (if c0 = (4 : Int).toNat then (some ad110) else ((some ad110) : Option Addr).map (·.add ((4 : Int).toNat * 1))) := ⟨_, rfl⟩
    obtain ⟨c8, hc8⟩ : ∃ c1, c1 = c0 - (4 : Int).toNat := ⟨_, rfl⟩
    have hy8 : y115.length = l0.length - (4 : Int).toNat := (by rw [Ny115.out, List.length_drop] <;> omega)
    rw [show (l0).drop (4 : Int).toNat = y115 from Ny115.out.symm] at hr8
    replace hr8 : Kd.F (Kd.int .u8) _ _ A8 y115.length y115 := (by rw [hA8]; exact hr8)
    rw [← hy8, ← hA8, ← hc8] at hcut8
    have HO119 := Aside0.mk (show Kd.V (Kd.int .u8) 5 _ w.heap.size _ (.slice A8 y115.length c8) y115 from Kd.V_mk (by rw [hy8, hc8]; exact Nat.sub_le_sub_right hroom8 _) hr8)
    have HC119 := Aside0.mk (show y115.length ≤ c8 from by rw [hy8, hc8]; exact Nat.sub_le_sub_right hroom8 _)
    clear hr8 hC8 hroom8 hi08 hsz8 hc8
    have KY8 := Aside0.mk hy8
    have KA8 := Aside0.mk hA8
    clear hy8 hA8
    replace q8 := eq_true q8
    go_enter Tryz.func115, Tryz.ntmps115
    go_wp2
    repeat (go_quiet (fail); try go_wp2)
    go_ret3
    exact ⟨_, by first | rfl | (simp [errW_none, errW_some] <;> rfl) | (simp [*, errW_none, errW_some] <;> rfl), HW.zV HO119.out, HW.zb⟩

/-! ### bsoncore_ReadInt32: function 85 -/
def bsoncore_ReadInt32.f (l0 : List Int) : Option (Int × List Int × Bool) := (binaryutil_ReadI32.f l0).bind fun bt120 => (some (bt120.1, bt120.2.1, bt120.2.2))
set_option maxHeartbeats 8000000 in
set_option maxRecDepth 100000 in
theorem bsoncore_ReadInt32.calls (P0_ : Nat → Prop) (A0 : Option Addr) (c0 : Nat) (l0 : List Int) (r1 : Int) (r2 : List Int) (r3 : Bool) (w : World) (hs0 : Kd.V (Kd.int .u8) 5 w w.heap.size (fun k_ => P0_ k_) (.slice A0 l0.length c0) l0) (h : bsoncore_ReadInt32.f l0 = some (r1, r2, r3)) :
    Calls Tryz.prog 85 #[.slice A0 l0.length c0] w fun e w' => ∃ v1_ : Value, e = .returned (.tuple #[.int .i32 r1, v1_, .bool r3]) ∧ Kd.V (Kd.int .u8) 5 w' w.heap.size (fun k_ => (P0_ k_ ∨ w.heap.size ≤ k_)) v1_ r2 ∧ Below w.heap.size w w' := by
  have HO0 := Aside0.mk (show Kd.V (Kd.int .u8) 5 w w.heap.size (fun k_ => (P0_ k_ ∨ w.heap.size ≤ k_)) (.slice A0 l0.length c0) l0 from Kd.V_mono hs0 (fun k_ hk => .inl hk))
  have HB := Aside0.mk (Below.refl w.heap.size w)
  have H : ((binaryutil_ReadI32.f l0).bind fun bt120 => (some (bt120.1, bt120.2.1, bt120.2.2))) = some (r1, r2, r3) := h
  clear h
  replace H := Option.bind_eq_some_iff.mp H
  obtain ⟨⟨t120, t121, t124⟩, A20, H⟩ := H
  replace H : (some (t120, t121, t124)) = some (r1, r2, r3) := H
  have A2 := Aside0.mk A20
  clear A20
  as_aux_lemma =>
    simp only [Option.some.injEq, Prod.mk.injEq] at H
    obtain ⟨rfl, rfl, rfl⟩ := H
    go_enter Tryz.func85, Tryz.ntmps85
    go_wp2_with (first | ((with_reducible refine gate_callee (f := 115) rfl ?_); refine HW.gz (some 6) rfl rfl Tryz.func115 (by kernel_rfl) rfl #[.slice A0 l0.length c0] rfl ?_; (with_reducible refine (binaryutil_ReadI32.calls (fun k_ => (P0_ k_ ∨ w.heap.size ≤ k_)) _ _ l0 t120 t121 t124 _ ?side1 A2.out).mono ?_); (case side1 => exact HO0.out); rintro e w3 ⟨v122, rfl, ho0, hb⟩; refine ⟨_, rfl, ?_⟩; have n1_ := Aside0.mk (Kd.V_lower (Kd.V_mono (ok' := fun k_ => (P0_ k_ ∨ w.heap.size ≤ k_)) ho0 (fun k_ hk_ => Or.elim hk_ (fun hs_ => hs_) (fun hn_ => (.inr (Nat.le_trans (below_size HW.zb) hn_))))) (below_size HW.zb)); have n2_ := Aside0.mk (below_step HW.zb hb); clear HB; have HO123 := n1_; have HB := n2_; clear n1_ n2_; (try clear hb); (try clear hb2); (try clear hk); (try clear hi); (try clear ho0)))
    go_ret3
    exact ⟨_, by first | rfl | (simp [errW_none, errW_some] <;> rfl) | (simp [*, errW_none, errW_some] <;> rfl), HW.zV HO123.out, HW.zb⟩

/-! ### impl_Read: function 34 -/
theorem set8 {w : World} {g t : Nat} {a b c d e f x y a' b' c' d' e' f' x' y' : Value} (hz : w.heap[g]? = some (.cells #[a, b, c, d, e, f, x, y] t (0, 0))) :
    ((((((((w.setCell ⟨g, 0, none⟩ a').setCell ⟨g, 1, none⟩ b').setCell ⟨g, 2, none⟩ c').setCell ⟨g, 3, none⟩ d').setCell ⟨g, 4, none⟩ e').setCell ⟨g, 5, none⟩ f').setCell ⟨g, 6, none⟩ x').setCell ⟨g, 7, none⟩ y').heap[g]? = some (.cells #[a', b', c', d', e', f', x', y'] t (0, 0)) := by
  have h0 : (w.setCell ⟨g, 0, none⟩ a').heap[g]? = some (.cells #[a', b, c, d, e, f, x, y] t (0, 0)) := blk_put hz 0 _ rfl
  have h1 : ((w.setCell ⟨g, 0, none⟩ a').setCell ⟨g, 1, none⟩ b').heap[g]? = some (.cells #[a', b', c, d, e, f, x, y] t (0, 0)) := blk_put h0 1 _ rfl
  have h2 : (((w.setCell ⟨g, 0, none⟩ a').setCell ⟨g, 1, none⟩ b').setCell ⟨g, 2, none⟩ c').heap[g]? = some (.cells #[a', b', c', d, e, f, x, y] t (0, 0)) := blk_put h1 2 _ rfl
  have h3 : ((((w.setCell ⟨g, 0, none⟩ a').setCell ⟨g, 1, none⟩ b').setCell ⟨g, 2, none⟩ c').setCell ⟨g, 3, none⟩ d').heap[g]? = some (.cells #[a', b', c', d', e, f, x, y] t (0, 0)) := blk_put h2 3 _ rfl
  have h4 : (((((w.setCell ⟨g, 0, none⟩ a').setCell ⟨g, 1, none⟩ b').setCell ⟨g, 2, none⟩ c').setCell ⟨g, 3, none⟩ d').setCell ⟨g, 4, none⟩ e').heap[g]? = some (.cells #[a', b', c', d', e', f, x, y] t (0, 0)) := blk_put h3 4 _ rfl
  have h5 : ((((((w.setCell ⟨g, 0, none⟩ a').setCell ⟨g, 1, none⟩ b').setCell ⟨g, 2, none⟩ c').setCell ⟨g, 3, none⟩ d').setCell ⟨g, 4, none⟩ e').setCell ⟨g, 5, none⟩ f').heap[g]? = some (.cells #[a', b', c', d', e', f', x, y] t (0, 0)) := blk_put h4 5 _ rfl
  have h6 : (((((((w.setCell ⟨g, 0, none⟩ a').setCell ⟨g, 1, none⟩ b').setCell ⟨g, 2, none⟩ c').setCell ⟨g, 3, none⟩ d').setCell ⟨g, 4, none⟩ e').setCell ⟨g, 5, none⟩ f').setCell ⟨g, 6, none⟩ x').heap[g]? = some (.cells #[a', b', c', d', e', f', x', y] t (0, 0)) := blk_put h5 6 _ rfl
  have h7 : ((((((((w.setCell ⟨g, 0, none⟩ a').setCell ⟨g, 1, none⟩ b').setCell ⟨g, 2, none⟩ c').setCell ⟨g, 3, none⟩ d').setCell ⟨g, 4, none⟩ e').setCell ⟨g, 5, none⟩ f').setCell ⟨g, 6, none⟩ x').setCell ⟨g, 7, none⟩ y').heap[g]? = some (.cells #[a', b', c', d', e', f', x', y'] t (0, 0)) := blk_put h6 7 _ rfl
  exact h7
theorem set8_R {α : Type} {dk : Kd α} {ty base : Nat} {ok : Nat → Prop} {v : Value} {xs : List α} {w : World} {g : Nat} {a' b' c' d' e' f' x' y' : Value} (h : dk.R ty w base ok v xs) (hok : ∀ k, ok k → k ≠ g) :
    dk.R ty ((((((((w.setCell ⟨g, 0, none⟩ a').setCell ⟨g, 1, none⟩ b').setCell ⟨g, 2, none⟩ c').setCell ⟨g, 3, none⟩ d').setCell ⟨g, 4, none⟩ e').setCell ⟨g, 5, none⟩ f').setCell ⟨g, 6, none⟩ x').setCell ⟨g, 7, none⟩ y') base ok v xs := by
  have h0 := Kd.R_far (p := ⟨g, 0, none⟩) h hok a'
  have h1 := Kd.R_far (p := ⟨g, 1, none⟩) h0 hok b'
  have h2 := Kd.R_far (p := ⟨g, 2, none⟩) h1 hok c'
  have h3 := Kd.R_far (p := ⟨g, 3, none⟩) h2 hok d'
  have h4 := Kd.R_far (p := ⟨g, 4, none⟩) h3 hok e'
  have h5 := Kd.R_far (p := ⟨g, 5, none⟩) h4 hok f'
  have h6 := Kd.R_far (p := ⟨g, 6, none⟩) h5 hok x'
  have h7 := Kd.R_far (p := ⟨g, 7, none⟩) h6 hok y'
  exact h7
theorem set8_B {w0 w : World} {g : Nat} {a' b' c' d' e' f' x' y' : Value} (h : Below w0.heap.size w0 w) (hg : w0.heap.size ≤ g) :
    Below w0.heap.size w0 ((((((((w.setCell ⟨g, 0, none⟩ a').setCell ⟨g, 1, none⟩ b').setCell ⟨g, 2, none⟩ c').setCell ⟨g, 3, none⟩ d').setCell ⟨g, 4, none⟩ e').setCell ⟨g, 5, none⟩ f').setCell ⟨g, 6, none⟩ x').setCell ⟨g, 7, none⟩ y') := by
  have h0 := below_set (g := g) (j := 0) (v := a') h hg
  have h1 := below_set (g := g) (j := 1) (v := b') h0 hg
  have h2 := below_set (g := g) (j := 2) (v := c') h1 hg
  have h3 := below_set (g := g) (j := 3) (v := d') h2 hg
  have h4 := below_set (g := g) (j := 4) (v := e') h3 hg
  have h5 := below_set (g := g) (j := 5) (v := f') h4 hg
  have h6 := below_set (g := g) (j := 6) (v := x') h5 hg
  have h7 := below_set (g := g) (j := 7) (v := y') h6 hg
  exact h7
set_option maxHeartbeats 4000000 in
set_option maxRecDepth 100000 in
theorem rd_int32 (A : Option Addr) (c : Nat) (l r o : List Int) (n : Int) (w : World) (hC : Kd.C (Kd.int .u8) w A l.length l) (hc : l.length ≤ c) (hf : bsoncore_ReadInt32.f l = some (n, r, true)) (ho : impl_own.f r = some o) :
    Calls Tryz.prog 34 #[.int .i64 16, .slice A l.length c] w fun e w' => ∃ v, e = .returned (.tuple #[.agg #[.int .i64 16, .string ⟨#[]⟩, .string ⟨#[]⟩, .int .i64 (wrap64 n), .int .u64 0, .int .u64 0, .slice none 0 0, .slice none 0 0], v, .bool true]) ∧ Kd.R (Kd.int .u8) 5 w' w.heap.size (fun _ => True) v o ∧ Below w.heap.size w w' := by
  have hV : ∀ o : Obj, Kd.V (Kd.int .u8) 5 (w.alloc o) (w.alloc o).heap.size (fun k => k < w.heap.size) (.slice A l.length c) l := fun o => Kd.V_mk hc (Kd.F_mono (Kd.F_below (Kd.F_bound (Kd.C_F (Kd.heap_int _) hC)) (below_alloc (Below.refl _ _) o)) (fun k hk => hk.2))
  have hB0 : ∀ o : Obj, Below w.heap.size w (w.alloc o) := fun o => below_alloc (Below.refl _ _) o
  go_enter Tryz.func34, Tryz.ntmps34
  go_wp2_with (go_at_call 85; (refine (bsoncore_ReadInt32.calls (fun k => k < w.heap.size) A c l n r true _ (hV _) hf).mono ?_; rintro e w1 ⟨v1, rfl, hv1, hb1⟩; obtain ⟨A1, c1, hv⟩ := Kd.V_slice hv1; subst hv; have hz := blk_below (blk_new w _) hb1; have hB1 := below_step (hB0 _) hb1; have d3 := (blk_cell hz 3).trans rfl; have f3 := blk_frozen hz 3))
  have hz3 := blk_put hz 3 (.int .i64 (wrap64 n)) rfl
  have hB3 := below_set (j := 3) (v := .int .i64 (wrap64 n)) hB1 (Nat.le_refl w.heap.size)
  have hv3 := Kd.V_far (p := ⟨w.heap.size, 3, none⟩) hv1 (fun k hk => by simp at hk ⊢; omega) (.int .i64 (wrap64 n))
  obtain ⟨_, hc3, hC3⟩ := Kd.V_reads' hv3
  generalize w1.setCell ⟨w.heap.size, 3, none⟩ (.int .i64 (wrap64 n)) = w3 at hz3 hB3 hv3 hC3 ⊢
  have y0 := (blk_cell hz3 0).trans rfl; have y1 := (blk_cell hz3 1).trans rfl; have y2 := (blk_cell hz3 2).trans rfl; have y3 := (blk_cell hz3 3).trans rfl; have y4 := (blk_cell hz3 4).trans rfl; have y5 := (blk_cell hz3 5).trans rfl; have y6 := (blk_cell hz3 6).trans rfl; have y7 := (blk_cell hz3 7).trans rfl
  clear hz d3 f3 hv1 hb1 hB1
  go_region_with (go_at_call 53; refine (impl_own.calls A1 c1 r o _ (Kd.C_below hC3 (below_drew (Below.refl _ _))) hc3 ho).mono ?_; rintro e w4 ⟨v4, rfl, hR, hb4⟩; have hz4 := blk_below (w := w3.drew) hz3 hb4; have hB4 := below_step (below_drew hB3) hb4; obtain ⟨A4, c4, hv⟩ := Kd.R_slice hR; subst hv; clear y0 y1 y2 y3 y4 y5 y6 y7; have y0 := (blk_cell hz4 0).trans rfl; have y1 := (blk_cell hz4 1).trans rfl; have y2 := (blk_cell hz4 2).trans rfl; have y3 := (blk_cell hz4 3).trans rfl; have y4 := (blk_cell hz4 4).trans rfl; have y5 := (blk_cell hz4 5).trans rfl; have y6 := (blk_cell hz4 6).trans rfl; have y7 := (blk_cell hz4 7).trans rfl; have f0 := blk_frozen hz4 0; have f1 := blk_frozen hz4 1; have f2 := blk_frozen hz4 2; have f3 := blk_frozen hz4 3; have f4 := blk_frozen hz4 4; have f5 := blk_frozen hz4 5; have f6 := blk_frozen hz4 6; have f7 := blk_frozen hz4 7)
  all_goals
    go_wp2
    refine bodyPost_ret (results_ctt rfl _ _ w.heap.size 44 _ (0, 0) _ rfl (set8 hz4) Tryz.underlying44 rfl (by kernel_rfl)) rfl ?_
    have hlt : w.heap.size < w3.heap.size := (Array.getElem?_eq_some_iff.1 hz3).1
    exact ⟨_, rfl, Kd.R_mono (Kd.R_lower (set8_R (Kd.R_bound hR) (fun k hk => by have h5 := hk.2.1; have h6 : w3.heap.size ≤ k := h5; omega)) (Nat.le_of_lt hlt)) (fun _ _ => trivial), set8_B hB4 (Nat.le_refl _)⟩
def impl_Read.f (a0 : Int) (l1 : List Int) : Option (Int × ByteArray × ByteArray × Int × Int × Int × List Int × List S95 × List Int × Bool) := if a0 = 16 then (bsoncore_ReadInt32.f l1).bind fun x => (impl_own.f x.2.1).bind fun o => (if x.2.2 = true then some (16, ⟨#[]⟩, ⟨#[]⟩, wrap64 x.1, 0, 0, [], [], o, true) else none) else none
theorem impl_Read.calls (a0 : Int) (A1 : Option Addr) (c1 : Nat) (l1 : List Int) (r1 : Int) (r2 r3 : ByteArray) (r4 r5 r6 : Int) (r7 : List Int) (r8 : List S95) (r9 : List Int) (r10 : Bool) (w : World) (hr1 : Kd.C (Kd.int .u8) w A1 l1.length l1) (hc1 : l1.length ≤ c1) (h : impl_Read.f a0 l1 = some (r1, r2, r3, r4, r5, r6, r7, r8, r9, r10)) :
    Calls Tryz.prog 34 #[.int .i64 a0, .slice A1 l1.length c1] w fun e w' => ∃ v1_ v2_ v3_ : Value, e = .returned (.tuple #[.agg #[.int .i64 r1, .string r2, .string r3, .int .i64 r4, .int .u64 r5, .int .u64 r6, v1_, v2_], v3_, .bool r10]) ∧ Kd.R (Kd.int .u8) 5 w' w.heap.size (fun k_ => some k_ ≠ (v3_ : Value).ownBlock) v1_ r7 ∧ Kd.R k95 95 w' w.heap.size (fun k_ => some k_ ≠ (v1_ : Value).ownBlock ∧ some k_ ≠ (v3_ : Value).ownBlock) v2_ r8 ∧ Kd.R (Kd.int .u8) 5 w' w.heap.size (fun k_ => some k_ ≠ (v1_ : Value).ownBlock) v3_ r9 ∧ Below w.heap.size w w' := by
  unfold impl_Read.f at h
  split at h
  next ha =>
    subst ha
    obtain ⟨⟨n, r, ok⟩, hf, h⟩ := Option.bind_eq_some_iff.1 h
    obtain ⟨o, ho, h⟩ := Option.bind_eq_some_iff.1 h
    cases ok with
    | false => cases h
    | true =>
      simp only [if_true, Option.some.injEq, Prod.mk.injEq] at h
      obtain ⟨rfl, rfl, rfl, rfl, rfl, rfl, rfl, rfl, rfl, rfl⟩ := h
      refine (rd_int32 A1 c1 l1 r o n w hr1 hc1 hf ho).mono ?_
      rintro e w' ⟨v, rfl, hR, hB⟩
      exact ⟨_, _, v, rfl, Kd.R_nil _ _ _ _ _, Kd.R_nil _ _ _ _ _, Kd.R_mono hR (fun _ _ => by simp [Value.ownBlock]), hB⟩
  next => cases h

/-! ### impl_raw: function 90 -/
def impl_raw.f (a0_0 : Int) (l0_1 : List Int) : Option (Int × List Int) := (impl_own.f l0_1).bind fun t127 => (some (wrap64 (a0_0), t127))
def impl_raw.T1 : Bool × List (List Nat × List Nat) := (true, [([], []), ([0], [0]), ([1], [1]), ([], []), ([3], [3]), ([4], [4]), ([2, 5], [2, 5]), ([6, 5, 0, 1, 2, 3, 4, 5, 6], [6])])
def impl_raw.B1 : List Nat := [0, 1, 3, 0, 8, 24, 63, 127]
theorem impl_raw.tab1 : rtab .any (opsOf Tryz.f90 1) = impl_raw.T1 := by kernel_rfl
theorem impl_raw.bits1 : waitsOk impl_raw.T1.2 impl_raw.B1 = true := by kernel_rfl
set_option maxHeartbeats 8000000 in
set_option maxRecDepth 100000 in
theorem impl_raw.calls (a0_0 : Int) (A0_1 : Option Addr) (c0_1 : Nat) (l0_1 : List Int) (r1 : Int) (r2 : List Int) (w : World) (hr0_1 : Kd.C (Kd.int .u8) w A0_1 l0_1.length l0_1) (hc0_1 : l0_1.length ≤ c0_1) (h : impl_raw.f a0_0 l0_1 = some (r1, r2)) :
    Calls Tryz.prog 90 #[.agg #[.int .u8 a0_0, .slice A0_1 l0_1.length c0_1]] w fun e w' => ∃ v1_ : Value, e = .returned (.agg #[.int .i64 r1, v1_]) ∧ Kd.R (Kd.int .u8) 5 w' w.heap.size (fun _ => True) v1_ r2 ∧ Below w.heap.size w w' := by
  have hu101 := Tryz.underlying101
  have hu38 := Tryz.underlying38
  have HR0_1 := Aside0.mk hr0_1
  have HC0_1 := Aside0.mk hc0_1
  clear hr0_1 hc0_1
  have HB := Aside0.mk (Below.refl w.heap.size w)
  have H : ((impl_own.f l0_1).bind fun t127 => (some (wrap64 (a0_0), t127))) = some (r1, r2) := h
  clear h
  replace H := Option.bind_eq_some_iff.mp H
  obtain ⟨t127, A20, H⟩ := H
  replace H : (some (wrap64 (a0_0), t127)) = some (r1, r2) := H
  have A2 := Aside0.mk A20
  clear A20
  as_aux_lemma =>
    simp only [Option.some.injEq, Prod.mk.injEq] at H
    obtain ⟨rfl, rfl⟩ := H
    go_enter Tryz.func90, Tryz.ntmps90
    try go_wp2_with (first | ((with_reducible refine gate_dst (N := 1) rfl ?_); refine box_event ?hg (N := 1) ?hd (cs := #[.int .u8 a0_0, .slice A0_1 l0_1.length c0_1]) (t := 101) ?hr ?_; (case hd => rfl); (case hg => rfl); (case hr => first | (go_simp; done) | (go_simp; rfl)); intro gb125 hg w3 hbox hb; have n0_ := Aside0.mk (below_step HW.zb hb); have n1_ := Aside0.mk (hbox); have n3_ := Aside0.mk ((by rw [hg]; exact (below_size HW.zb) : w.heap.size ≤ gb125)); clear HB; have HB := n0_; have BK125 := n1_; have GE125 := n3_; clear n0_ n1_ n3_; clear hb hbox hg) | ((with_reducible refine gate_dst (N := 2) rfl ?_); refine box_event ?hg (N := 2) ?hd (cs := #[.int .i64 0, .slice none 0 0]) (t := 38) ?hr ?_; (case hd => rfl); (case hg => rfl); (case hr => first | (go_simp; done) | (go_simp; rfl)); intro gb126 hg w4 hbox hb; have n0_ := Aside0.mk (blk_below (g := gb125) (o := .cells #[.int .u8 a0_0, .slice A0_1 l0_1.length c0_1] 101 (0, 0)) (HW.zB BK125.out) hb); have n1_ := Aside0.mk (below_step HW.zb hb); have n2_ := Aside0.mk (hbox); have n4_ := Aside0.mk ((by rw [hg]; exact (below_size HW.zb) : w.heap.size ≤ gb126)); have n5_ := Aside0.mk ((by rw [hg]; exact Nat.ne_of_lt (blk_lt (g := gb125) (o := .cells #[.int .u8 a0_0, .slice A0_1 l0_1.length c0_1] 101 (0, 0)) (HW.zB BK125.out)) : gb125 ≠ gb126)); have n6_ := Aside0.mk ((by rw [hg]; exact Nat.ne_of_gt (blk_lt (g := gb125) (o := .cells #[.int .u8 a0_0, .slice A0_1 l0_1.length c0_1] 101 (0, 0)) (HW.zB BK125.out)) : gb126 ≠ gb125)); clear BK125; clear HB; have BK125 := n0_; have HB := n1_; have BK126 := n2_; have GE126 := n4_; have NB125_126 := n5_; have NB126_125 := n6_; clear n0_ n1_ n2_ n4_ n5_ n6_; clear hb hbox hg))
    have n0_ := Aside0.mk (blk_drew BK125.out)
    have n1_ := Aside0.mk (blk_drew BK126.out)
    have n2_ := Aside0.mk (below_drew1 HB.out)
    clear BK125
    clear BK126
    clear HB
    have BK125 := n0_
    have BK126 := n1_
    have HB := n2_
    clear n0_ n1_ n2_
    refine start_ (n := 8) (S := fun w' => w'.cell? ⟨gb125, 0, none⟩ = some (.int .u8 a0_0) ∧ w'.cell? ⟨gb125, 1, none⟩ = some (.slice A0_1 l0_1.length c0_1)) (ds := []) #[false, false, false, false, false, false, false, false] (by kernel_rfl) rfl rfl ⟨(blk_cell BK125.out 0).trans rfl, (blk_cell BK125.out 1).trans rfl⟩ (fun hHeld => ?_); refine with_tabW impl_raw.tab1 impl_raw.bits1 (fun HT_ HW_ => ?_)
    generalize w4.drew = w5 at BK125 BK126 HB hHeld ⊢
    refine HW.pz (i := 0) (N := some 3) #[true, false, false, false, false, false, false, false] ?_ (hc := any_of HT_.out (by kernel_rfl))
    refine HW.pz (i := 3) (N := some 6) #[true, false, false, true, false, false, false, false] ?_ (hc := any_of HT_.out (by kernel_rfl))
    refine take_ (i := 1) (N := some 4) (v := ?_) (a' := ?_) #[true, true, false, true, false, false, false, false] rfl rfl (take_ofW HT_.out HW_.out (by kernel_rfl)) (fun _ _ _ h => h) (Or.inl ⟨by rfl, ?_⟩) hHeld ?_ ?_
    rotate_left
    · rintro w' ⟨s0, s1⟩
      go_simp
      with_reducible rfl
    rotate_left
    · simp only [Act.put, List.setIfInBounds_toArray, List.set_cons_zero, List.set_cons_succ, i64_w, i32_w]
      rfl
    refine HW.pz (i := 2) (N := some 5) #[true, true, true, true, false, false, false, false] ?_ (hc := any_of HT_.out (by kernel_rfl))
    refine take_ (i := 4) (N := some 7) (v := ?_) (a' := ?_) #[true, true, true, true, true, false, false, false] rfl rfl (take_ofW HT_.out HW_.out (by kernel_rfl)) (fun _ _ _ h => h) (Or.inl ⟨by rfl, ?_⟩) hHeld ?_ ?_
    rotate_left
    · rintro w' ⟨s0, s1⟩
      go_simp
      with_reducible rfl
    rotate_left
    · simp only [Act.put, List.setIfInBounds_toArray, List.set_cons_zero, List.set_cons_succ, i64_w, i32_w]
      rfl
    refine one_ (i := 5) (N := some 8) #[true, true, true, true, true, true, false, false] rfl rfl (one_of HT_.out (by kernel_rfl)) (by decide) (fun K hK => ?_)
    refine goes_ Tryz.func53 (by kernel_rfl) rfl #[.slice A0_1 l0_1.length c0_1] (by rfl) rfl rfl (by (try simp only [List.map_toArray, List.map_cons, List.map_nil]); first | done | rfl | (simp only [List.length_drop, List.length_take]; rfl)) ?_
    with_reducible refine (impl_own.calls _ _ l0_1 t127 _ ?side1 ?side2 A2.out).mono ?_
    (case side1 => repeat (first | exact (Kd.C_below HR0_1.out HB.out) | (with_reducible refine Kd.C_alloc ?_ _) | (with_reducible refine Kd.C_drewN ?_ _) | (with_reducible refine Kd.C_drew ?_)))
    (case side2 => exact HC0_1.out)
    rintro e w6 ⟨v128, rfl, ho0, hb⟩
    refine ⟨_, rfl, ?_⟩
    have n0_ := Aside0.mk (Kd.R_lower ho0 (below_size HW.zb))
    have n1_ := Aside0.mk (blk_below (g := gb125) (o := .cells #[.int .u8 a0_0, .slice A0_1 l0_1.length c0_1] 101 (0, 0)) (HW.zB BK125.out) hb)
    have n2_ := Aside0.mk (blk_below (g := gb126) (o := .cells #[.int .i64 0, .slice none 0 0] 38 (0, 0)) (HW.zB BK126.out) hb)
    have n3_ := Aside0.mk (below_step HW.zb hb)
    clear BK125
    clear BK126
    clear HB
    have HO129 := n0_
    have BK125 := n1_
    have BK126 := n2_
    have HB := n3_
    clear n0_ n1_ n2_ n3_
    (try clear hb)
    (try clear hb2)
    (try clear hk)
    (try clear hi)
    (try clear ho0)
    obtain ⟨Ao7, co7, eo7⟩ := Kd.R_slice HO129.out
    (first | subst eo7 | (injection eo7 with f1_ f2_ f3_; have f4_ := f1_.symm; have f5_ := f3_.symm; clear f1_ f2_ f3_; subst f4_; subst f5_))
    refine hK.out _ _ ⟨(blk_cell BK125.out 0).trans rfl, (blk_cell BK125.out 1).trans rfl⟩ (fun hHeld => ?_)
    clear hK K
    refine HW.nz (N := (some 8)) ?_
    refine HW.pz (i := 6) (N := some 9) #[true, true, true, true, true, true, true, false] ?_ (hc := any_of HT_.out (by kernel_rfl))
    refine one_ (i := 7) (N := none) #[true, true, true, true, true, true, true, true] rfl rfl (one_of HT_.out (by kernel_rfl)) (by decide) (fun K hK => ?_)
    have hs8 : w6.cell? ⟨gb126, 0, none⟩ = some (.int .i64 0) := (blk_cell BK126.out 0).trans rfl
    have hfs8 := blk_frozen BK126.out 0
    have hns8_0 := NB125_126.out
    have hms8_0 := NB126_125.out
    have hs9 : w6.cell? ⟨gb126, 1, none⟩ = some (.slice none 0 0) := (blk_cell BK126.out 1).trans rfl
    have hfs9 := blk_frozen BK126.out 1
    have hns9_0 := NB125_126.out
    have hms9_0 := NB126_125.out
    refine skip_ (w1 := ?_) (by rfl) rfl ?_ ?_
    rotate_left
    · go_simp
      rfl
    refine hK.out _ _ ⟨((cell_far (p := ⟨gb126, _, none⟩) NB125_126.out _).trans (((cell_far (p := ⟨gb126, _, none⟩) NB125_126.out _).trans (hHeld.1)))), ((cell_far (p := ⟨gb126, _, none⟩) NB125_126.out _).trans (((cell_far (p := ⟨gb126, _, none⟩) NB125_126.out _).trans (hHeld.2))))⟩ (fun hHeld => ?_)
    clear hK K
    refine done_ (done_of HT_.out (by kernel_rfl)) ?_
    try go_wp2
    refine bodyPost_ret (results_cell_row rfl _ _ gb126 38 #[.int .i64 (wrap64 (a0_0)), .slice Ao7 t127.length co7] (0, 0) _ rfl (by (with_reducible repeat (first | refine blk_drewN ?_ _ | refine blk_drew ?_ | refine blk_alloc ?_ _)); refine blk_put (cs := #[.int .i64 (wrap64 (a0_0)), .slice none 0 0]) ?_ 1 _ rfl; (with_reducible repeat (first | refine blk_drewN ?_ _ | refine blk_drew ?_ | refine blk_alloc ?_ _)); refine blk_put (cs := #[.int .i64 0, .slice none 0 0]) ?_ 0 _ rfl; (with_reducible repeat (first | refine blk_drewN ?_ _ | refine blk_drew ?_ | refine blk_alloc ?_ _)); exact BK126.out) Tryz.underlying38 rfl (by kernel_rfl)) rfl ?_
    exact ⟨_, by first | rfl | (simp [errW_none, errW_some] <;> rfl) | (simp [*, errW_none, errW_some] <;> rfl), by (with_reducible repeat (first | apply Kd.R_alloc | apply Kd.R_drewN | apply Kd.R_drew)); exact Kd.R_mono (Kd.R_far (p := ⟨gb126, 1, none⟩) (Kd.R_far (p := ⟨gb126, 0, none⟩) (Kd.R_types HO129.out BK126.out (by decide)) (fun _ hk => hk.2) (.int .i64 (wrap64 (a0_0)))) (fun _ hk => hk.2) (.slice Ao7 t127.length co7)) (fun _ hk => trivial), HW.zb⟩

-- NOT PRINTED: function 167 (reflectlite_TypeOf)

-- NOT PRINTED: function 168 (errors_is)

-- NOT PRINTED: function 118 (errors_Is)

/-! ### impl_code: function 92 -/
def impl_code.f (a0 : Option Int) : Option (Int) := if a0.isNone = true then (some 0) else (none)
set_option maxHeartbeats 8000000 in
set_option maxRecDepth 100000 in
theorem impl_code.calls (a0 : Option Int) (r : Int) (w : World) (h : impl_code.f a0 = some r) :
    Calls Tryz.prog 92 #[errW a0] w fun e w' => e = .returned (.int .i64 r) ∧ Below w.heap.size w w' := by
  have hu177 := Tryz.underlying177
  have hu181 := Tryz.underlying181
  have hu150 := Tryz.underlying150
  have HB := Aside0.mk (Below.refl w.heap.size w)
  have H : (if a0.isNone = true then (some 0) else (none)) = some r := h
  clear h
  rcases a0 with _ | q130
  rotate_left
  · have H1 : (none) = some r := by rw [if_neg (show ¬ (some q130).isNone = true by simp)] at H; exact H
    clear H
    have H := H1
    clear H1
    simp only [errW_none, errW_some]
    exact absurd H (by simp)
  have H1 : (some 0) = some r := by rw [if_pos (show (none : Option Int).isNone = true by rfl)] at H; exact H
  clear H
  have H := H1
  clear H1
  simp only [errW_none, errW_some]
  as_aux_lemma =>
    obtain rfl := Option.some.inj H
    go_enter Tryz.func92, Tryz.ntmps92
    go_wp2
    go_ret
    exact ⟨by first | rfl | (simp [errW_none, errW_some] <;> rfl) | (simp [*, errW_none, errW_some] <;> rfl), HW.zb⟩

/-! ### bsoncore_ReadLength: function 113 -/
def bsoncore_ReadLength.f (l0 : List Int) : Option (Int × List Int × Bool) := (binaryutil_ReadI32.f l0).bind fun bt131 => (if bt131.1 < 0 then (some (bt131.1, bt131.2.1, false)) else (some (bt131.1, bt131.2.1, bt131.2.2)))
set_option maxHeartbeats 8000000 in
set_option maxRecDepth 100000 in
theorem bsoncore_ReadLength.calls (P0_ : Nat → Prop) (A0 : Option Addr) (c0 : Nat) (l0 : List Int) (r1 : Int) (r2 : List Int) (r3 : Bool) (w : World) (hs0 : Kd.V (Kd.int .u8) 5 w w.heap.size (fun k_ => P0_ k_) (.slice A0 l0.length c0) l0) (h : bsoncore_ReadLength.f l0 = some (r1, r2, r3)) :
    Calls Tryz.prog 113 #[.slice A0 l0.length c0] w fun e w' => ∃ v1_ : Value, e = .returned (.tuple #[.int .i32 r1, v1_, .bool r3]) ∧ Kd.V (Kd.int .u8) 5 w' w.heap.size (fun k_ => (P0_ k_ ∨ w.heap.size ≤ k_)) v1_ r2 ∧ Below w.heap.size w w' := by
  have HO0 := Aside0.mk (show Kd.V (Kd.int .u8) 5 w w.heap.size (fun k_ => (P0_ k_ ∨ w.heap.size ≤ k_)) (.slice A0 l0.length c0) l0 from Kd.V_mono hs0 (fun k_ hk => .inl hk))
  have HB := Aside0.mk (Below.refl w.heap.size w)
  have H : ((binaryutil_ReadI32.f l0).bind fun bt131 => (if bt131.1 < 0 then (some (bt131.1, bt131.2.1, false)) else (some (bt131.1, bt131.2.1, bt131.2.2)))) = some (r1, r2, r3) := h
  clear h
  replace H := Option.bind_eq_some_iff.mp H
  obtain ⟨⟨t131, t132, t135⟩, A20, H⟩ := H
  replace H : (if t131 < 0 then (some (t131, t132, false)) else (some (t131, t132, t135))) = some (r1, r2, r3) := H
  have A2 := Aside0.mk A20
  clear A20
  by_cases c3 : t131 < 0
  · rw [if_pos c3] at H
    have c3b0 : decide (t131 < 0) = true := decide_eq_true c3
    clear c3
    as_aux_lemma =>
      simp only [Option.some.injEq, Prod.mk.injEq] at H
      obtain ⟨rfl, rfl, rfl⟩ := H
      go_enter Tryz.func113, Tryz.ntmps113
      go_wp2_with (first | ((with_reducible refine gate_callee (f := 115) rfl ?_); refine HW.gz (some 9) rfl rfl Tryz.func115 (by kernel_rfl) rfl #[.slice A0 l0.length c0] rfl ?_; (with_reducible refine (binaryutil_ReadI32.calls (fun k_ => (P0_ k_ ∨ w.heap.size ≤ k_)) _ _ l0 t131 t132 t135 _ ?side1 A2.out).mono ?_); (case side1 => exact HO0.out); rintro e w4 ⟨v133, rfl, ho0, hb⟩; refine ⟨_, rfl, ?_⟩; have n0_ := Aside0.mk (Kd.V_below (HW.zV HO0.out) hb); have n1_ := Aside0.mk (Kd.V_lower (Kd.V_mono (ok' := fun k_ => (P0_ k_ ∨ w.heap.size ≤ k_)) ho0 (fun k_ hk_ => Or.elim hk_ (fun hs_ => hs_) (fun hn_ => (.inr (Nat.le_trans (below_size HW.zb) hn_))))) (below_size HW.zb)); have n2_ := Aside0.mk (below_step HW.zb hb); clear HO0; clear HB; have HO0 := n0_; have HO134 := n1_; have HB := n2_; clear n0_ n1_ n2_; (try clear hb); (try clear hb2); (try clear hk); (try clear hi); (try clear ho0)))
      go_ret3
      exact ⟨_, by first | rfl | (simp [errW_none, errW_some] <;> rfl) | (simp [*, errW_none, errW_some] <;> rfl), HW.zV HO134.out, HW.zb⟩
  rw [if_neg c3] at H
  have c3b0 : decide (t131 < 0) = false := decide_eq_false c3
  clear c3
  as_aux_lemma =>
    simp only [Option.some.injEq, Prod.mk.injEq] at H
    obtain ⟨rfl, rfl, rfl⟩ := H
    go_enter Tryz.func113, Tryz.ntmps113
    go_wp2_with (first | ((with_reducible refine gate_callee (f := 115) rfl ?_); refine HW.gz (some 9) rfl rfl Tryz.func115 (by kernel_rfl) rfl #[.slice A0 l0.length c0] rfl ?_; (with_reducible refine (binaryutil_ReadI32.calls (fun k_ => (P0_ k_ ∨ w.heap.size ≤ k_)) _ _ l0 t131 t132 t135 _ ?side1 A2.out).mono ?_); (case side1 => exact HO0.out); rintro e w5 ⟨v133, rfl, ho0, hb⟩; refine ⟨_, rfl, ?_⟩; have n1_ := Aside0.mk (Kd.V_lower (Kd.V_mono (ok' := fun k_ => (P0_ k_ ∨ w.heap.size ≤ k_)) ho0 (fun k_ hk_ => Or.elim hk_ (fun hs_ => hs_) (fun hn_ => (.inr (Nat.le_trans (below_size HW.zb) hn_))))) (below_size HW.zb)); have n2_ := Aside0.mk (below_step HW.zb hb); clear HB; have HO134 := n1_; have HB := n2_; clear n1_ n2_; (try clear hb); (try clear hb2); (try clear hk); (try clear hi); (try clear ho0)))
    go_ret3
    exact ⟨_, by first | rfl | (simp [errW_none, errW_some] <;> rfl) | (simp [*, errW_none, errW_some] <;> rfl), HW.zV HO134.out, HW.zb⟩

-- NOT PRINTED: function 171 (bytealg_IndexByte)

/-! ### bytes_IndexByte: function 129 -/
def bytes_IndexByte.f (l0 : List Int) (a1 : Int) : Option (Int) := some (Lib.indexByte (Lib.bytesOf l0) a1.toNat.toUInt8)
set_option maxHeartbeats 1000000 in
set_option maxRecDepth 100000 in
theorem bytes_IndexByte.calls (A0 : Option Addr) (c0 : Nat) (l0 : List Int) (a1 : Int) (r : Int) (w : World) (hr0 : Kd.C (Kd.int .u8) w A0 l0.length l0) (_hc0 : l0.length ≤ c0) (h : bytes_IndexByte.f l0 a1 = some r) :
    Calls Tryz.prog 129 #[.slice A0 l0.length c0, .int .u8 a1] w fun e w' => e = .returned (.int .i64 r) ∧ Drawn0 w w' := by
  obtain rfl := Option.some.inj h
  clear h
  have HR := Kd.reads_of_C (enc := Value.int .u8) (d := (0 : Int)) (h1 := fun _ => rfl) hr0
  clear hr0
  cases A0 with
  | none =>
    have hl : l0 = [] := by
      rcases Nat.eq_zero_or_pos l0.length with hz | hz
      · exact List.eq_nil_of_length_eq_zero hz
      obtain ⟨_, he, _⟩ := HR.2.2 hz
      cases he
    subst hl
    go_enter Tryz.func129, Tryz.ntmps129
    go_wp2
    rw [run_callFunc_extern Tryz.func171 (by kernel_rfl) (by kernel_rfl) (by kernel_rfl) (e := Extern.BytealgIndexByte.indexByte) (by kernel_rfl), Lib.run_indexByteNil w]
    simp only [Result.andThen]
    rw [Oper.upon_value]
    go_wp2
    go_ret
    exact ⟨rfl, ⟨0, rfl⟩⟩
  | some a =>
    have hc : ∀ i, i < l0.length → w.cell? (a.add i) = some (.int .u8 (l0.getD i 0)) := by
      intro i hi
      obtain ⟨ad, he, hc⟩ := HR.2.2 (by omega)
      cases he
      exact hc i hi
    clear HR
    go_enter Tryz.func129, Tryz.ntmps129
    go_wp2
    rw [run_callFunc_extern Tryz.func171 (by kernel_rfl) (by kernel_rfl) (by kernel_rfl) (e := Extern.BytealgIndexByte.indexByte) (by kernel_rfl), Lib.run_indexByteAt w a l0.length c0 l0 rfl hc a1]
    simp only [Result.andThen]
    rw [Oper.upon_value]
    go_wp2
    go_ret
    exact ⟨rfl, ⟨0, rfl⟩⟩

end Go.Proofs.YtanecebppagakaaGreatDoor.PAl
