import Derived.Test.YtanecebppagakaaGreatDoorPSxx0
namespace Go.Proofs.YtanecebppagakaaGreatDoor.PSx
open Go.RowKit Go.Proofs.YtanecebppagakaaGreatDoorW.PrintWords Go.Proofs.YtanecebppagakaaGreatDoorW.PrintLast Go.Proofs.YtanecebppagakaaGreatDoorW.PrintMore
attribute [local go_sem] max2_int min2_int max_two min_two max_three min_three max_four min_four
set_option linter.unusedVariables false
set_option maxHeartbeats 8000000
set_option maxRecDepth 100000
set_option linter.unusedSimpArgs false
def laws_docCopy.f (l0 : List Int) : Option (List Int) := (some (([] : List Int) : List Int)).bind fun y101 => (if y101.length + l0.length < 140737488355328 then (some (y101 ++ l0)) else (none))
theorem laws_docCopy.calls (A0 : Option Addr) (c0 : Nat) (l0 : List Int) (r : List Int) (w : World) (hr0 : Kd.C (Kd.int .u8) w A0 l0.length l0) (hc0 : l0.length ≤ c0) (h : laws_docCopy.f l0 = some r) :
    Calls Tryz.prog 11 #[.slice A0 l0.length c0] w fun e w' => ∃ v0_ : Value, e = .returned (v0_) ∧ Kd.R (Kd.int .u8) 5 w' w.heap.size (fun _ => True) v0_ r ∧ Below w.heap.size w w' := by
  have HR0 := Aside0.mk hr0; have HC0 := Aside0.mk hc0; clear hr0 hc0; have HB := Aside0.mk (Below.refl w.heap.size w); have H : ((some (([] : List Int) : List Int)).bind fun y101 => (if y101.length + l0.length < 140737488355328 then (some (y101 ++ l0)) else (none))) = some r := h; clear h; obtain ⟨y101, hy101⟩ : ∃ y_ : List Int, y_ = (([] : List Int)) := ⟨_, rfl⟩
  replace H : (if y101.length + l0.length < 140737488355328 then (some (y101 ++ l0)) else (none)) = some r := by (try rw [hy101]); exact HW.rp
  have Ny101 := Aside0.mk hy101; clear hy101
  by_cases c2 : y101.length + l0.length < 140737488355328
  rotate_left
  · rw [if_neg c2] at H
    exact absurd H (by simp)
  rw [if_pos c2] at H; have LMc2 := Aside0.mk c2; clear c2; obtain ⟨y104, hy104⟩ : ∃ y_ : List Int, y_ = (y101 ++ l0) := ⟨_, rfl⟩
  replace H : (some y104) = some r := by (try rw [hy104]); exact HW.rp
  have Ny104 := Aside0.mk hy104; clear hy104
  as_aux_lemma =>
    obtain rfl := Option.some.inj H
    go_enter Tryz.func11, Tryz.ntmps11
    go_wp2_with (first | ((with_reducible refine gate_dst (N := 3) rfl ?_); refine Kd.R_lit (Kd.int .u8) _ 5 ?hg (N := 3) ?hd (xs := ([] : List Int)) (inner := []) (ok := fun _ => True) (okp := fun _ => True) ?hr ?hp (fun _ hk => hk) trivial (Below.refl _ _) (Nat.le_refl _) (by simp) ?_; (case hd => rfl); (case hg => rfl); (case hr => first | (go_simp; done) | (go_simp; rfl)); (case hp => exact (Reps.none _ _)); intro v102 w3 ho4 hb hg_ hnew_; clear hg_ hnew_; (first | rw [← Ny101.out] at ho4 | (simp only [Int.reduceToNat] at ho4; rw [← Ny101.out] at ho4)); have HO103 := Aside0.mk (Kd.R_lower ho4 (below_size HW.zb)); replace HB := Aside0.mk (below_step HW.zb hb); clear hb ho4) | ((with_reducible refine gate_builtin (b := .append) (xs := #[.tmp 3, .tmp 4]) rfl ?_); at_builtin; refine Kd.R_append_rows (Kd.int .u8) (w0 := w) w.heap.size rfl (.tmp 3) (.tmp 4) 22 5 (.int .u8 0) 1 rfl Tryz.underlying22 info5 rfl (by decide) (by omega) v102 y101 l0 _ _ _ (fun _ => True) (fun _ => False) rfl rfl ?aO ?aR (fun _ _ h => h) (fun _ h => h.elim) ?aF ?aB ?aS ?aL ?_; (case aR => repeat (first | exact (Kd.C_below HR0.out HB.out) | (with_reducible refine Kd.C_alloc ?_ _) | (with_reducible refine Kd.C_drewN ?_ _) | (with_reducible refine Kd.C_drew ?_))); (case aB => exact HW.zb); (case aF => exact (fun _ _ => trivial)); (case aO => exact (HW.zR HO103.out)); (case aS => exact (below_size HW.zb)); (case aL => have := LMc2.out; omega); intro v105 w5 ho hb hg hat; rw [← Ny104.out] at ho; have n0_ := Aside0.mk (hb); have n1_ := Aside0.mk (ho); clear HB; clear HO103; have HB := n0_; have HO106 := n1_; clear n0_ n1_; clear ho hb hg hat))
    go_ret
    exact ⟨_, rfl, HW.zR HO106.out, HW.zb⟩
def impl_own.f (l0 : List Int) : Option (List Int) := if ([] : List Int).length + l0.length < 140737488355328 then (some (([] : List Int) ++ l0)) else (none)
theorem impl_own.calls (A0 : Option Addr) (c0 : Nat) (l0 : List Int) (r : List Int) (w : World) (hr0 : Kd.C (Kd.int .u8) w A0 l0.length l0) (hc0 : l0.length ≤ c0) (h : impl_own.f l0 = some r) :
    Calls Tryz.prog 53 #[.slice A0 l0.length c0] w fun e w' => ∃ v0_ : Value, e = .returned (v0_) ∧ Kd.R (Kd.int .u8) 5 w' w.heap.size (fun _ => True) v0_ r ∧ Below w.heap.size w w' := by
  have HR0 := Aside0.mk hr0; have HC0 := Aside0.mk hc0; clear hr0 hc0; have HB := Aside0.mk (Below.refl w.heap.size w); have H : (if ([] : List Int).length + l0.length < 140737488355328 then (some (([] : List Int) ++ l0)) else (none)) = some r := h; clear h
  by_cases c2 : ([] : List Int).length + l0.length < 140737488355328
  rotate_left
  · rw [if_neg c2] at H
    exact absurd H (by simp)
  rw [if_pos c2] at H; have LMc2 := Aside0.mk c2; clear c2; obtain ⟨y107, hy107⟩ : ∃ y_ : List Int, y_ = (([] : List Int) ++ l0) := ⟨_, rfl⟩
  replace H : (some y107) = some r := by (try rw [hy107]); exact HW.rp
  have Ny107 := Aside0.mk hy107; clear hy107
  as_aux_lemma =>
    obtain rfl := Option.some.inj H
    go_enter Tryz.func53, Tryz.ntmps53
    go_wp2_with (first | ((with_reducible refine gate_builtin (b := .append) (xs := #[.const (.slice none 0 0), .tmp 3]) rfl ?_); at_builtin; refine Kd.R_append_rows (Kd.int .u8) (w0 := w) w.heap.size rfl (.const (.slice none 0 0)) (.tmp 3) 22 5 (.int .u8 0) 1 rfl Tryz.underlying22 info5 rfl (by decide) (by omega) (.slice none 0 0) ([] : List Int) l0 _ _ _ (fun _ => True) (fun _ => False) rfl rfl ?aO ?aR (fun _ _ h => h) (fun _ h => h.elim) ?aF ?aB ?aS ?aL ?_; (case aR => repeat (first | exact HR0.out | (with_reducible refine Kd.C_alloc ?_ _) | (with_reducible refine Kd.C_drewN ?_ _) | (with_reducible refine Kd.C_drew ?_))); (case aB => exact HW.zb); (case aF => exact (fun _ _ => trivial)); (case aO => exact ((Kd.R_nil _ _ _ _ (fun _ => True)))); (case aS => exact (below_size HW.zb)); (case aL => have := LMc2.out; omega); intro v108 w3 ho hb hg hat; rw [← Ny107.out] at ho; have HO109 := Aside0.mk (ho); replace HB := Aside0.mk (hb); clear ho hb hg hat))
    go_ret
    exact ⟨_, rfl, HW.zR HO109.out, HW.zb⟩
def binaryutil_ReadI32.f (l0 : List Int) : Option (Int × List Int × Bool) := if (l0.length : Int) < 4 then (some (0, l0, false)) else (if 3 < (l0.length : Int) then (if 0 < (l0.length : Int) then (if 1 < (l0.length : Int) then (if 2 < (l0.length : Int) then (if 4 ≤ (l0.length : Int) then (some (Go.bits .or .i32 (Go.bits .or .i32 (Go.bits .or .i32 (wrap32 (rd l0 0)) (wrap32 ((wrap32 (rd l0 1)) * 256))) (wrap32 ((wrap32 (rd l0 2)) * 65536))) (wrap32 ((wrap32 (rd l0 3)) * 16777216)), (l0.drop 4), true)) else (none)) else (none)) else (none)) else (none)) else (none))
theorem binaryutil_ReadI32.calls (P0_ : Nat → Prop) (A0 : Option Addr) (c0 : Nat) (l0 : List Int) (r1 : Int) (r2 : List Int) (r3 : Bool) (w : World) (hs0 : Kd.V (Kd.int .u8) 5 w w.heap.size (fun k_ => P0_ k_) (.slice A0 l0.length c0) l0) (h : binaryutil_ReadI32.f l0 = some (r1, r2, r3)) :
    Calls Tryz.prog 115 #[.slice A0 l0.length c0] w fun e w' => ∃ v1_ : Value, e = .returned (.tuple #[.int .i32 r1, v1_, .bool r3]) ∧ Kd.V (Kd.int .u8) 5 w' w.heap.size (fun k_ => (P0_ k_ ∨ w.heap.size ≤ k_)) v1_ r2 ∧ Below w.heap.size w w' := by
  have HO0 := Aside0.mk (show Kd.V (Kd.int .u8) 5 w w.heap.size (fun k_ => (P0_ k_ ∨ w.heap.size ≤ k_)) (.slice A0 l0.length c0) l0 from Kd.V_mono hs0 (fun k_ hk => .inl hk)); have HB := Aside0.mk (Below.refl w.heap.size w); have H : (if (l0.length : Int) < 4 then (some (0, l0, false)) else (if 3 < (l0.length : Int) then (if 0 < (l0.length : Int) then (if 1 < (l0.length : Int) then (if 2 < (l0.length : Int) then (if 4 ≤ (l0.length : Int) then (some (Go.bits .or .i32 (Go.bits .or .i32 (Go.bits .or .i32 (wrap32 (rd l0 0)) (wrap32 ((wrap32 (rd l0 1)) * 256))) (wrap32 ((wrap32 (rd l0 2)) * 65536))) (wrap32 ((wrap32 (rd l0 3)) * 16777216)), (l0.drop 4), true)) else (none)) else (none)) else (none)) else (none)) else (none))) = some (r1, r2, r3) := h; clear h
  by_cases c2 : (l0.length : Int) < 4
  · rw [if_pos c2] at H
    have c2b0 : decide ((l0.length : Int) < 4) = true := decide_eq_true c2
    have c2b1 : decide (l0.length < 4) = true := decide_eq_true (by omega)
    clear c2
    as_aux_lemma =>
      simp only [Option.some.injEq, Prod.mk.injEq] at H
      obtain ⟨rfl, rfl, rfl⟩ := H
      go_enter Tryz.func115, Tryz.ntmps115
      go_wp2
      repeat (go_quiet (fail); try go_wp2)
      go_ret3
      exact ⟨_, rfl, HW.zV HO0.out, HW.zb⟩
  rw [if_neg c2] at H; have c2b0 : decide ((l0.length : Int) < 4) = false := decide_eq_false c2
  have c2b1 : decide (l0.length < 4) = false := decide_eq_false (by omega)
  clear c2
  by_cases c3 : 3 < (l0.length : Int)
  rotate_left
  · rw [if_neg c3] at H
    exact absurd H (by simp)
  rw [if_pos c3] at H; have c3b0 : decide (3 < (l0.length : Int)) = true := decide_eq_true c3
  have c3b1 : decide (3 < l0.length) = true := decide_eq_true (by omega)
  clear c3
  by_cases c4 : 0 < (l0.length : Int)
  rotate_left
  · rw [if_neg c4] at H
    exact absurd H (by simp)
  rw [if_pos c4] at H; have c4b0 : decide (0 < (l0.length : Int)) = true := decide_eq_true c4
  have c4b1 : decide (0 < l0.length) = true := decide_eq_true (by omega)
  clear c4
  by_cases c5 : 1 < (l0.length : Int)
  rotate_left
  · rw [if_neg c5] at H
    exact absurd H (by simp)
  rw [if_pos c5] at H; have c5b0 : decide (1 < (l0.length : Int)) = true := decide_eq_true c5
  have c5b1 : decide (1 < l0.length) = true := decide_eq_true (by omega)
  clear c5
  by_cases c6 : 2 < (l0.length : Int)
  rotate_left
  · rw [if_neg c6] at H
    exact absurd H (by simp)
  rw [if_pos c6] at H; have c6b0 : decide (2 < (l0.length : Int)) = true := decide_eq_true c6
  have c6b1 : decide (2 < l0.length) = true := decide_eq_true (by omega)
  clear c6
  by_cases c7 : 4 ≤ (l0.length : Int)
  rotate_left
  · rw [if_neg c7] at H
    exact absurd H (by simp)
  rw [if_pos c7] at H; have c7b0 := eq_true c7; have c7b1 : decide (4 ≤ (l0.length : Int)) = true := decide_eq_true c7; clear c7; obtain ⟨y115, hy115⟩ : ∃ y_ : List Int, y_ = (l0.drop 4) := ⟨_, rfl⟩
  replace H : (some (Go.bits .or .i32 (Go.bits .or .i32 (Go.bits .or .i32 (wrap32 (rd l0 0)) (wrap32 ((wrap32 (rd l0 1)) * 256))) (wrap32 ((wrap32 (rd l0 2)) * 65536))) (wrap32 ((wrap32 (rd l0 3)) * 16777216)), y115, true)) = some (r1, r2, r3) := by (try rw [hy115]); exact HW.rp
  have Ny115 := Aside0.mk hy115; clear hy115
  as_aux_lemma =>
    simp only [Option.some.injEq, Prod.mk.injEq] at H
    obtain ⟨rfl, rfl, rfl⟩ := H
    have p110 : 0 ≤ (3 : Int) := (by omega)
    have q110 : 3 < (l0.length : Int) := HW.od
    obtain ⟨ad110, e110, hx110_0⟩ := Kd.at_int (Kd.V_reads' HO0.out).2.2 3 p110 q110
    cases e110
    (try simp only [show (3 : Int).toNat = 3 from rfl, Nat.reduceMul, Nat.reduceEqDiff, Go.Addr.add, ↓reduceIte] at hx110_0)
    have qi110 : (3 < l0.length) = True := eq_true (by omega)
    (try rw [show ((3 : Int)).toNat = 3 from rfl] at hx110_0)
    replace p110 := eq_true p110; replace q110 := eq_true q110
    have p111 : 0 ≤ (0 : Int) := (by omega)
    have q111 : 0 < (l0.length : Int) := HW.od
    obtain ⟨ad111, e111, hx111_0⟩ := Kd.at_int (Kd.V_reads' HO0.out).2.2 0 p111 q111
    obtain rfl : ad110 = ad111 := (by injection e111)
    have qi111 : (0 < l0.length) = True := eq_true (by omega)
    (try rw [show ((0 : Int)).toNat = 0 from rfl] at hx111_0)
    (try rw [Addr.add_zero'] at hx111_0)
    replace p111 := eq_true p111; replace q111 := eq_true q111
    have p112 : 0 ≤ (1 : Int) := (by omega)
    have q112 : 1 < (l0.length : Int) := HW.od
    obtain ⟨ad112, e112, hx112_0⟩ := Kd.at_int (Kd.V_reads' HO0.out).2.2 1 p112 q112
    obtain rfl : ad110 = ad112 := (by injection e112)
    (try simp only [show (1 : Int).toNat = 1 from rfl, Nat.reduceMul, Nat.reduceEqDiff, Go.Addr.add, ↓reduceIte] at hx112_0)
    have qi112 : (1 < l0.length) = True := eq_true (by omega)
    (try rw [show ((1 : Int)).toNat = 1 from rfl] at hx112_0)
    replace p112 := eq_true p112; replace q112 := eq_true q112
    have p113 : 0 ≤ (2 : Int) := (by omega)
    have q113 : 2 < (l0.length : Int) := HW.od
    obtain ⟨ad113, e113, hx113_0⟩ := Kd.at_int (Kd.V_reads' HO0.out).2.2 2 p113 q113
    obtain rfl : ad110 = ad113 := (by injection e113)
    (try simp only [show (2 : Int).toNat = 2 from rfl, Nat.reduceMul, Nat.reduceEqDiff, Go.Addr.add, ↓reduceIte] at hx113_0)
    have qi113 : (2 < l0.length) = True := eq_true (by omega)
    (try rw [show ((2 : Int)).toNat = 2 from rfl] at hx113_0)
    replace p113 := eq_true p113; replace q113 := eq_true q113
    have p114 : 0 ≤ (3 : Int) := (by omega)
    have q114 : 3 < (l0.length : Int) := HW.od
    obtain ⟨ad114, e114, hx114_0⟩ := Kd.at_int (Kd.V_reads' HO0.out).2.2 3 p114 q114
    obtain rfl : ad110 = ad114 := (by injection e114)
    (try simp only [show (3 : Int).toNat = 3 from rfl, Nat.reduceMul, Nat.reduceEqDiff, Go.Addr.add, ↓reduceIte] at hx114_0)
    have qi114 : (3 < l0.length) = True := eq_true (by omega)
    (try rw [show ((3 : Int)).toNat = 3 from rfl] at hx114_0)
    replace p114 := eq_true p114; replace q114 := eq_true q114
    have q8 : (4 : Int) ≤ ((l0.length : Int) : Int) := HW.od
    obtain ⟨i08, hi08, _, hsz8, _⟩ := info_parts info5; have hroom8 : l0.length ≤ c0 := (Kd.V_reads' HO0.out).2.1; have hC8 : Kd.F (Kd.int .u8) _ _ (some ad110) l0.length l0 := (Kd.V_at (base := w.heap.size) HO0.out).2.2
    have hcut8 := cut_from (P := Tryz.prog) 22 5 .i64 Tryz.underlying22 hi08 1 hsz8 (some ad110) l0.length c0 4 (by omega) q8
    have hr8 := Kd.F_cut (m := (4 : Int).toNat) (c := c0) hC8 (by omega) hroom8
    obtain ⟨A8, hA8⟩ : ∃ A1, A1 = (if c0 = (4 : Int).toNat then (some ad110) else ((some ad110) : Option Addr).map (·.add ((4 : Int).toNat * 1))) := ⟨_, rfl⟩; obtain ⟨c8, hc8⟩ : ∃ c1, c1 = c0 - (4 : Int).toNat := ⟨_, rfl⟩
    have hy8 : y115.length = l0.length - (4 : Int).toNat := (by rw [Ny115.out, List.length_drop] <;> omega)
    rw [show (l0).drop (4 : Int).toNat = y115 from Ny115.out.symm] at hr8
    replace hr8 : Kd.F (Kd.int .u8) _ _ A8 y115.length y115 := (by rw [hA8]; exact hr8)
    rw [← hy8, ← hA8, ← hc8] at hcut8
    have HO119 := Aside0.mk (show Kd.V (Kd.int .u8) 5 _ w.heap.size _ (.slice A8 y115.length c8) y115 from Kd.V_mk (by rw [hy8, hc8]; exact Nat.sub_le_sub_right hroom8 _) hr8)
    have HC119 := Aside0.mk (show y115.length ≤ c8 from by rw [hy8, hc8]; exact Nat.sub_le_sub_right hroom8 _)
    clear hr8 hC8 hroom8 hi08 hsz8 hc8; have KY8 := Aside0.mk hy8; have KA8 := Aside0.mk hA8; clear hy8 hA8; replace q8 := eq_true q8
    go_enter Tryz.func115, Tryz.ntmps115
    go_wp2
    repeat (go_quiet (fail); try go_wp2)
    go_ret3
    exact ⟨_, rfl, HW.zV HO119.out, HW.zb⟩
def bsoncore_ReadLength.f (l0 : List Int) : Option (Int × List Int × Bool) := (binaryutil_ReadI32.f l0).bind fun bt120 => (if bt120.1 < 0 then (some (bt120.1, bt120.2.1, false)) else (some (bt120.1, bt120.2.1, bt120.2.2)))
theorem bsoncore_ReadLength.calls (P0_ : Nat → Prop) (A0 : Option Addr) (c0 : Nat) (l0 : List Int) (r1 : Int) (r2 : List Int) (r3 : Bool) (w : World) (hs0 : Kd.V (Kd.int .u8) 5 w w.heap.size (fun k_ => P0_ k_) (.slice A0 l0.length c0) l0) (h : bsoncore_ReadLength.f l0 = some (r1, r2, r3)) :
    Calls Tryz.prog 113 #[.slice A0 l0.length c0] w fun e w' => ∃ v1_ : Value, e = .returned (.tuple #[.int .i32 r1, v1_, .bool r3]) ∧ Kd.V (Kd.int .u8) 5 w' w.heap.size (fun k_ => (P0_ k_ ∨ w.heap.size ≤ k_)) v1_ r2 ∧ Below w.heap.size w w' := by
  have HO0 := Aside0.mk (show Kd.V (Kd.int .u8) 5 w w.heap.size (fun k_ => (P0_ k_ ∨ w.heap.size ≤ k_)) (.slice A0 l0.length c0) l0 from Kd.V_mono hs0 (fun k_ hk => .inl hk)); have HB := Aside0.mk (Below.refl w.heap.size w); have H : ((binaryutil_ReadI32.f l0).bind fun bt120 => (if bt120.1 < 0 then (some (bt120.1, bt120.2.1, false)) else (some (bt120.1, bt120.2.1, bt120.2.2)))) = some (r1, r2, r3) := h; clear h; replace H := Option.bind_eq_some_iff.mp H; obtain ⟨⟨t120, t121, t124⟩, A20, H⟩ := H; replace H : (if t120 < 0 then (some (t120, t121, false)) else (some (t120, t121, t124))) = some (r1, r2, r3) := H; have A2 := Aside0.mk A20; clear A20
  by_cases c3 : t120 < 0
  · rw [if_pos c3] at H
    have c3b0 : decide (t120 < 0) = true := decide_eq_true c3; clear c3
    as_aux_lemma =>
      simp only [Option.some.injEq, Prod.mk.injEq] at H
      obtain ⟨rfl, rfl, rfl⟩ := H
      go_enter Tryz.func113, Tryz.ntmps113
      go_wp2_with (first | ((with_reducible refine gate_callee (f := 115) rfl ?_); refine HW.gz (some 9) rfl rfl Tryz.func115 (by kernel_rfl) rfl #[.slice A0 l0.length c0] rfl ?_; (with_reducible refine (binaryutil_ReadI32.calls (fun k_ => (P0_ k_ ∨ w.heap.size ≤ k_)) _ _ l0 t120 t121 t124 _ ?side1 A2.out).mono ?_); (case side1 => exact HO0.out); rintro e w4 ⟨v122, rfl, ho0, hb⟩; refine ⟨_, rfl, ?_⟩; replace HO0 := Aside0.mk (Kd.V_below (HW.zV HO0.out) hb); have HO123 := Aside0.mk (Kd.V_lower (Kd.V_mono (ok' := fun k_ => (P0_ k_ ∨ w.heap.size ≤ k_)) ho0 (fun k_ hk_ => Or.elim hk_ (fun hs_ => hs_) (fun hn_ => (.inr (Nat.le_trans (below_size HW.zb) hn_))))) (below_size HW.zb)); replace HB := Aside0.mk (below_step HW.zb hb); (try clear hb); (try clear ho0)))
      go_ret3
      exact ⟨_, rfl, HW.zV HO123.out, HW.zb⟩
  rw [if_neg c3] at H; have c3b0 : decide (t120 < 0) = false := decide_eq_false c3; clear c3
  as_aux_lemma =>
    simp only [Option.some.injEq, Prod.mk.injEq] at H
    obtain ⟨rfl, rfl, rfl⟩ := H
    go_enter Tryz.func113, Tryz.ntmps113
    go_wp2_with (first | ((with_reducible refine gate_callee (f := 115) rfl ?_); refine HW.gz (some 9) rfl rfl Tryz.func115 (by kernel_rfl) rfl #[.slice A0 l0.length c0] rfl ?_; (with_reducible refine (binaryutil_ReadI32.calls (fun k_ => (P0_ k_ ∨ w.heap.size ≤ k_)) _ _ l0 t120 t121 t124 _ ?side1 A2.out).mono ?_); (case side1 => exact HO0.out); rintro e w5 ⟨v122, rfl, ho0, hb⟩; refine ⟨_, rfl, ?_⟩; have HO123 := Aside0.mk (Kd.V_lower (Kd.V_mono (ok' := fun k_ => (P0_ k_ ∨ w.heap.size ≤ k_)) ho0 (fun k_ hk_ => Or.elim hk_ (fun hs_ => hs_) (fun hn_ => (.inr (Nat.le_trans (below_size HW.zb) hn_))))) (below_size HW.zb)); replace HB := Aside0.mk (below_step HW.zb hb); (try clear hb); (try clear ho0)))
    go_ret3
    exact ⟨_, rfl, HW.zV HO123.out, HW.zb⟩
def bsoncore_readstring.j0 : Nat → List Int → Int → List Int → Bool → Option (ByteArray × List Int × Bool)
  | 0, _, _, _, _ => none
  | k + 1, x0, x5, x6, x26 => if x26 = true then (some ((⟨#[]⟩ : ByteArray), x0, false)) else (if 0 ≤ (wrap32 (x5 - 1)) then (if (wrap32 (x5 - 1)) ≤ (x6.length : Int) then (if 0 ≤ x5 then (if x5 ≤ (x6.length : Int) then (some (strOfNums (x6.take ((wrap32 (x5 - 1)) : Int).toNat), (x6.drop (x5 : Int).toNat), true)) else (none)) else (none)) else (none)) else (none))
def bsoncore_readstring.f (k : Nat) (l0 : List Int) : Option (ByteArray × List Int × Bool) := (bsoncore_ReadLength.f l0).bind fun bt125 => (if bt125.2.2 = true then (if 4 ≤ (l0.length : Int) then (if ((l0.drop 4).length : Int) < (wrap64 (bt125.1)) then (bsoncore_readstring.j0 k l0 bt125.1 bt125.2.1 true) else (bsoncore_readstring.j0 k l0 bt125.1 bt125.2.1 (bt125.1 == 0))) else (none)) else (some ((⟨#[]⟩ : ByteArray), l0, false)))
theorem bsoncore_readstring.mono_l : ∀ k, (∀ y0 y1 y2 y3, LeO (bsoncore_readstring.j0 k y0 y1 y2 y3) (bsoncore_readstring.j0 (k + 1) y0 y1 y2 y3))
  | 0 => fun _ _ _ _ r h => by simp [bsoncore_readstring.j0] at h
  | k + 1 => by
    have ih0 := bsoncore_readstring.mono_l k
    · intro y0 y1 y2 y3
      unfold bsoncore_readstring.j0
      have m0_ := @ih0; exact HW.mo
theorem bsoncore_readstring.mono : ∀ a0 k, LeO (bsoncore_readstring.f k a0) (bsoncore_readstring.f (k + 1) a0) := by
  intro a0 k
  have ih0 := bsoncore_readstring.mono_l k
  unfold bsoncore_readstring.f
  have m0_ := @ih0; exact HW.mo
theorem bsoncore_readstring.calls (k : Nat) (P0_ : Nat → Prop) (A0 : Option Addr) (c0 : Nat) (l0 : List Int) (r1 : ByteArray) (r2 : List Int) (r3 : Bool) (w : World) (hs0 : Kd.V (Kd.int .u8) 5 w w.heap.size (fun k_ => P0_ k_) (.slice A0 l0.length c0) l0) (h : bsoncore_readstring.f k l0 = some (r1, r2, r3)) :
    Calls Tryz.prog 111 #[.slice A0 l0.length c0] w fun e w' => ∃ v1_ : Value, e = .returned (.tuple #[.string r1, v1_, .bool r3]) ∧ Kd.V (Kd.int .u8) 5 w' w.heap.size (fun k_ => (P0_ k_ ∨ w.heap.size ≤ k_)) v1_ r2 ∧ Below w.heap.size w w' := by
  have HO0 := Aside0.mk (show Kd.V (Kd.int .u8) 5 w w.heap.size (fun k_ => (P0_ k_ ∨ w.heap.size ≤ k_)) (.slice A0 l0.length c0) l0 from Kd.V_mono hs0 (fun k_ hk => .inl hk)); have HB := Aside0.mk (Below.refl w.heap.size w); have H : ((bsoncore_ReadLength.f l0).bind fun bt125 => (if bt125.2.2 = true then (if 4 ≤ (l0.length : Int) then (if ((l0.drop 4).length : Int) < (wrap64 (bt125.1)) then (bsoncore_readstring.j0 k l0 bt125.1 bt125.2.1 true) else (bsoncore_readstring.j0 k l0 bt125.1 bt125.2.1 (bt125.1 == 0))) else (none)) else (some ((⟨#[]⟩ : ByteArray), l0, false)))) = some (r1, r2, r3) := h; clear h; replace H := Option.bind_eq_some_iff.mp H; obtain ⟨⟨t125, t126, t129⟩, A20, H⟩ := H; replace H : (if t129 = true then (if 4 ≤ (l0.length : Int) then (if ((l0.drop 4).length : Int) < (wrap64 (t125)) then (bsoncore_readstring.j0 k l0 t125 t126 true) else (bsoncore_readstring.j0 k l0 t125 t126 (t125 == 0))) else (none)) else (some ((⟨#[]⟩ : ByteArray), l0, false))) = some (r1, r2, r3) := H; have A2 := Aside0.mk A20; clear A20
  by_cases c3 : t129 = true
  rotate_left
  · replace c3 := Bool.eq_false_iff.mpr c3
    subst c3
    have H1 : (some ((⟨#[]⟩ : ByteArray), l0, false)) = some (r1, r2, r3) := by rw [if_neg (show ¬ (false = true) by decide)] at H; exact H
    clear H; have H := H1; clear H1
    as_aux_lemma =>
      simp only [Option.some.injEq, Prod.mk.injEq] at H
      obtain ⟨rfl, rfl, rfl⟩ := H
      go_enter Tryz.func111, Tryz.ntmps111
      go_wp2_with (first | (go_at_call 113; (with_reducible refine (bsoncore_ReadLength.calls (fun k_ => (P0_ k_ ∨ w.heap.size ≤ k_)) _ _ l0 t125 t126 false _ ?side1 A2.out).mono ?_); (case side1 => exact HO0.out); rintro e w21 ⟨v127, rfl, ho0, hb⟩; replace HO0 := Aside0.mk (Kd.V_below (HW.zV HO0.out) hb); have HO128 := Aside0.mk (Kd.V_lower (Kd.V_mono (ok' := fun k_ => (P0_ k_ ∨ w.heap.size ≤ k_)) ho0 (fun k_ hk_ => Or.elim hk_ (fun hs_ => hs_) (fun hn_ => (.inr (Nat.le_trans (below_size HW.zb) hn_))))) (below_size HW.zb)); replace HB := Aside0.mk (below_step HW.zb hb); (try clear hb); (try clear ho0)))
      repeat (go_quiet (fail); try go_wp2)
      go_ret3
      exact ⟨_, rfl, HW.zV HO0.out, HW.zb⟩
  subst c3
  have H1 : (if 4 ≤ (l0.length : Int) then (if ((l0.drop 4).length : Int) < (wrap64 (t125)) then (bsoncore_readstring.j0 k l0 t125 t126 true) else (bsoncore_readstring.j0 k l0 t125 t126 (t125 == 0))) else (none)) = some (r1, r2, r3) := by rw [if_pos rfl] at H; exact H
  clear H; have H := H1; clear H1; have HC4 := Aside0.mk H; clear H
  go_enter Tryz.func111, Tryz.ntmps111
  go_upto_region 4 with (first | (go_at_call 113; (with_reducible refine (bsoncore_ReadLength.calls (fun k_ => (P0_ k_ ∨ w.heap.size ≤ k_)) _ _ l0 t125 t126 true _ ?side1 A2.out).mono ?_); (case side1 => exact HO0.out); rintro e w5 ⟨v127, rfl, ho0, hb⟩; replace HO0 := Aside0.mk (Kd.V_below (HW.zV HO0.out) hb); have HO128 := Aside0.mk (Kd.V_lower (Kd.V_mono (ok' := fun k_ => (P0_ k_ ∨ w.heap.size ≤ k_)) ho0 (fun k_ hk_ => Or.elim hk_ (fun hs_ => hs_) (fun hn_ => (.inr (Nat.le_trans (below_size HW.zb) hn_))))) (below_size HW.zb)); replace HB := Aside0.mk (below_step HW.zb hb); (try clear hb); (try clear ho0)))
  repeat (go_quiet (fail); try go_wp2)
  (try simp only [Act.put, List.setIfInBounds_toArray, List.set_cons_zero, List.set_cons_succ])
  go_cut [26] (fun v26 wc => ∃ (kq : Nat) (x26_3 : Bool), v26 = .bool x26_3 ∧ Aside0 (bsoncore_readstring.j0 kq l0 t125 t126 x26_3 = some (r1, r2, r3)) ∧ Aside0 (kq ≤ k) ∧ Aside0 (Kd.V (Kd.int .u8) 5 wc w.heap.size (fun k_ => (P0_ k_ ∨ w.heap.size ≤ k_)) (.slice A0 l0.length c0) l0) ∧ Aside0 (Kd.V (Kd.int .u8) 5 wc w.heap.size (fun k_ => (P0_ k_ ∨ w.heap.size ≤ k_)) v127 t126) ∧ Aside0 (Below w.heap.size w wc))
  case first =>
    have H := HC4.out; clear HC4
    by_cases c6 : 4 ≤ (l0.length : Int)
    rotate_left
    · rw [if_neg c6] at H
      exact absurd H (by simp)
    rw [if_pos c6] at H; have c6b0 := eq_true c6; have c6b1 : decide (4 ≤ (l0.length : Int)) = true := decide_eq_true c6; clear c6; obtain ⟨y130, hy130⟩ : ∃ y_ : List Int, y_ = (l0.drop 4) := ⟨_, rfl⟩
    replace H : (if (y130.length : Int) < (wrap64 (t125)) then (bsoncore_readstring.j0 k l0 t125 t126 true) else (bsoncore_readstring.j0 k l0 t125 t126 (t125 == 0))) = some (r1, r2, r3) := by (try rw [hy130]); exact HW.rp
    have Ny130 := Aside0.mk hy130; clear hy130
    by_cases c7 : (y130.length : Int) < (wrap64 (t125))
    · rw [if_pos c7] at H
      have c7b0 : decide ((y130.length : Int) < (wrap64 (t125))) = true := decide_eq_true c7; clear c7
      (first | rw [c7b0] | (simp only [i64_w, i32_w]; rw [c7b0]) | skip)
      as_aux_lemma =>
        have H' := Aside0.mk H; clear H
        have q8 : (4 : Int) ≤ ((l0.length : Int) : Int) := HW.od
        obtain ⟨i08, hi08, _, hsz8, _⟩ := info_parts info5; have hroom8 : l0.length ≤ c0 := (Kd.V_reads' HO0.out).2.1; have hC8 : Kd.F (Kd.int .u8) _ _ A0 l0.length l0 := (Kd.V_at (base := w.heap.size) HO0.out).2.2
        have hcut8 := cut_from (P := Tryz.prog) 22 5 .i64 Tryz.underlying22 hi08 1 hsz8 A0 l0.length c0 4 (by omega) q8
        have hr8 := Kd.F_cut (m := (4 : Int).toNat) (c := c0) hC8 (by omega) hroom8
        obtain ⟨A8, hA8⟩ : ∃ A1, A1 = (if c0 = (4 : Int).toNat then A0 else (A0 : Option Addr).map (·.add ((4 : Int).toNat * 1))) := ⟨_, rfl⟩; obtain ⟨c8, hc8⟩ : ∃ c1, c1 = c0 - (4 : Int).toNat := ⟨_, rfl⟩
        have hy8 : y130.length = l0.length - (4 : Int).toNat := (by rw [Ny130.out, List.length_drop] <;> omega)
        rw [show (l0).drop (4 : Int).toNat = y130 from Ny130.out.symm] at hr8
        replace hr8 : Kd.F (Kd.int .u8) _ _ A8 y130.length y130 := (by rw [hA8]; exact hr8)
        rw [← hy8, ← hA8, ← hc8] at hcut8
        have HO134 := Aside0.mk (show Kd.V (Kd.int .u8) 5 _ w.heap.size _ (.slice A8 y130.length c8) y130 from Kd.V_mk (by rw [hy8, hc8]; exact Nat.sub_le_sub_right hroom8 _) hr8)
        have HC134 := Aside0.mk (show y130.length ≤ c8 from by rw [hy8, hc8]; exact Nat.sub_le_sub_right hroom8 _)
        clear hr8 hC8 hroom8 hi08 hsz8 hc8; have KY8 := Aside0.mk hy8; have KA8 := Aside0.mk hA8; clear hy8 hA8; replace q8 := eq_true q8
        go_wp2
        repeat (go_quiet (fail); try go_wp2)
        go_meet
        case rel => exact ⟨_, (true), HW.rs, H', ⟨by first | omega | exact Nat.le_refl _⟩, ⟨HW.zV HO0.out⟩, ⟨HW.zV HO128.out⟩, ⟨HW.zb⟩⟩
    rw [if_neg c7] at H; have c7b0 : decide ((y130.length : Int) < (wrap64 (t125))) = false := decide_eq_false c7; clear c7
    (first | rw [c7b0] | (simp only [i64_w, i32_w]; rw [c7b0]) | skip)
    as_aux_lemma =>
      have H' := Aside0.mk H; clear H
      have q9 : (4 : Int) ≤ ((l0.length : Int) : Int) := HW.od
      obtain ⟨i09, hi09, _, hsz9, _⟩ := info_parts info5; have hroom9 : l0.length ≤ c0 := (Kd.V_reads' HO0.out).2.1; have hC9 : Kd.F (Kd.int .u8) _ _ A0 l0.length l0 := (Kd.V_at (base := w.heap.size) HO0.out).2.2
      have hcut9 := cut_from (P := Tryz.prog) 22 5 .i64 Tryz.underlying22 hi09 1 hsz9 A0 l0.length c0 4 (by omega) q9
      have hr9 := Kd.F_cut (m := (4 : Int).toNat) (c := c0) hC9 (by omega) hroom9
      obtain ⟨A9, hA9⟩ : ∃ A1, A1 = (if c0 = (4 : Int).toNat then A0 else (A0 : Option Addr).map (·.add ((4 : Int).toNat * 1))) := ⟨_, rfl⟩; obtain ⟨c9, hc9⟩ : ∃ c1, c1 = c0 - (4 : Int).toNat := ⟨_, rfl⟩
      have hy9 : y130.length = l0.length - (4 : Int).toNat := (by rw [Ny130.out, List.length_drop] <;> omega)
      rw [show (l0).drop (4 : Int).toNat = y130 from Ny130.out.symm] at hr9
      replace hr9 : Kd.F (Kd.int .u8) _ _ A9 y130.length y130 := (by rw [hA9]; exact hr9)
      rw [← hy9, ← hA9, ← hc9] at hcut9
      have HO134 := Aside0.mk (show Kd.V (Kd.int .u8) 5 _ w.heap.size _ (.slice A9 y130.length c9) y130 from Kd.V_mk (by rw [hy9, hc9]; exact Nat.sub_le_sub_right hroom9 _) hr9)
      have HC134 := Aside0.mk (show y130.length ≤ c9 from by rw [hy9, hc9]; exact Nat.sub_le_sub_right hroom9 _)
      clear hr9 hC9 hroom9 hi09 hsz9 hc9; have KY9 := Aside0.mk hy9; have KA9 := Aside0.mk hA9; clear hy9 hA9; replace q9 := eq_true q9
      go_wp2
      repeat (go_quiet (fail); try go_wp2)
      go_meet
      case rel => exact ⟨_, ((t125 == 0)), HW.rs, H', ⟨by first | omega | exact Nat.le_refl _⟩, ⟨HW.zV HO0.out⟩, ⟨HW.zV HO128.out⟩, ⟨HW.zb⟩⟩
  case rest =>
    clear HC4
    (try clear c1); (try clear p2); (try clear c3); (try clear c6); (try clear c6b0); (try clear c6b1); (try clear p6); (try clear c7); (try clear c7b0); (try clear c8); (try clear q8); (try clear c9); (try clear q9); (try clear q8); (try clear q9)
    obtain ⟨kq, x26_3, rfl, HA, HJ3, HO_0, HO_6, HB⟩ := hcut
    cases kq with
    | zero => exact absurd HA.out (by simp [bsoncore_readstring.j0])
    | succ kj3 =>
      have H := HA.out; clear HA
      simp only [bsoncore_readstring.j0] at H
      by_cases c10 : x26_3 = true
      · subst c10
        have H1 : (some ((⟨#[]⟩ : ByteArray), l0, false)) = some (r1, r2, r3) := by rw [if_pos rfl] at H; exact H
        clear H; have H := H1; clear H1
        as_aux_lemma =>
          simp only [Option.some.injEq, Prod.mk.injEq] at H
          obtain ⟨rfl, rfl, rfl⟩ := H
          go_wp2
          repeat (go_quiet (fail); try go_wp2)
          go_ret3
          exact ⟨_, rfl, HW.zV HO_0.out, HW.zb⟩
      replace c10 := Bool.eq_false_iff.mpr c10; subst c10
      have H1 : (if 0 ≤ (wrap32 (t125 - 1)) then (if (wrap32 (t125 - 1)) ≤ (t126.length : Int) then (if 0 ≤ t125 then (if t125 ≤ (t126.length : Int) then (some (strOfNums (t126.take ((wrap32 (t125 - 1)) : Int).toNat), (t126.drop (t125 : Int).toNat), true)) else (none)) else (none)) else (none)) else (none)) = some (r1, r2, r3) := by rw [if_neg (show ¬ (false = true) by decide)] at H; exact H
      clear H; have H := H1; clear H1; obtain ⟨ji11, hji11⟩ : ∃ j_ : Int, (wrap32 (t125 - 1)) = j_ := ⟨_, rfl⟩
      replace H : (if 0 ≤ (ji11) then (if (ji11) ≤ (t126.length : Int) then (if 0 ≤ t125 then (if t125 ≤ (t126.length : Int) then (some (strOfNums (t126.take ((ji11) : Int).toNat), (t126.drop (t125 : Int).toNat), true)) else (none)) else (none)) else (none)) else (none)) = some (r1, r2, r3) := by first | (rw [hji11] at H; exact H) | (simp only [hji11] at H ⊢; exact H)
      have hji11w : (IntKind.i32.wrap (t125 - 1)) = ji11 := (i32_w _).trans hji11
      by_cases c12 : 0 ≤ (ji11)
      rotate_left
      · rw [if_neg c12] at H
        exact absurd H (by simp)
      rw [if_pos c12] at H; have c12b0 := eq_true c12; have c12b1 : decide (0 ≤ (ji11)) = true := decide_eq_true c12; clear c12
      by_cases c13 : (ji11) ≤ (t126.length : Int)
      rotate_left
      · rw [if_neg c13] at H
        exact absurd H (by simp)
      rw [if_pos c13] at H; have c13b0 := eq_true c13; have c13b1 : decide ((ji11) ≤ (t126.length : Int)) = true := decide_eq_true c13; clear c13; obtain ⟨y135, hy135⟩ : ∃ y_ : List Int, y_ = (t126.take ((ji11) : Int).toNat) := ⟨_, rfl⟩
      replace H : (if 0 ≤ t125 then (if t125 ≤ (t126.length : Int) then (some (strOfNums y135, (t126.drop (t125 : Int).toNat), true)) else (none)) else (none)) = some (r1, r2, r3) := by (try rw [hy135]); exact HW.rp
      have Ny135 := Aside0.mk hy135; clear hy135
      by_cases c14 : 0 ≤ t125
      rotate_left
      · rw [if_neg c14] at H
        exact absurd H (by simp)
      rw [if_pos c14] at H; have c14b0 := eq_true c14; have c14b1 : decide (0 ≤ t125) = true := decide_eq_true c14; clear c14
      by_cases c15 : t125 ≤ (t126.length : Int)
      rotate_left
      · rw [if_neg c15] at H
        exact absurd H (by simp)
      rw [if_pos c15] at H; have c15b0 := eq_true c15; have c15b1 : decide (t125 ≤ (t126.length : Int)) = true := decide_eq_true c15; clear c15; obtain ⟨y140, hy140⟩ : ∃ y_ : List Int, y_ = (t126.drop (t125 : Int).toNat) := ⟨_, rfl⟩
      replace H : (some (strOfNums y135, y140, true)) = some (r1, r2, r3) := by (try rw [hy140]); exact HW.rp
      have Ny140 := Aside0.mk hy140; clear hy140
      as_aux_lemma =>
        simp only [Option.some.injEq, Prod.mk.injEq] at H
        obtain ⟨rfl, rfl, rfl⟩ := H; obtain ⟨Ao17, co17, eo17⟩ := Kd.V_slice HO_6.out; subst eo17
        have q16 : ((ji11) : Int) ≤ ((t126.length : Int) : Int) := HW.od
        obtain ⟨i016, hi016, _, hsz16, _⟩ := info_parts info5; have hroom16 : t126.length ≤ co17 := (Kd.V_reads' HO_6.out).2.1; have hC16 : Kd.F (Kd.int .u8) _ _ Ao17 t126.length t126 := (Kd.V_at (base := w.heap.size) HO_6.out).2.2
        have hcut16 := cut_to (P := Tryz.prog) 22 5 .i32 Tryz.underlying22 hi016 Ao17 t126.length co17 (ji11) (HW.od) q16 hroom16
        have hr16 := Kd.F_take (m := ((ji11) : Int).toNat) hC16 (by omega)
        have hy16 : y135.length = ((ji11) : Int).toNat := (by rw [Ny135.out, List.length_take]; omega)
        rw [← Ny135.out] at hr16; rw [← hy16] at hcut16
        have HO139 := Aside0.mk (show Kd.V (Kd.int .u8) 5 _ w.heap.size _ (.slice Ao17 y135.length co17) y135 from Kd.V_mk (by omega) hr16)
        have HC139 := Aside0.mk (show y135.length ≤ co17 from by omega)
        clear hr16 hC16 hroom16 hi016 hsz16; have KY16 := Aside0.mk hy16; clear hy16; replace q16 := eq_true q16; have hcv18 := HW.V_string (P := Tryz.prog) Tryz.underlying22 Tryz.underlying5 Tryz.underlying9 (HO139.out); have hcv19 := fun m_ : Nat => HW.V_string (P := Tryz.prog) Tryz.underlying22 Tryz.underlying5 Tryz.underlying9 (Kd.V_below HO139.out (pw_below_drewN (Below.refl _ _) m_))
        have q20 : (t125 : Int) ≤ ((t126.length : Int) : Int) := HW.od
        obtain ⟨i020, hi020, _, hsz20, _⟩ := info_parts info5; have hroom20 : t126.length ≤ co17 := (Kd.V_reads' HO_6.out).2.1; have hC20 : Kd.F (Kd.int .u8) _ _ Ao17 t126.length t126 := (Kd.V_at (base := w.heap.size) HO_6.out).2.2
        have q020 : (0 : Int) ≤ (t125 : Int) := HW.od
        have hcut20 := cut_from (P := Tryz.prog) 22 5 .i32 Tryz.underlying22 hi020 1 hsz20 Ao17 t126.length co17 t125 q020 q20
        have hr20 := Kd.F_cut (m := (t125 : Int).toNat) (c := co17) hC20 (by omega) hroom20
        obtain ⟨A20, hA20⟩ : ∃ A1, A1 = (if co17 = (t125 : Int).toNat then Ao17 else (Ao17 : Option Addr).map (·.add ((t125 : Int).toNat * 1))) := ⟨_, rfl⟩; obtain ⟨c20, hc20⟩ : ∃ c1, c1 = co17 - (t125 : Int).toNat := ⟨_, rfl⟩
        have hy20 : y140.length = t126.length - (t125 : Int).toNat := (by rw [Ny140.out, List.length_drop] <;> omega)
        rw [show (t126).drop (t125 : Int).toNat = y140 from Ny140.out.symm] at hr20
        replace hr20 : Kd.F (Kd.int .u8) _ _ A20 y140.length y140 := (by rw [hA20]; exact hr20)
        rw [← hy20, ← hA20, ← hc20] at hcut20
        have HO144 := Aside0.mk (show Kd.V (Kd.int .u8) 5 _ w.heap.size _ (.slice A20 y140.length c20) y140 from Kd.V_mk (by rw [hy20, hc20]; exact Nat.sub_le_sub_right hroom20 _) hr20)
        have HC144 := Aside0.mk (show y140.length ≤ c20 from by rw [hy20, hc20]; exact Nat.sub_le_sub_right hroom20 _)
        clear hr20 hC20 hroom20 hi020 hsz20 hc20; have KY20 := Aside0.mk hy20; have KA20 := Aside0.mk hA20; clear hy20 hA20; replace q20 := eq_true q20
        go_wp2
        repeat (go_quiet (fail); try go_wp2)
        go_ret3
        exact ⟨_, by first | rfl | (simp [errW_none, errW_some] <;> rfl) | (simp only [← hji11]; first | rfl | (simp [errW_none, errW_some] <;> rfl)) | (simp [*, errW_none, errW_some] <;> rfl), HW.zV HO144.out, HW.zb⟩
def bsoncore_ReadString.f (k : Nat) (l0 : List Int) : Option (ByteArray × List Int × Bool) := (bsoncore_readstring.f k l0).bind fun bt145 => (some (bt145.1, bt145.2.1, bt145.2.2))
theorem bsoncore_ReadString.mono : ∀ a0 k, LeO (bsoncore_ReadString.f k a0) (bsoncore_ReadString.f (k + 1) a0) := by
  intro a0 k
  unfold bsoncore_ReadString.f
  have m0_ := @bsoncore_readstring.mono; exact HW.mo
theorem bsoncore_ReadString.calls (k : Nat) (P0_ : Nat → Prop) (A0 : Option Addr) (c0 : Nat) (l0 : List Int) (r1 : ByteArray) (r2 : List Int) (r3 : Bool) (w : World) (hs0 : Kd.V (Kd.int .u8) 5 w w.heap.size (fun k_ => P0_ k_) (.slice A0 l0.length c0) l0) (h : bsoncore_ReadString.f k l0 = some (r1, r2, r3)) :
    Calls Tryz.prog 72 #[.slice A0 l0.length c0] w fun e w' => ∃ v1_ : Value, e = .returned (.tuple #[.string r1, v1_, .bool r3]) ∧ Kd.V (Kd.int .u8) 5 w' w.heap.size (fun k_ => (P0_ k_ ∨ w.heap.size ≤ k_)) v1_ r2 ∧ Below w.heap.size w w' := by
  have HO0 := Aside0.mk (show Kd.V (Kd.int .u8) 5 w w.heap.size (fun k_ => (P0_ k_ ∨ w.heap.size ≤ k_)) (.slice A0 l0.length c0) l0 from Kd.V_mono hs0 (fun k_ hk => .inl hk)); have HB := Aside0.mk (Below.refl w.heap.size w); have H : ((bsoncore_readstring.f k l0).bind fun bt145 => (some (bt145.1, bt145.2.1, bt145.2.2))) = some (r1, r2, r3) := h; clear h; replace H := Option.bind_eq_some_iff.mp H; obtain ⟨⟨t145, t146, t149⟩, A20, H⟩ := H; replace H : (some (t145, t146, t149)) = some (r1, r2, r3) := H; have A2 := Aside0.mk A20; clear A20
  as_aux_lemma =>
    simp only [Option.some.injEq, Prod.mk.injEq] at H
    obtain ⟨rfl, rfl, rfl⟩ := H
    go_enter Tryz.func72, Tryz.ntmps72
    go_wp2_with (first | ((with_reducible refine gate_callee (f := 111) rfl ?_); refine HW.gz (some 6) rfl rfl Tryz.func111 (by kernel_rfl) rfl #[.slice A0 l0.length c0] rfl ?_; (with_reducible refine (bsoncore_readstring.calls k (fun k_ => (P0_ k_ ∨ w.heap.size ≤ k_)) _ _ l0 t145 t146 t149 _ ?side1 A2.out).mono ?_); (case side1 => exact HO0.out); rintro e w3 ⟨v147, rfl, ho0, hb⟩; refine ⟨_, rfl, ?_⟩; have HO148 := Aside0.mk (Kd.V_lower (Kd.V_mono (ok' := fun k_ => (P0_ k_ ∨ w.heap.size ≤ k_)) ho0 (fun k_ hk_ => Or.elim hk_ (fun hs_ => hs_) (fun hn_ => (.inr (Nat.le_trans (below_size HW.zb) hn_))))) (below_size HW.zb)); replace HB := Aside0.mk (below_step HW.zb hb); (try clear hb); (try clear ho0)))
    go_ret3
    exact ⟨_, rfl, HW.zV HO148.out, HW.zb⟩
def bsoncore_readLengthBytes.f (l0 : List Int) : Option (List Int × List Int × Bool) := (bsoncore_ReadLength.f l0).bind fun bt150 => (if bt150.2.2 = true then (if bt150.1 < 4 then (some (([] : List Int), l0, false)) else (if (l0.length : Int) < (wrap64 (bt150.1)) then (some (([] : List Int), l0, false)) else (none))) else (some (([] : List Int), l0, false)))
theorem bsoncore_readLengthBytes.calls (P0_ : Nat → Prop) (A0 : Option Addr) (c0 : Nat) (l0 : List Int) (r1 : List Int) (r2 : List Int) (r3 : Bool) (w : World) (hs0 : Kd.V (Kd.int .u8) 5 w w.heap.size (fun k_ => P0_ k_) (.slice A0 l0.length c0) l0) (h : bsoncore_readLengthBytes.f l0 = some (r1, r2, r3)) :
    Calls Tryz.prog 112 #[.slice A0 l0.length c0] w fun e w' => ∃ v0_ v1_ : Value, e = .returned (.tuple #[v0_, v1_, .bool r3]) ∧ Kd.R (Kd.int .u8) 5 w' w.heap.size (fun k_ => (w.heap.size ≤ k_)) v0_ r1 ∧ Kd.V (Kd.int .u8) 5 w' w.heap.size (fun k_ => (P0_ k_ ∨ w.heap.size ≤ k_) ∧ some k_ ≠ (v0_ : Value).ownBlock) v1_ r2 ∧ Below w.heap.size w w' := by
  have HO0 := Aside0.mk (show Kd.V (Kd.int .u8) 5 w w.heap.size (fun k_ => (P0_ k_ ∨ w.heap.size ≤ k_)) (.slice A0 l0.length c0) l0 from Kd.V_mono hs0 (fun k_ hk => .inl hk)); have HB := Aside0.mk (Below.refl w.heap.size w); have H : ((bsoncore_ReadLength.f l0).bind fun bt150 => (if bt150.2.2 = true then (if bt150.1 < 4 then (some (([] : List Int), l0, false)) else (if (l0.length : Int) < (wrap64 (bt150.1)) then (some (([] : List Int), l0, false)) else (none))) else (some (([] : List Int), l0, false)))) = some (r1, r2, r3) := h; clear h; replace H := Option.bind_eq_some_iff.mp H; obtain ⟨⟨t150, t151, t154⟩, A20, H⟩ := H; replace H : (if t154 = true then (if t150 < 4 then (some (([] : List Int), l0, false)) else (if (l0.length : Int) < (wrap64 (t150)) then (some (([] : List Int), l0, false)) else (none))) else (some (([] : List Int), l0, false))) = some (r1, r2, r3) := H; have A2 := Aside0.mk A20; clear A20
  by_cases c3 : t154 = true
  rotate_left
  · replace c3 := Bool.eq_false_iff.mpr c3
    subst c3
    have H1 : (some (([] : List Int), l0, false)) = some (r1, r2, r3) := by rw [if_neg (show ¬ (false = true) by decide)] at H; exact H
    clear H; have H := H1; clear H1
    as_aux_lemma =>
      simp only [Option.some.injEq, Prod.mk.injEq] at H
      obtain ⟨rfl, rfl, rfl⟩ := H
      go_enter Tryz.func112, Tryz.ntmps112
      go_wp2_with (first | (go_at_call 113; (with_reducible refine (bsoncore_ReadLength.calls (fun k_ => (P0_ k_ ∨ w.heap.size ≤ k_)) _ _ l0 t150 t151 false _ ?side1 A2.out).mono ?_); (case side1 => exact HO0.out); rintro e w8 ⟨v152, rfl, ho0, hb⟩; replace HO0 := Aside0.mk (Kd.V_below (HW.zV HO0.out) hb); replace HB := Aside0.mk (below_step HW.zb hb); (try clear hb); (try clear ho0)))
      repeat (go_quiet (fail); try go_wp2)
      go_ret3
      exact ⟨_, _, rfl, by first | exact Kd.R_nil _ _ _ _ _ | exact Kd.N_nil _ _ _ _ _ | exact Kd.V_nil _ _ _ _ _ | exact Kd.Q_nil _ _ _ _ _ | exact Kd.S_nil _ _ _ _ _, by (with_reducible repeat (first | apply Kd.V_alloc | apply Kd.V_drewN | apply Kd.V_drew)); exact Kd.V_mono HO0.out (fun _ hk => ⟨hk, (by simp [Value.ownBlock])⟩), HW.zb⟩
  subst c3
  have H1 : (if t150 < 4 then (some (([] : List Int), l0, false)) else (if (l0.length : Int) < (wrap64 (t150)) then (some (([] : List Int), l0, false)) else (none))) = some (r1, r2, r3) := by rw [if_pos rfl] at H; exact H
  clear H; have H := H1; clear H1
  by_cases c4 : t150 < 4
  · rw [if_pos c4] at H
    have c4b0 : decide (t150 < 4) = true := decide_eq_true c4; clear c4
    as_aux_lemma =>
      simp only [Option.some.injEq, Prod.mk.injEq] at H
      obtain ⟨rfl, rfl, rfl⟩ := H
      go_enter Tryz.func112, Tryz.ntmps112
      go_wp2_with (first | (go_at_call 113; (with_reducible refine (bsoncore_ReadLength.calls (fun k_ => (P0_ k_ ∨ w.heap.size ≤ k_)) _ _ l0 t150 t151 true _ ?side1 A2.out).mono ?_); (case side1 => exact HO0.out); rintro e w5 ⟨v152, rfl, ho0, hb⟩; replace HO0 := Aside0.mk (Kd.V_below (HW.zV HO0.out) hb); replace HB := Aside0.mk (below_step HW.zb hb); (try clear hb); (try clear ho0)))
      repeat (go_quiet (fail); try go_wp2)
      go_ret3
      exact ⟨_, _, rfl, by first | exact Kd.R_nil _ _ _ _ _ | exact Kd.N_nil _ _ _ _ _ | exact Kd.V_nil _ _ _ _ _ | exact Kd.Q_nil _ _ _ _ _ | exact Kd.S_nil _ _ _ _ _, by (with_reducible repeat (first | apply Kd.V_alloc | apply Kd.V_drewN | apply Kd.V_drew)); exact Kd.V_mono HO0.out (fun _ hk => ⟨hk, (by simp [Value.ownBlock])⟩), HW.zb⟩
  rw [if_neg c4] at H; have c4b0 : decide (t150 < 4) = false := decide_eq_false c4; clear c4
  by_cases c6 : (l0.length : Int) < (wrap64 (t150))
  rotate_left
  · rw [if_neg c6] at H
    exact absurd H (by simp)
  rw [if_pos c6] at H; have c6b0 : decide ((l0.length : Int) < (wrap64 (t150))) = true := decide_eq_true c6; clear c6
  as_aux_lemma =>
    simp only [Option.some.injEq, Prod.mk.injEq] at H
    obtain ⟨rfl, rfl, rfl⟩ := H
    go_enter Tryz.func112, Tryz.ntmps112
    go_wp2_with (first | (go_at_call 113; (with_reducible refine (bsoncore_ReadLength.calls (fun k_ => (P0_ k_ ∨ w.heap.size ≤ k_)) _ _ l0 t150 t151 true _ ?side1 A2.out).mono ?_); (case side1 => exact HO0.out); rintro e w7 ⟨v152, rfl, ho0, hb⟩; replace HO0 := Aside0.mk (Kd.V_below (HW.zV HO0.out) hb); replace HB := Aside0.mk (below_step HW.zb hb); (try clear hb); (try clear ho0)))
    repeat (go_quiet (fail); try go_wp2)
    go_ret3
    exact ⟨_, _, rfl, by first | exact Kd.R_nil _ _ _ _ _ | exact Kd.N_nil _ _ _ _ _ | exact Kd.V_nil _ _ _ _ _ | exact Kd.Q_nil _ _ _ _ _ | exact Kd.S_nil _ _ _ _ _, by (with_reducible repeat (first | apply Kd.V_alloc | apply Kd.V_drewN | apply Kd.V_drew)); exact Kd.V_mono HO0.out (fun _ hk => ⟨hk, (by simp [Value.ownBlock])⟩), HW.zb⟩
def bsoncore_ReadDocument.f (l0 : List Int) : Option (List Int × List Int × Bool) := (bsoncore_readLengthBytes.f l0).bind fun bt155 => (some (bt155.1, bt155.2.1, bt155.2.2))
theorem bsoncore_ReadDocument.calls (P0_ : Nat → Prop) (A0 : Option Addr) (c0 : Nat) (l0 : List Int) (r1 : List Int) (r2 : List Int) (r3 : Bool) (w : World) (hs0 : Kd.V (Kd.int .u8) 5 w w.heap.size (fun k_ => P0_ k_) (.slice A0 l0.length c0) l0) (h : bsoncore_ReadDocument.f l0 = some (r1, r2, r3)) :
    Calls Tryz.prog 73 #[.slice A0 l0.length c0] w fun e w' => ∃ v0_ v1_ : Value, e = .returned (.tuple #[v0_, v1_, .bool r3]) ∧ Kd.R (Kd.int .u8) 5 w' w.heap.size (fun k_ => (w.heap.size ≤ k_)) v0_ r1 ∧ Kd.V (Kd.int .u8) 5 w' w.heap.size (fun k_ => (P0_ k_ ∨ w.heap.size ≤ k_) ∧ some k_ ≠ (v0_ : Value).ownBlock) v1_ r2 ∧ Below w.heap.size w w' := by
  have HO0 := Aside0.mk (show Kd.V (Kd.int .u8) 5 w w.heap.size (fun k_ => (P0_ k_ ∨ w.heap.size ≤ k_)) (.slice A0 l0.length c0) l0 from Kd.V_mono hs0 (fun k_ hk => .inl hk)); have HB := Aside0.mk (Below.refl w.heap.size w); have H : ((bsoncore_readLengthBytes.f l0).bind fun bt155 => (some (bt155.1, bt155.2.1, bt155.2.2))) = some (r1, r2, r3) := h; clear h; replace H := Option.bind_eq_some_iff.mp H; obtain ⟨⟨t155, t158, t161⟩, A20, H⟩ := H; replace H : (some (t155, t158, t161)) = some (r1, r2, r3) := H; have A2 := Aside0.mk A20; clear A20
  as_aux_lemma =>
    simp only [Option.some.injEq, Prod.mk.injEq] at H
    obtain ⟨rfl, rfl, rfl⟩ := H
    go_enter Tryz.func73, Tryz.ntmps73
    go_wp2_with (first | ((with_reducible refine gate_callee (f := 112) rfl ?_); refine HW.gz (some 6) rfl rfl Tryz.func112 (by kernel_rfl) rfl #[.slice A0 l0.length c0] rfl ?_; (with_reducible refine (bsoncore_readLengthBytes.calls (fun k_ => (P0_ k_ ∨ w.heap.size ≤ k_)) _ _ l0 t155 t158 t161 _ ?side1 A2.out).mono ?_); (case side1 => exact HO0.out); rintro e w3 ⟨v156, v159, rfl, ho0, ho1, hb⟩; refine ⟨_, rfl, ?_⟩; have HO157 := Aside0.mk (Kd.R_lower (Kd.R_newM (M := fun k_ => (w.heap.size ≤ k_)) (Kd.R_mono (ok' := fun k_ => True) ho0 (fun _ hk_ => trivial)) (below_size HW.zb) (fun k_ h_ => h_)) (below_size HW.zb)); have HO160 := Aside0.mk (Kd.V_lower (Kd.V_mono (ok' := fun k_ => (P0_ k_ ∨ w.heap.size ≤ k_) ∧ some k_ ≠ (v156 : Value).ownBlock) ho1 (fun k_ hk_ => ⟨Or.elim hk_.1 (fun hs_ => hs_) (fun hn_ => (.inr (Nat.le_trans (below_size HW.zb) hn_))), hk_.2⟩)) (below_size HW.zb)); replace HB := Aside0.mk (below_step HW.zb hb); (try clear hb); (try clear ho0); (try clear ho1)))
    go_ret3
    exact ⟨_, _, rfl, by (with_reducible repeat (first | apply Kd.R_alloc | apply Kd.R_drewN | apply Kd.R_drew)); exact Kd.R_mono HO157.out (fun _ hk => hk.1), HW.zV HO160.out, HW.zb⟩
def bsoncore_ReadArray.f (l0 : List Int) : Option (List Int × List Int × Bool) := (bsoncore_readLengthBytes.f l0).bind fun bt162 => (some (bt162.1, bt162.2.1, bt162.2.2))
theorem bsoncore_ReadArray.calls (P0_ : Nat → Prop) (A0 : Option Addr) (c0 : Nat) (l0 : List Int) (r1 : List Int) (r2 : List Int) (r3 : Bool) (w : World) (hs0 : Kd.V (Kd.int .u8) 5 w w.heap.size (fun k_ => P0_ k_) (.slice A0 l0.length c0) l0) (h : bsoncore_ReadArray.f l0 = some (r1, r2, r3)) :
    Calls Tryz.prog 74 #[.slice A0 l0.length c0] w fun e w' => ∃ v0_ v1_ : Value, e = .returned (.tuple #[v0_, v1_, .bool r3]) ∧ Kd.R (Kd.int .u8) 5 w' w.heap.size (fun k_ => (w.heap.size ≤ k_)) v0_ r1 ∧ Kd.V (Kd.int .u8) 5 w' w.heap.size (fun k_ => (P0_ k_ ∨ w.heap.size ≤ k_) ∧ some k_ ≠ (v0_ : Value).ownBlock) v1_ r2 ∧ Below w.heap.size w w' := by
  have HO0 := Aside0.mk (show Kd.V (Kd.int .u8) 5 w w.heap.size (fun k_ => (P0_ k_ ∨ w.heap.size ≤ k_)) (.slice A0 l0.length c0) l0 from Kd.V_mono hs0 (fun k_ hk => .inl hk)); have HB := Aside0.mk (Below.refl w.heap.size w); have H : ((bsoncore_readLengthBytes.f l0).bind fun bt162 => (some (bt162.1, bt162.2.1, bt162.2.2))) = some (r1, r2, r3) := h; clear h; replace H := Option.bind_eq_some_iff.mp H; obtain ⟨⟨t162, t165, t168⟩, A20, H⟩ := H; replace H : (some (t162, t165, t168)) = some (r1, r2, r3) := H; have A2 := Aside0.mk A20; clear A20
  as_aux_lemma =>
    simp only [Option.some.injEq, Prod.mk.injEq] at H
    obtain ⟨rfl, rfl, rfl⟩ := H
    go_enter Tryz.func74, Tryz.ntmps74
    go_wp2_with (first | ((with_reducible refine gate_callee (f := 112) rfl ?_); refine HW.gz (some 6) rfl rfl Tryz.func112 (by kernel_rfl) rfl #[.slice A0 l0.length c0] rfl ?_; (with_reducible refine (bsoncore_readLengthBytes.calls (fun k_ => (P0_ k_ ∨ w.heap.size ≤ k_)) _ _ l0 t162 t165 t168 _ ?side1 A2.out).mono ?_); (case side1 => exact HO0.out); rintro e w3 ⟨v163, v166, rfl, ho0, ho1, hb⟩; refine ⟨_, rfl, ?_⟩; have HO164 := Aside0.mk (Kd.R_lower (Kd.R_newM (M := fun k_ => (w.heap.size ≤ k_)) (Kd.R_mono (ok' := fun k_ => True) ho0 (fun _ hk_ => trivial)) (below_size HW.zb) (fun k_ h_ => h_)) (below_size HW.zb)); have HO167 := Aside0.mk (Kd.V_lower (Kd.V_mono (ok' := fun k_ => (P0_ k_ ∨ w.heap.size ≤ k_) ∧ some k_ ≠ (v163 : Value).ownBlock) ho1 (fun k_ hk_ => ⟨Or.elim hk_.1 (fun hs_ => hs_) (fun hn_ => (.inr (Nat.le_trans (below_size HW.zb) hn_))), hk_.2⟩)) (below_size HW.zb)); replace HB := Aside0.mk (below_step HW.zb hb); (try clear hb); (try clear ho0); (try clear ho1)))
    go_ret3
    exact ⟨_, _, rfl, by (with_reducible repeat (first | apply Kd.R_alloc | apply Kd.R_drewN | apply Kd.R_drew)); exact Kd.R_mono HO164.out (fun _ hk => hk.1), HW.zV HO167.out, HW.zb⟩
def bsoncore_ReadBinary.f (l0 : List Int) : Option (Int × List Int × List Int × Bool) := (bsoncore_ReadLength.f l0).bind fun bt169 => (if bt169.2.2 = true then (if (bt169.2.1.length : Int) < 1 then (some (0, ([] : List Int), l0, false)) else (if 0 < (bt169.2.1.length : Int) then (if 1 ≤ (bt169.2.1.length : Int) then (if ((bt169.2.1.drop 1).length : Int) < (wrap64 (bt169.1)) then (some (0, ([] : List Int), l0, false)) else (none)) else (none)) else (none))) else (some (0, ([] : List Int), l0, false)))
theorem bsoncore_ReadBinary.calls (P0_ : Nat → Prop) (A0 : Option Addr) (c0 : Nat) (l0 : List Int) (r1 : Int) (r2 : List Int) (r3 : List Int) (r4 : Bool) (w : World) (hs0 : Kd.V (Kd.int .u8) 5 w w.heap.size (fun k_ => P0_ k_) (.slice A0 l0.length c0) l0) (h : bsoncore_ReadBinary.f l0 = some (r1, r2, r3, r4)) :
    Calls Tryz.prog 75 #[.slice A0 l0.length c0] w fun e w' => ∃ v1_ v2_ : Value, e = .returned (.tuple #[.int .u8 r1, v1_, v2_, .bool r4]) ∧ Kd.R (Kd.int .u8) 5 w' w.heap.size (fun k_ => (w.heap.size ≤ k_)) v1_ r2 ∧ Kd.V (Kd.int .u8) 5 w' w.heap.size (fun k_ => (P0_ k_ ∨ w.heap.size ≤ k_) ∧ some k_ ≠ (v1_ : Value).ownBlock) v2_ r3 ∧ Below w.heap.size w w' := by
  have HO0 := Aside0.mk (show Kd.V (Kd.int .u8) 5 w w.heap.size (fun k_ => (P0_ k_ ∨ w.heap.size ≤ k_)) (.slice A0 l0.length c0) l0 from Kd.V_mono hs0 (fun k_ hk => .inl hk)); have HB := Aside0.mk (Below.refl w.heap.size w); have H : ((bsoncore_ReadLength.f l0).bind fun bt169 => (if bt169.2.2 = true then (if (bt169.2.1.length : Int) < 1 then (some (0, ([] : List Int), l0, false)) else (if 0 < (bt169.2.1.length : Int) then (if 1 ≤ (bt169.2.1.length : Int) then (if ((bt169.2.1.drop 1).length : Int) < (wrap64 (bt169.1)) then (some (0, ([] : List Int), l0, false)) else (none)) else (none)) else (none))) else (some (0, ([] : List Int), l0, false)))) = some (r1, r2, r3, r4) := h; clear h; replace H := Option.bind_eq_some_iff.mp H; obtain ⟨⟨t169, t170, t173⟩, A20, H⟩ := H; replace H : (if t173 = true then (if (t170.length : Int) < 1 then (some (0, ([] : List Int), l0, false)) else (if 0 < (t170.length : Int) then (if 1 ≤ (t170.length : Int) then (if ((t170.drop 1).length : Int) < (wrap64 (t169)) then (some (0, ([] : List Int), l0, false)) else (none)) else (none)) else (none))) else (some (0, ([] : List Int), l0, false))) = some (r1, r2, r3, r4) := H; have A2 := Aside0.mk A20; clear A20
  by_cases c3 : t173 = true
  rotate_left
  · replace c3 := Bool.eq_false_iff.mpr c3
    subst c3
    have H1 : (some (0, ([] : List Int), l0, false)) = some (r1, r2, r3, r4) := by rw [if_neg (show ¬ (false = true) by decide)] at H; exact H
    clear H; have H := H1; clear H1
    as_aux_lemma =>
      simp only [Option.some.injEq, Prod.mk.injEq] at H
      obtain ⟨rfl, rfl, rfl, rfl⟩ := H
      go_enter Tryz.func75, Tryz.ntmps75
      go_wp2_with (first | (go_at_call 113; (with_reducible refine (bsoncore_ReadLength.calls (fun k_ => (P0_ k_ ∨ w.heap.size ≤ k_)) _ _ l0 t169 t170 false _ ?side1 A2.out).mono ?_); (case side1 => exact HO0.out); rintro e w13 ⟨v171, rfl, ho0, hb⟩; replace HO0 := Aside0.mk (Kd.V_below (HW.zV HO0.out) hb); have HO172 := Aside0.mk (Kd.V_lower (Kd.V_mono (ok' := fun k_ => (P0_ k_ ∨ w.heap.size ≤ k_)) ho0 (fun k_ hk_ => Or.elim hk_ (fun hs_ => hs_) (fun hn_ => (.inr (Nat.le_trans (below_size HW.zb) hn_))))) (below_size HW.zb)); replace HB := Aside0.mk (below_step HW.zb hb); (try clear hb); (try clear ho0)))
      repeat (go_quiet (fail); try go_wp2)
      refine bodyPost_ret (results_list (rs := [.tmp 2, .tmp 3, .tmp 4, .tmp 5]) rfl (by simp) (.tmp (.tmp (.tmp (.tmp .nil))))) rfl ?_
      exact ⟨_, _, rfl, by first | exact Kd.R_nil _ _ _ _ _ | exact Kd.N_nil _ _ _ _ _ | exact Kd.V_nil _ _ _ _ _ | exact Kd.Q_nil _ _ _ _ _ | exact Kd.S_nil _ _ _ _ _, by (with_reducible repeat (first | apply Kd.V_alloc | apply Kd.V_drewN | apply Kd.V_drew)); exact Kd.V_mono HO0.out (fun _ hk => ⟨hk, (by simp [Value.ownBlock])⟩), HW.zb⟩
  subst c3
  have H1 : (if (t170.length : Int) < 1 then (some (0, ([] : List Int), l0, false)) else (if 0 < (t170.length : Int) then (if 1 ≤ (t170.length : Int) then (if ((t170.drop 1).length : Int) < (wrap64 (t169)) then (some (0, ([] : List Int), l0, false)) else (none)) else (none)) else (none))) = some (r1, r2, r3, r4) := by rw [if_pos rfl] at H; exact H
  clear H; have H := H1; clear H1
  by_cases c4 : (t170.length : Int) < 1
  · rw [if_pos c4] at H
    have c4b0 : decide ((t170.length : Int) < 1) = true := decide_eq_true c4
    have c4b1 : decide (t170.length < 1) = true := decide_eq_true (by omega)
    clear c4
    as_aux_lemma =>
      simp only [Option.some.injEq, Prod.mk.injEq] at H
      obtain ⟨rfl, rfl, rfl, rfl⟩ := H
      go_enter Tryz.func75, Tryz.ntmps75
      go_wp2_with (first | (go_at_call 113; (with_reducible refine (bsoncore_ReadLength.calls (fun k_ => (P0_ k_ ∨ w.heap.size ≤ k_)) _ _ l0 t169 t170 true _ ?side1 A2.out).mono ?_); (case side1 => exact HO0.out); rintro e w5 ⟨v171, rfl, ho0, hb⟩; replace HO0 := Aside0.mk (Kd.V_below (HW.zV HO0.out) hb); have HO172 := Aside0.mk (Kd.V_lower (Kd.V_mono (ok' := fun k_ => (P0_ k_ ∨ w.heap.size ≤ k_)) ho0 (fun k_ hk_ => Or.elim hk_ (fun hs_ => hs_) (fun hn_ => (.inr (Nat.le_trans (below_size HW.zb) hn_))))) (below_size HW.zb)); replace HB := Aside0.mk (below_step HW.zb hb); (try clear hb); (try clear ho0); obtain ⟨Ao6, co6, eo6⟩ := Kd.V_slice HO172.out; subst eo6))
      repeat (go_quiet (fail); try go_wp2)
      refine bodyPost_ret (results_list (rs := [.tmp 2, .tmp 3, .tmp 4, .tmp 5]) rfl (by simp) (.tmp (.tmp (.tmp (.tmp .nil))))) rfl ?_
      exact ⟨_, _, rfl, by first | exact Kd.R_nil _ _ _ _ _ | exact Kd.N_nil _ _ _ _ _ | exact Kd.V_nil _ _ _ _ _ | exact Kd.Q_nil _ _ _ _ _ | exact Kd.S_nil _ _ _ _ _, by (with_reducible repeat (first | apply Kd.V_alloc | apply Kd.V_drewN | apply Kd.V_drew)); exact Kd.V_mono HO0.out (fun _ hk => ⟨hk, (by simp [Value.ownBlock])⟩), HW.zb⟩
  rw [if_neg c4] at H; have c4b0 : decide ((t170.length : Int) < 1) = false := decide_eq_false c4
  have c4b1 : decide (t170.length < 1) = false := decide_eq_false (by omega)
  clear c4
  by_cases c7 : 0 < (t170.length : Int)
  rotate_left
  · rw [if_neg c7] at H
    exact absurd H (by simp)
  rw [if_pos c7] at H; have c7b0 : decide (0 < (t170.length : Int)) = true := decide_eq_true c7
  have c7b1 : decide (0 < t170.length) = true := decide_eq_true (by omega)
  clear c7
  by_cases c8 : 1 ≤ (t170.length : Int)
  rotate_left
  · rw [if_neg c8] at H
    exact absurd H (by simp)
  rw [if_pos c8] at H; have c8b0 := eq_true c8; have c8b1 : decide (1 ≤ (t170.length : Int)) = true := decide_eq_true c8; clear c8; obtain ⟨y175, hy175⟩ : ∃ y_ : List Int, y_ = (t170.drop 1) := ⟨_, rfl⟩
  replace H : (if (y175.length : Int) < (wrap64 (t169)) then (some (0, ([] : List Int), l0, false)) else (none)) = some (r1, r2, r3, r4) := by (try rw [hy175]); exact HW.rp
  have Ny175 := Aside0.mk hy175; clear hy175
  by_cases c9 : (y175.length : Int) < (wrap64 (t169))
  rotate_left
  · rw [if_neg c9] at H
    exact absurd H (by simp)
  rw [if_pos c9] at H; have c9b0 : decide ((y175.length : Int) < (wrap64 (t169))) = true := decide_eq_true c9; clear c9
  as_aux_lemma =>
    simp only [Option.some.injEq, Prod.mk.injEq] at H
    obtain ⟨rfl, rfl, rfl, rfl⟩ := H
    go_enter Tryz.func75, Tryz.ntmps75
    go_wp2_with (first | (go_at_call 113; (with_reducible refine (bsoncore_ReadLength.calls (fun k_ => (P0_ k_ ∨ w.heap.size ≤ k_)) _ _ l0 t169 t170 true _ ?side1 A2.out).mono ?_); (case side1 => exact HO0.out); rintro e w10 ⟨v171, rfl, ho0, hb⟩; replace HO0 := Aside0.mk (Kd.V_below (HW.zV HO0.out) hb); have HO172 := Aside0.mk (Kd.V_lower (Kd.V_mono (ok' := fun k_ => (P0_ k_ ∨ w.heap.size ≤ k_)) ho0 (fun k_ hk_ => Or.elim hk_ (fun hs_ => hs_) (fun hn_ => (.inr (Nat.le_trans (below_size HW.zb) hn_))))) (below_size HW.zb)); replace HB := Aside0.mk (below_step HW.zb hb); (try clear hb); (try clear ho0); obtain ⟨Ao11, co11, eo11⟩ := Kd.V_slice HO172.out; subst eo11; have p174 : 0 ≤ (0 : Int) := (by omega); have q174 : 0 < (t170.length : Int) := HW.od; obtain ⟨ad174, e174, hx174_0⟩ := Kd.at_int (Kd.V_reads' HO172.out).2.2 0 p174 q174; cases e174; have qi174 : (0 < t170.length) = True := eq_true (by omega); (try rw [show ((0 : Int)).toNat = 0 from rfl] at hx174_0); (try rw [Addr.add_zero'] at hx174_0); replace p174 := eq_true p174; replace q174 := eq_true q174; have q12 : (1 : Int) ≤ ((t170.length : Int) : Int) := HW.od; obtain ⟨i012, hi012, _, hsz12, _⟩ := info_parts info5; have hroom12 : t170.length ≤ co11 := (Kd.V_reads' HO172.out).2.1; have hC12 : Kd.F (Kd.int .u8) _ _ (some ad174) t170.length t170 := (Kd.V_at (base := w.heap.size) HO172.out).2.2; have hcut12 := cut_from (P := Tryz.prog) 22 5 .i64 Tryz.underlying22 hi012 1 hsz12 (some ad174) t170.length co11 1 (by omega) q12; have hr12 := Kd.F_cut (m := (1 : Int).toNat) (c := co11) hC12 (by omega) hroom12; obtain ⟨A12, hA12⟩ : ∃ A1, A1 = (if co11 = (1 : Int).toNat then (some ad174) else ((some ad174) : Option Addr).map (·.add ((1 : Int).toNat * 1))) := ⟨_, rfl⟩; obtain ⟨c12, hc12⟩ : ∃ c1, c1 = co11 - (1 : Int).toNat := ⟨_, rfl⟩; have hy12 : y175.length = t170.length - (1 : Int).toNat := (by rw [Ny175.out, List.length_drop] <;> omega); rw [show (t170).drop (1 : Int).toNat = y175 from Ny175.out.symm] at hr12; replace hr12 : Kd.F (Kd.int .u8) _ _ A12 y175.length y175 := (by rw [hA12]; exact hr12); rw [← hy12, ← hA12, ← hc12] at hcut12; have HO179 := Aside0.mk (show Kd.V (Kd.int .u8) 5 _ w.heap.size _ (.slice A12 y175.length c12) y175 from Kd.V_mk (by rw [hy12, hc12]; exact Nat.sub_le_sub_right hroom12 _) hr12); have HC179 := Aside0.mk (show y175.length ≤ c12 from by rw [hy12, hc12]; exact Nat.sub_le_sub_right hroom12 _); clear hr12 hC12 hroom12 hi012 hsz12 hc12; have KY12 := Aside0.mk hy12; have KA12 := Aside0.mk hA12; clear hy12 hA12; replace q12 := eq_true q12))
    repeat (go_quiet (fail); try go_wp2)
    refine bodyPost_ret (results_list (rs := [.tmp 2, .tmp 3, .tmp 4, .tmp 5]) rfl (by simp) (.tmp (.tmp (.tmp (.tmp .nil))))) rfl ?_
    exact ⟨_, _, rfl, by first | exact Kd.R_nil _ _ _ _ _ | exact Kd.N_nil _ _ _ _ _ | exact Kd.V_nil _ _ _ _ _ | exact Kd.Q_nil _ _ _ _ _ | exact Kd.S_nil _ _ _ _ _, by (with_reducible repeat (first | apply Kd.V_alloc | apply Kd.V_drewN | apply Kd.V_drew)); exact Kd.V_mono HO0.out (fun _ hk => ⟨hk, (by simp [Value.ownBlock])⟩), HW.zb⟩
def bsoncore_ReadBoolean.f (l0 : List Int) : Option (Bool × List Int × Bool) := if (l0.length : Int) < 1 then (some (false, l0, false)) else (none)
theorem bsoncore_ReadBoolean.calls (P0_ : Nat → Prop) (A0 : Option Addr) (c0 : Nat) (l0 : List Int) (r1 : Bool) (r2 : List Int) (r3 : Bool) (w : World) (hs0 : Kd.V (Kd.int .u8) 5 w w.heap.size (fun k_ => P0_ k_) (.slice A0 l0.length c0) l0) (h : bsoncore_ReadBoolean.f l0 = some (r1, r2, r3)) :
    Calls Tryz.prog 77 #[.slice A0 l0.length c0] w fun e w' => ∃ v1_ : Value, e = .returned (.tuple #[.bool r1, v1_, .bool r3]) ∧ Kd.V (Kd.int .u8) 5 w' w.heap.size (fun k_ => (P0_ k_ ∨ w.heap.size ≤ k_)) v1_ r2 ∧ Below w.heap.size w w' := by
  have HO0 := Aside0.mk (show Kd.V (Kd.int .u8) 5 w w.heap.size (fun k_ => (P0_ k_ ∨ w.heap.size ≤ k_)) (.slice A0 l0.length c0) l0 from Kd.V_mono hs0 (fun k_ hk => .inl hk)); have HB := Aside0.mk (Below.refl w.heap.size w); have H : (if (l0.length : Int) < 1 then (some (false, l0, false)) else (none)) = some (r1, r2, r3) := h; clear h
  by_cases c2 : (l0.length : Int) < 1
  rotate_left
  · rw [if_neg c2] at H
    exact absurd H (by simp)
  rw [if_pos c2] at H; have c2b0 : decide ((l0.length : Int) < 1) = true := decide_eq_true c2
  have c2b1 : decide (l0.length < 1) = true := decide_eq_true (by omega)
  clear c2
  as_aux_lemma =>
    simp only [Option.some.injEq, Prod.mk.injEq] at H
    obtain ⟨rfl, rfl, rfl⟩ := H
    go_enter Tryz.func77, Tryz.ntmps77
    go_wp2
    repeat (go_quiet (fail); try go_wp2)
    go_ret3
    exact ⟨_, rfl, HW.zV HO0.out, HW.zb⟩
def impl_one.f (a0 : Bool) : Option (Int) := if a0 = true then (some 1) else (some 0)
theorem impl_one.calls (a0 : Bool) (r : Int) (w : World) (h : impl_one.f a0 = some r) :
    Calls Tryz.prog 78 #[.bool a0] w fun e w' => e = .returned (.int .i64 r) ∧ Drawn0 w w' := by
  have H : (if a0 = true then (some 1) else (some 0)) = some r := h; clear h
  by_cases c2 : a0 = true
  · subst c2
    have H1 : (some 1) = some r := by rw [if_pos rfl] at H; exact H
    clear H; have H := H1; clear H1
    as_aux_lemma =>
      obtain rfl := Option.some.inj H
      go_enter Tryz.func78, Tryz.ntmps78
      go_wp2
      go_ret
      exact ⟨by first | rfl | (simp; done) | (simp [*]; done), by repeat (first | exact Drawn0.refl _ | apply Drawn0.step)⟩
  replace c2 := Bool.eq_false_iff.mpr c2; subst c2
  have H1 : (some 0) = some r := by rw [if_neg (show ¬ (false = true) by decide)] at H; exact H
  clear H; have H := H1; clear H1
  as_aux_lemma =>
    obtain rfl := Option.some.inj H
    go_enter Tryz.func78, Tryz.ntmps78
    go_wp2
    go_ret
    exact ⟨by first | rfl | (simp; done) | (simp [*]; done), by repeat (first | exact Drawn0.refl _ | apply Drawn0.step)⟩
def binaryutil_ReadI64.f (l0 : List Int) : Option (Int × List Int × Bool) := if (l0.length : Int) < 8 then (some (0, l0, false)) else (none)
theorem binaryutil_ReadI64.calls (P0_ : Nat → Prop) (A0 : Option Addr) (c0 : Nat) (l0 : List Int) (r1 : Int) (r2 : List Int) (r3 : Bool) (w : World) (hs0 : Kd.V (Kd.int .u8) 5 w w.heap.size (fun k_ => P0_ k_) (.slice A0 l0.length c0) l0) (h : binaryutil_ReadI64.f l0 = some (r1, r2, r3)) :
    Calls Tryz.prog 114 #[.slice A0 l0.length c0] w fun e w' => ∃ v1_ : Value, e = .returned (.tuple #[.int .i64 r1, v1_, .bool r3]) ∧ Kd.V (Kd.int .u8) 5 w' w.heap.size (fun k_ => (P0_ k_ ∨ w.heap.size ≤ k_)) v1_ r2 ∧ Below w.heap.size w w' := by
  have HO0 := Aside0.mk (show Kd.V (Kd.int .u8) 5 w w.heap.size (fun k_ => (P0_ k_ ∨ w.heap.size ≤ k_)) (.slice A0 l0.length c0) l0 from Kd.V_mono hs0 (fun k_ hk => .inl hk)); have HB := Aside0.mk (Below.refl w.heap.size w); have H : (if (l0.length : Int) < 8 then (some (0, l0, false)) else (none)) = some (r1, r2, r3) := h; clear h
  by_cases c2 : (l0.length : Int) < 8
  rotate_left
  · rw [if_neg c2] at H
    exact absurd H (by simp)
  rw [if_pos c2] at H; have c2b0 : decide ((l0.length : Int) < 8) = true := decide_eq_true c2
  have c2b1 : decide (l0.length < 8) = true := decide_eq_true (by omega)
  clear c2
  as_aux_lemma =>
    simp only [Option.some.injEq, Prod.mk.injEq] at H
    obtain ⟨rfl, rfl, rfl⟩ := H
    go_enter Tryz.func114, Tryz.ntmps114
    go_wp2
    repeat (go_quiet (fail); try go_wp2)
    go_ret3
    exact ⟨_, rfl, HW.zV HO0.out, HW.zb⟩
def bsoncore_ReadDateTime.f (l0 : List Int) : Option (Int × List Int × Bool) := (binaryutil_ReadI64.f l0).bind fun bt180 => (some (bt180.1, bt180.2.1, bt180.2.2))
theorem bsoncore_ReadDateTime.calls (P0_ : Nat → Prop) (A0 : Option Addr) (c0 : Nat) (l0 : List Int) (r1 : Int) (r2 : List Int) (r3 : Bool) (w : World) (hs0 : Kd.V (Kd.int .u8) 5 w w.heap.size (fun k_ => P0_ k_) (.slice A0 l0.length c0) l0) (h : bsoncore_ReadDateTime.f l0 = some (r1, r2, r3)) :
    Calls Tryz.prog 79 #[.slice A0 l0.length c0] w fun e w' => ∃ v1_ : Value, e = .returned (.tuple #[.int .i64 r1, v1_, .bool r3]) ∧ Kd.V (Kd.int .u8) 5 w' w.heap.size (fun k_ => (P0_ k_ ∨ w.heap.size ≤ k_)) v1_ r2 ∧ Below w.heap.size w w' := by
  have HO0 := Aside0.mk (show Kd.V (Kd.int .u8) 5 w w.heap.size (fun k_ => (P0_ k_ ∨ w.heap.size ≤ k_)) (.slice A0 l0.length c0) l0 from Kd.V_mono hs0 (fun k_ hk => .inl hk)); have HB := Aside0.mk (Below.refl w.heap.size w); have H : ((binaryutil_ReadI64.f l0).bind fun bt180 => (some (bt180.1, bt180.2.1, bt180.2.2))) = some (r1, r2, r3) := h; clear h; replace H := Option.bind_eq_some_iff.mp H; obtain ⟨⟨t180, t181, t184⟩, A20, H⟩ := H; replace H : (some (t180, t181, t184)) = some (r1, r2, r3) := H; have A2 := Aside0.mk A20; clear A20
  as_aux_lemma =>
    simp only [Option.some.injEq, Prod.mk.injEq] at H
    obtain ⟨rfl, rfl, rfl⟩ := H
    go_enter Tryz.func79, Tryz.ntmps79
    go_wp2_with (first | ((with_reducible refine gate_callee (f := 114) rfl ?_); refine HW.gz (some 6) rfl rfl Tryz.func114 (by kernel_rfl) rfl #[.slice A0 l0.length c0] rfl ?_; (with_reducible refine (binaryutil_ReadI64.calls (fun k_ => (P0_ k_ ∨ w.heap.size ≤ k_)) _ _ l0 t180 t181 t184 _ ?side1 A2.out).mono ?_); (case side1 => exact HO0.out); rintro e w3 ⟨v182, rfl, ho0, hb⟩; refine ⟨_, rfl, ?_⟩; have HO183 := Aside0.mk (Kd.V_lower (Kd.V_mono (ok' := fun k_ => (P0_ k_ ∨ w.heap.size ≤ k_)) ho0 (fun k_ hk_ => Or.elim hk_ (fun hs_ => hs_) (fun hn_ => (.inr (Nat.le_trans (below_size HW.zb) hn_))))) (below_size HW.zb)); replace HB := Aside0.mk (below_step HW.zb hb); (try clear hb); (try clear ho0)))
    go_ret3
    exact ⟨_, rfl, HW.zV HO183.out, HW.zb⟩
def bytes_IndexByte.f (l0 : List Int) (a1 : Int) : Option (Int) := some (Lib.indexByte (Lib.bytesOf l0) a1.toNat.toUInt8)
theorem bytes_IndexByte.calls (A0 : Option Addr) (c0 : Nat) (l0 : List Int) (a1 : Int) (r : Int) (w : World) (hr0 : Kd.C (Kd.int .u8) w A0 l0.length l0) (_hc0 : l0.length ≤ c0) (h : bytes_IndexByte.f l0 a1 = some r) :
    Calls Tryz.prog 129 #[.slice A0 l0.length c0, .int .u8 a1] w fun e w' => e = .returned (.int .i64 r) ∧ Drawn0 w w' := by
  obtain rfl := Option.some.inj h; clear h; have HR := Kd.reads_of_C (enc := Value.int .u8) (d := (0 : Int)) (h1 := fun _ => rfl) hr0; clear hr0
  cases A0 with
  | none =>
    have hl : l0 = [] := by
      rcases Nat.eq_zero_or_pos l0.length with hz | hz
      · exact List.eq_nil_of_length_eq_zero hz
      obtain ⟨_, he, _⟩ := HR.2.2 hz
      cases he
    subst hl
    go_enter Tryz.func129, Tryz.ntmps129
    go_wp2
    rw [run_callFunc_extern Tryz.func171 (by kernel_rfl) (by kernel_rfl) (by kernel_rfl) (e := Extern.BytealgIndexByte.indexByte) (by kernel_rfl), Lib.run_indexByteNil w]
    simp only [Result.andThen]
    rw [Oper.upon_value]
    go_wp2
    go_ret
    exact ⟨rfl, ⟨0, rfl⟩⟩
  | some a =>
    have hc : ∀ i, i < l0.length → w.cell? (a.add i) = some (.int .u8 (l0.getD i 0)) := by
      intro i hi
      obtain ⟨ad, he, hc⟩ := HR.2.2 (by omega)
      cases he
      exact hc i hi
    clear HR
    go_enter Tryz.func129, Tryz.ntmps129
    go_wp2
    rw [run_callFunc_extern Tryz.func171 (by kernel_rfl) (by kernel_rfl) (by kernel_rfl) (e := Extern.BytealgIndexByte.indexByte) (by kernel_rfl), Lib.run_indexByteAt w a l0.length c0 l0 rfl hc a1]
    simp only [Result.andThen]
    rw [Oper.upon_value]
    go_wp2
    go_ret
    exact ⟨rfl, ⟨0, rfl⟩⟩
end Go.Proofs.YtanecebppagakaaGreatDoor.PSx
