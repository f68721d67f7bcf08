import Derived.Test.YtanecebppagakaaGreatDoorPRxx0
namespace Go.Proofs.YtanecebppagakaaGreatDoor.PRx
open Go.RowKit Go.Proofs.YtanecebppagakaaGreatDoorW.PrintWords Go.Proofs.YtanecebppagakaaGreatDoorW.PrintLast Go.Proofs.YtanecebppagakaaGreatDoorW.PrintMore
attribute [local go_sem] max2_int min2_int max_two min_two max_three min_three max_four min_four
set_option linter.unusedVariables false
set_option maxHeartbeats 8000000
set_option maxRecDepth 100000
set_option linter.unusedSimpArgs false
def impl_own.f (l0 : List Int) : Option (List Int) := if ([] : List Int).length + l0.length < 140737488355328 then (some (([] : List Int) ++ l0)) else (none)
theorem impl_own.calls (A0 : Option Addr) (c0 : Nat) (l0 : List Int) (r : List Int) (w : World) (hr0 : Kd.C (Kd.int .u8) w A0 l0.length l0) (hc0 : l0.length ≤ c0) (h : impl_own.f l0 = some r) :
    Calls Tryz.prog 53 #[.slice A0 l0.length c0] w fun e w' => ∃ v0_ : Value, e = .returned (v0_) ∧ Kd.R (Kd.int .u8) 5 w' w.heap.size (fun _ => True) v0_ r ∧ Below w.heap.size w w' := by
  have HR0 := Aside0.mk hr0; have HC0 := Aside0.mk hc0; clear hr0 hc0; have HB := Aside0.mk (Below.refl w.heap.size w); have H : (if ([] : List Int).length + l0.length < 140737488355328 then (some (([] : List Int) ++ l0)) else (none)) = some r := h; clear h
  by_cases c2 : ([] : List Int).length + l0.length < 140737488355328
  rotate_left
  · rw [if_neg c2] at H
    exact absurd H (by simp)
  rw [if_pos c2] at H; have LMc2 := Aside0.mk c2; clear c2; obtain ⟨y101, hy101⟩ : ∃ y_ : List Int, y_ = (([] : List Int) ++ l0) := ⟨_, rfl⟩
  replace H : (some y101) = some r := by (try rw [hy101]); exact HW.rp
  have Ny101 := Aside0.mk hy101; clear hy101
  as_aux_lemma =>
    obtain rfl := Option.some.inj H
    go_enter Tryz.func53, Tryz.ntmps53
    go_wp2_with (first | ((with_reducible refine gate_builtin (b := .append) (xs := #[.const (.slice none 0 0), .tmp 3]) rfl ?_); at_builtin; refine Kd.R_append_rows (Kd.int .u8) (w0 := w) w.heap.size rfl (.const (.slice none 0 0)) (.tmp 3) 22 5 (.int .u8 0) 1 rfl Tryz.underlying22 info5 rfl (by decide) (by omega) (.slice none 0 0) ([] : List Int) l0 _ _ _ (fun _ => True) (fun _ => False) rfl rfl ?aO ?aR (fun _ _ h => h) (fun _ h => h.elim) ?aF ?aB ?aS ?aL ?_; (case aR => repeat (first | exact HR0.out | (with_reducible refine Kd.C_alloc ?_ _) | (with_reducible refine Kd.C_drewN ?_ _) | (with_reducible refine Kd.C_drew ?_))); (case aB => exact HW.zb); (case aF => exact (fun _ _ => trivial)); (case aO => exact ((Kd.R_nil _ _ _ _ (fun _ => True)))); (case aS => exact (below_size HW.zb)); (case aL => have := LMc2.out; omega); intro v102 w3 ho hb hg hat; rw [← Ny101.out] at ho; have HO103 := Aside0.mk (ho); replace HB := Aside0.mk (hb); clear ho hb hg hat))
    go_ret
    exact ⟨_, rfl, HW.zR HO103.out, HW.zb⟩
def binaryutil_ReadI32.f (l0 : List Int) : Option (Int × List Int × Bool) := if (l0.length : Int) < 4 then (some (0, l0, false)) else (if 3 < (l0.length : Int) then (if 0 < (l0.length : Int) then (if 1 < (l0.length : Int) then (if 2 < (l0.length : Int) then (if 4 ≤ (l0.length : Int) then (some (Go.bits .or .i32 (Go.bits .or .i32 (Go.bits .or .i32 (wrap32 (rd l0 0)) (wrap32 ((wrap32 (rd l0 1)) * 256))) (wrap32 ((wrap32 (rd l0 2)) * 65536))) (wrap32 ((wrap32 (rd l0 3)) * 16777216)), (l0.drop 4), true)) else (none)) else (none)) else (none)) else (none)) else (none))
theorem binaryutil_ReadI32.calls (P0_ : Nat → Prop) (A0 : Option Addr) (c0 : Nat) (l0 : List Int) (r1 : Int) (r2 : List Int) (r3 : Bool) (w : World) (hs0 : Kd.V (Kd.int .u8) 5 w w.heap.size (fun k_ => P0_ k_) (.slice A0 l0.length c0) l0) (h : binaryutil_ReadI32.f l0 = some (r1, r2, r3)) :
    Calls Tryz.prog 115 #[.slice A0 l0.length c0] w fun e w' => ∃ v1_ : Value, e = .returned (.tuple #[.int .i32 r1, v1_, .bool r3]) ∧ Kd.V (Kd.int .u8) 5 w' w.heap.size (fun k_ => (P0_ k_ ∨ w.heap.size ≤ k_)) v1_ r2 ∧ Below w.heap.size w w' := by
  have HO0 := Aside0.mk (show Kd.V (Kd.int .u8) 5 w w.heap.size (fun k_ => (P0_ k_ ∨ w.heap.size ≤ k_)) (.slice A0 l0.length c0) l0 from Kd.V_mono hs0 (fun k_ hk => .inl hk)); have HB := Aside0.mk (Below.refl w.heap.size w); have H : (if (l0.length : Int) < 4 then (some (0, l0, false)) else (if 3 < (l0.length : Int) then (if 0 < (l0.length : Int) then (if 1 < (l0.length : Int) then (if 2 < (l0.length : Int) then (if 4 ≤ (l0.length : Int) then (some (Go.bits .or .i32 (Go.bits .or .i32 (Go.bits .or .i32 (wrap32 (rd l0 0)) (wrap32 ((wrap32 (rd l0 1)) * 256))) (wrap32 ((wrap32 (rd l0 2)) * 65536))) (wrap32 ((wrap32 (rd l0 3)) * 16777216)), (l0.drop 4), true)) else (none)) else (none)) else (none)) else (none)) else (none))) = some (r1, r2, r3) := h; clear h
  by_cases c2 : (l0.length : Int) < 4
  · rw [if_pos c2] at H
    have c2b0 : decide ((l0.length : Int) < 4) = true := decide_eq_true c2
    have c2b1 : decide (l0.length < 4) = true := decide_eq_true (by omega)
    clear c2
    as_aux_lemma =>
      simp only [Option.some.injEq, Prod.mk.injEq] at H
      obtain ⟨rfl, rfl, rfl⟩ := H
      go_enter Tryz.func115, Tryz.ntmps115
      go_wp2
      repeat (go_quiet (fail); try go_wp2)
      go_ret3
      exact ⟨_, rfl, HW.zV HO0.out, HW.zb⟩
  rw [if_neg c2] at H; have c2b0 : decide ((l0.length : Int) < 4) = false := decide_eq_false c2
  have c2b1 : decide (l0.length < 4) = false := decide_eq_false (by omega)
  clear c2
  by_cases c3 : 3 < (l0.length : Int)
  rotate_left
  · rw [if_neg c3] at H
    exact absurd H (by simp)
  rw [if_pos c3] at H; have c3b0 : decide (3 < (l0.length : Int)) = true := decide_eq_true c3
  have c3b1 : decide (3 < l0.length) = true := decide_eq_true (by omega)
  clear c3
  by_cases c4 : 0 < (l0.length : Int)
  rotate_left
  · rw [if_neg c4] at H
    exact absurd H (by simp)
  rw [if_pos c4] at H; have c4b0 : decide (0 < (l0.length : Int)) = true := decide_eq_true c4
  have c4b1 : decide (0 < l0.length) = true := decide_eq_true (by omega)
  clear c4
  by_cases c5 : 1 < (l0.length : Int)
  rotate_left
  · rw [if_neg c5] at H
    exact absurd H (by simp)
  rw [if_pos c5] at H; have c5b0 : decide (1 < (l0.length : Int)) = true := decide_eq_true c5
  have c5b1 : decide (1 < l0.length) = true := decide_eq_true (by omega)
  clear c5
  by_cases c6 : 2 < (l0.length : Int)
  rotate_left
  · rw [if_neg c6] at H
    exact absurd H (by simp)
  rw [if_pos c6] at H; have c6b0 : decide (2 < (l0.length : Int)) = true := decide_eq_true c6
  have c6b1 : decide (2 < l0.length) = true := decide_eq_true (by omega)
  clear c6
  by_cases c7 : 4 ≤ (l0.length : Int)
  rotate_left
  · rw [if_neg c7] at H
    exact absurd H (by simp)
  rw [if_pos c7] at H; have c7b0 := eq_true c7; have c7b1 : decide (4 ≤ (l0.length : Int)) = true := decide_eq_true c7; clear c7; obtain ⟨y109, hy109⟩ : ∃ y_ : List Int, y_ = (l0.drop 4) := ⟨_, rfl⟩
  replace H : (some (Go.bits .or .i32 (Go.bits .or .i32 (Go.bits .or .i32 (wrap32 (rd l0 0)) (wrap32 ((wrap32 (rd l0 1)) * 256))) (wrap32 ((wrap32 (rd l0 2)) * 65536))) (wrap32 ((wrap32 (rd l0 3)) * 16777216)), y109, true)) = some (r1, r2, r3) := by (try rw [hy109]); exact HW.rp
  have Ny109 := Aside0.mk hy109; clear hy109
  as_aux_lemma =>
    simp only [Option.some.injEq, Prod.mk.injEq] at H
    obtain ⟨rfl, rfl, rfl⟩ := H
    have p104 : 0 ≤ (3 : Int) := (by omega)
    have q104 : 3 < (l0.length : Int) := HW.od
    obtain ⟨ad104, e104, hx104_0⟩ := Kd.at_int (Kd.V_reads' HO0.out).2.2 3 p104 q104
    cases e104
    (try simp only [show (3 : Int).toNat = 3 from rfl, Nat.reduceMul, Nat.reduceEqDiff, Go.Addr.add, ↓reduceIte] at hx104_0)
    have qi104 : (3 < l0.length) = True := eq_true (by omega)
    (try rw [show ((3 : Int)).toNat = 3 from rfl] at hx104_0)
    replace p104 := eq_true p104; replace q104 := eq_true q104
    have p105 : 0 ≤ (0 : Int) := (by omega)
    have q105 : 0 < (l0.length : Int) := HW.od
    obtain ⟨ad105, e105, hx105_0⟩ := Kd.at_int (Kd.V_reads' HO0.out).2.2 0 p105 q105
    obtain rfl : ad104 = ad105 := (by injection e105)
    have qi105 : (0 < l0.length) = True := eq_true (by omega)
    (try rw [show ((0 : Int)).toNat = 0 from rfl] at hx105_0)
    (try rw [Addr.add_zero'] at hx105_0)
    replace p105 := eq_true p105; replace q105 := eq_true q105
    have p106 : 0 ≤ (1 : Int) := (by omega)
    have q106 : 1 < (l0.length : Int) := HW.od
    obtain ⟨ad106, e106, hx106_0⟩ := Kd.at_int (Kd.V_reads' HO0.out).2.2 1 p106 q106
    obtain rfl : ad104 = ad106 := (by injection e106)
    (try simp only [show (1 : Int).toNat = 1 from rfl, Nat.reduceMul, Nat.reduceEqDiff, Go.Addr.add, ↓reduceIte] at hx106_0)
    have qi106 : (1 < l0.length) = True := eq_true (by omega)
    (try rw [show ((1 : Int)).toNat = 1 from rfl] at hx106_0)
    replace p106 := eq_true p106; replace q106 := eq_true q106
    have p107 : 0 ≤ (2 : Int) := (by omega)
    have q107 : 2 < (l0.length : Int) := HW.od
    obtain ⟨ad107, e107, hx107_0⟩ := Kd.at_int (Kd.V_reads' HO0.out).2.2 2 p107 q107
    obtain rfl : ad104 = ad107 := (by injection e107)
    (try simp only [show (2 : Int).toNat = 2 from rfl, Nat.reduceMul, Nat.reduceEqDiff, Go.Addr.add, ↓reduceIte] at hx107_0)
    have qi107 : (2 < l0.length) = True := eq_true (by omega)
    (try rw [show ((2 : Int)).toNat = 2 from rfl] at hx107_0)
    replace p107 := eq_true p107; replace q107 := eq_true q107
    have p108 : 0 ≤ (3 : Int) := (by omega)
    have q108 : 3 < (l0.length : Int) := HW.od
    obtain ⟨ad108, e108, hx108_0⟩ := Kd.at_int (Kd.V_reads' HO0.out).2.2 3 p108 q108
    obtain rfl : ad104 = ad108 := (by injection e108)
    (try simp only [show (3 : Int).toNat = 3 from rfl, Nat.reduceMul, Nat.reduceEqDiff, Go.Addr.add, ↓reduceIte] at hx108_0)
    have qi108 : (3 < l0.length) = True := eq_true (by omega)
    (try rw [show ((3 : Int)).toNat = 3 from rfl] at hx108_0)
    replace p108 := eq_true p108; replace q108 := eq_true q108
    have q8 : (4 : Int) ≤ ((l0.length : Int) : Int) := HW.od
    obtain ⟨i08, hi08, _, hsz8, _⟩ := info_parts info5; have hroom8 : l0.length ≤ c0 := (Kd.V_reads' HO0.out).2.1; have hC8 : Kd.F (Kd.int .u8) _ _ (some ad104) l0.length l0 := (Kd.V_at (base := w.heap.size) HO0.out).2.2
    have hcut8 := cut_from (P := Tryz.prog) 22 5 .i64 Tryz.underlying22 hi08 1 hsz8 (some ad104) l0.length c0 4 (by omega) q8
    have hr8 := Kd.F_cut (m := (4 : Int).toNat) (c := c0) hC8 (by omega) hroom8
    obtain ⟨A8, hA8⟩ : ∃ A1, A1 = (if c0 = (4 : Int).toNat then (some ad104) else ((some ad104) : Option Addr).map (·.add ((4 : Int).toNat * 1))) := ⟨_, rfl⟩; obtain ⟨c8, hc8⟩ : ∃ c1, c1 = c0 - (4 : Int).toNat := ⟨_, rfl⟩
    have hy8 : y109.length = l0.length - (4 : Int).toNat := (by rw [Ny109.out, List.length_drop] <;> omega)
    rw [show (l0).drop (4 : Int).toNat = y109 from Ny109.out.symm] at hr8
    replace hr8 : Kd.F (Kd.int .u8) _ _ A8 y109.length y109 := (by rw [hA8]; exact hr8)
    rw [← hy8, ← hA8, ← hc8] at hcut8
    have HO113 := Aside0.mk (show Kd.V (Kd.int .u8) 5 _ w.heap.size _ (.slice A8 y109.length c8) y109 from Kd.V_mk (by rw [hy8, hc8]; exact Nat.sub_le_sub_right hroom8 _) hr8)
    have HC113 := Aside0.mk (show y109.length ≤ c8 from by rw [hy8, hc8]; exact Nat.sub_le_sub_right hroom8 _)
    clear hr8 hC8 hroom8 hi08 hsz8 hc8; have KY8 := Aside0.mk hy8; have KA8 := Aside0.mk hA8; clear hy8 hA8; replace q8 := eq_true q8
    go_enter Tryz.func115, Tryz.ntmps115
    go_wp2
    repeat (go_quiet (fail); try go_wp2)
    go_ret3
    exact ⟨_, rfl, HW.zV HO113.out, HW.zb⟩
def bsoncore_ReadLength.f (l0 : List Int) : Option (Int × List Int × Bool) := (binaryutil_ReadI32.f l0).bind fun bt114 => (if bt114.1 < 0 then (some (bt114.1, bt114.2.1, false)) else (some (bt114.1, bt114.2.1, bt114.2.2)))
theorem bsoncore_ReadLength.calls (P0_ : Nat → Prop) (A0 : Option Addr) (c0 : Nat) (l0 : List Int) (r1 : Int) (r2 : List Int) (r3 : Bool) (w : World) (hs0 : Kd.V (Kd.int .u8) 5 w w.heap.size (fun k_ => P0_ k_) (.slice A0 l0.length c0) l0) (h : bsoncore_ReadLength.f l0 = some (r1, r2, r3)) :
    Calls Tryz.prog 113 #[.slice A0 l0.length c0] w fun e w' => ∃ v1_ : Value, e = .returned (.tuple #[.int .i32 r1, v1_, .bool r3]) ∧ Kd.V (Kd.int .u8) 5 w' w.heap.size (fun k_ => (P0_ k_ ∨ w.heap.size ≤ k_)) v1_ r2 ∧ Below w.heap.size w w' := by
  have HO0 := Aside0.mk (show Kd.V (Kd.int .u8) 5 w w.heap.size (fun k_ => (P0_ k_ ∨ w.heap.size ≤ k_)) (.slice A0 l0.length c0) l0 from Kd.V_mono hs0 (fun k_ hk => .inl hk)); have HB := Aside0.mk (Below.refl w.heap.size w); have H : ((binaryutil_ReadI32.f l0).bind fun bt114 => (if bt114.1 < 0 then (some (bt114.1, bt114.2.1, false)) else (some (bt114.1, bt114.2.1, bt114.2.2)))) = some (r1, r2, r3) := h; clear h; replace H := Option.bind_eq_some_iff.mp H; obtain ⟨⟨t114, t115, t118⟩, A20, H⟩ := H; replace H : (if t114 < 0 then (some (t114, t115, false)) else (some (t114, t115, t118))) = some (r1, r2, r3) := H; have A2 := Aside0.mk A20; clear A20
  by_cases c3 : t114 < 0
  · rw [if_pos c3] at H
    have c3b0 : decide (t114 < 0) = true := decide_eq_true c3; clear c3
    as_aux_lemma =>
      simp only [Option.some.injEq, Prod.mk.injEq] at H
      obtain ⟨rfl, rfl, rfl⟩ := H
      go_enter Tryz.func113, Tryz.ntmps113
      go_wp2_with (first | ((with_reducible refine gate_callee (f := 115) rfl ?_); refine HW.gz (some 9) rfl rfl Tryz.func115 (by kernel_rfl) rfl #[.slice A0 l0.length c0] rfl ?_; (with_reducible refine (binaryutil_ReadI32.calls (fun k_ => (P0_ k_ ∨ w.heap.size ≤ k_)) _ _ l0 t114 t115 t118 _ ?side1 A2.out).mono ?_); (case side1 => exact HO0.out); rintro e w4 ⟨v116, rfl, ho0, hb⟩; refine ⟨_, rfl, ?_⟩; replace HO0 := Aside0.mk (Kd.V_below (HW.zV HO0.out) hb); have HO117 := Aside0.mk (Kd.V_lower (Kd.V_mono (ok' := fun k_ => (P0_ k_ ∨ w.heap.size ≤ k_)) ho0 (fun k_ hk_ => Or.elim hk_ (fun hs_ => hs_) (fun hn_ => (.inr (Nat.le_trans (below_size HW.zb) hn_))))) (below_size HW.zb)); replace HB := Aside0.mk (below_step HW.zb hb); (try clear hb); (try clear ho0)))
      go_ret3
      exact ⟨_, rfl, HW.zV HO117.out, HW.zb⟩
  rw [if_neg c3] at H; have c3b0 : decide (t114 < 0) = false := decide_eq_false c3; clear c3
  as_aux_lemma =>
    simp only [Option.some.injEq, Prod.mk.injEq] at H
    obtain ⟨rfl, rfl, rfl⟩ := H
    go_enter Tryz.func113, Tryz.ntmps113
    go_wp2_with (first | ((with_reducible refine gate_callee (f := 115) rfl ?_); refine HW.gz (some 9) rfl rfl Tryz.func115 (by kernel_rfl) rfl #[.slice A0 l0.length c0] rfl ?_; (with_reducible refine (binaryutil_ReadI32.calls (fun k_ => (P0_ k_ ∨ w.heap.size ≤ k_)) _ _ l0 t114 t115 t118 _ ?side1 A2.out).mono ?_); (case side1 => exact HO0.out); rintro e w5 ⟨v116, rfl, ho0, hb⟩; refine ⟨_, rfl, ?_⟩; have HO117 := Aside0.mk (Kd.V_lower (Kd.V_mono (ok' := fun k_ => (P0_ k_ ∨ w.heap.size ≤ k_)) ho0 (fun k_ hk_ => Or.elim hk_ (fun hs_ => hs_) (fun hn_ => (.inr (Nat.le_trans (below_size HW.zb) hn_))))) (below_size HW.zb)); replace HB := Aside0.mk (below_step HW.zb hb); (try clear hb); (try clear ho0)))
    go_ret3
    exact ⟨_, rfl, HW.zV HO117.out, HW.zb⟩
def bsoncore_readstring.j0 : Nat → List Int → Int → List Int → Bool → Option (ByteArray × List Int × Bool)
  | 0, _, _, _, _ => none
  | k + 1, x0, x5, x6, x26 => if x26 = true then (some ((⟨#[]⟩ : ByteArray), x0, false)) else (if 0 ≤ (wrap32 (x5 - 1)) then (if (wrap32 (x5 - 1)) ≤ (x6.length : Int) then (if 0 ≤ x5 then (if x5 ≤ (x6.length : Int) then (some (strOfNums (x6.take ((wrap32 (x5 - 1)) : Int).toNat), (x6.drop (x5 : Int).toNat), true)) else (none)) else (none)) else (none)) else (none))
def bsoncore_readstring.f (k : Nat) (l0 : List Int) : Option (ByteArray × List Int × Bool) := (bsoncore_ReadLength.f l0).bind fun bt119 => (if bt119.2.2 = true then (if 4 ≤ (l0.length : Int) then (if ((l0.drop 4).length : Int) < (wrap64 (bt119.1)) then (bsoncore_readstring.j0 k l0 bt119.1 bt119.2.1 true) else (bsoncore_readstring.j0 k l0 bt119.1 bt119.2.1 (bt119.1 == 0))) else (none)) else (some ((⟨#[]⟩ : ByteArray), l0, false)))
theorem bsoncore_readstring.mono_l : ∀ k, (∀ y0 y1 y2 y3, LeO (bsoncore_readstring.j0 k y0 y1 y2 y3) (bsoncore_readstring.j0 (k + 1) y0 y1 y2 y3))
  | 0 => fun _ _ _ _ r h => by simp [bsoncore_readstring.j0] at h
  | k + 1 => by
    have ih0 := bsoncore_readstring.mono_l k
    · intro y0 y1 y2 y3
      unfold bsoncore_readstring.j0
      have m0_ := @ih0; exact HW.mo
theorem bsoncore_readstring.mono : ∀ a0 k, LeO (bsoncore_readstring.f k a0) (bsoncore_readstring.f (k + 1) a0) := by
  intro a0 k
  have ih0 := bsoncore_readstring.mono_l k
  unfold bsoncore_readstring.f
  have m0_ := @ih0; exact HW.mo
theorem bsoncore_readstring.calls (k : Nat) (P0_ : Nat → Prop) (A0 : Option Addr) (c0 : Nat) (l0 : List Int) (r1 : ByteArray) (r2 : List Int) (r3 : Bool) (w : World) (hs0 : Kd.V (Kd.int .u8) 5 w w.heap.size (fun k_ => P0_ k_) (.slice A0 l0.length c0) l0) (h : bsoncore_readstring.f k l0 = some (r1, r2, r3)) :
    Calls Tryz.prog 111 #[.slice A0 l0.length c0] w fun e w' => ∃ v1_ : Value, e = .returned (.tuple #[.string r1, v1_, .bool r3]) ∧ Kd.V (Kd.int .u8) 5 w' w.heap.size (fun k_ => (P0_ k_ ∨ w.heap.size ≤ k_)) v1_ r2 ∧ Below w.heap.size w w' := by
  have HO0 := Aside0.mk (show Kd.V (Kd.int .u8) 5 w w.heap.size (fun k_ => (P0_ k_ ∨ w.heap.size ≤ k_)) (.slice A0 l0.length c0) l0 from Kd.V_mono hs0 (fun k_ hk => .inl hk)); have HB := Aside0.mk (Below.refl w.heap.size w); have H : ((bsoncore_ReadLength.f l0).bind fun bt119 => (if bt119.2.2 = true then (if 4 ≤ (l0.length : Int) then (if ((l0.drop 4).length : Int) < (wrap64 (bt119.1)) then (bsoncore_readstring.j0 k l0 bt119.1 bt119.2.1 true) else (bsoncore_readstring.j0 k l0 bt119.1 bt119.2.1 (bt119.1 == 0))) else (none)) else (some ((⟨#[]⟩ : ByteArray), l0, false)))) = some (r1, r2, r3) := h; clear h; replace H := Option.bind_eq_some_iff.mp H; obtain ⟨⟨t119, t120, t123⟩, A20, H⟩ := H; replace H : (if t123 = true then (if 4 ≤ (l0.length : Int) then (if ((l0.drop 4).length : Int) < (wrap64 (t119)) then (bsoncore_readstring.j0 k l0 t119 t120 true) else (bsoncore_readstring.j0 k l0 t119 t120 (t119 == 0))) else (none)) else (some ((⟨#[]⟩ : ByteArray), l0, false))) = some (r1, r2, r3) := H; have A2 := Aside0.mk A20; clear A20
  by_cases c3 : t123 = true
  rotate_left
  · replace c3 := Bool.eq_false_iff.mpr c3
    subst c3
    have H1 : (some ((⟨#[]⟩ : ByteArray), l0, false)) = some (r1, r2, r3) := by rw [if_neg (show ¬ (false = true) by decide)] at H; exact H
    clear H; have H := H1; clear H1
    as_aux_lemma =>
      simp only [Option.some.injEq, Prod.mk.injEq] at H
      obtain ⟨rfl, rfl, rfl⟩ := H
      go_enter Tryz.func111, Tryz.ntmps111
      go_wp2_with (first | (go_at_call 113; (with_reducible refine (bsoncore_ReadLength.calls (fun k_ => (P0_ k_ ∨ w.heap.size ≤ k_)) _ _ l0 t119 t120 false _ ?side1 A2.out).mono ?_); (case side1 => exact HO0.out); rintro e w21 ⟨v121, rfl, ho0, hb⟩; replace HO0 := Aside0.mk (Kd.V_below (HW.zV HO0.out) hb); have HO122 := Aside0.mk (Kd.V_lower (Kd.V_mono (ok' := fun k_ => (P0_ k_ ∨ w.heap.size ≤ k_)) ho0 (fun k_ hk_ => Or.elim hk_ (fun hs_ => hs_) (fun hn_ => (.inr (Nat.le_trans (below_size HW.zb) hn_))))) (below_size HW.zb)); replace HB := Aside0.mk (below_step HW.zb hb); (try clear hb); (try clear ho0)))
      repeat (go_quiet (fail); try go_wp2)
      go_ret3
      exact ⟨_, rfl, HW.zV HO0.out, HW.zb⟩
  subst c3
  have H1 : (if 4 ≤ (l0.length : Int) then (if ((l0.drop 4).length : Int) < (wrap64 (t119)) then (bsoncore_readstring.j0 k l0 t119 t120 true) else (bsoncore_readstring.j0 k l0 t119 t120 (t119 == 0))) else (none)) = some (r1, r2, r3) := by rw [if_pos rfl] at H; exact H
  clear H; have H := H1; clear H1; have HC4 := Aside0.mk H; clear H
  go_enter Tryz.func111, Tryz.ntmps111
  go_upto_region 4 with (first | (go_at_call 113; (with_reducible refine (bsoncore_ReadLength.calls (fun k_ => (P0_ k_ ∨ w.heap.size ≤ k_)) _ _ l0 t119 t120 true _ ?side1 A2.out).mono ?_); (case side1 => exact HO0.out); rintro e w5 ⟨v121, rfl, ho0, hb⟩; replace HO0 := Aside0.mk (Kd.V_below (HW.zV HO0.out) hb); have HO122 := Aside0.mk (Kd.V_lower (Kd.V_mono (ok' := fun k_ => (P0_ k_ ∨ w.heap.size ≤ k_)) ho0 (fun k_ hk_ => Or.elim hk_ (fun hs_ => hs_) (fun hn_ => (.inr (Nat.le_trans (below_size HW.zb) hn_))))) (below_size HW.zb)); replace HB := Aside0.mk (below_step HW.zb hb); (try clear hb); (try clear ho0)))
  repeat (go_quiet (fail); try go_wp2)
  (try simp only [Act.put, List.setIfInBounds_toArray, List.set_cons_zero, List.set_cons_succ])
  go_cut [26] (fun v26 wc => ∃ (kq : Nat) (x26_3 : Bool), v26 = .bool x26_3 ∧ Aside0 (bsoncore_readstring.j0 kq l0 t119 t120 x26_3 = some (r1, r2, r3)) ∧ Aside0 (kq ≤ k) ∧ Aside0 (Kd.V (Kd.int .u8) 5 wc w.heap.size (fun k_ => (P0_ k_ ∨ w.heap.size ≤ k_)) (.slice A0 l0.length c0) l0) ∧ Aside0 (Kd.V (Kd.int .u8) 5 wc w.heap.size (fun k_ => (P0_ k_ ∨ w.heap.size ≤ k_)) v121 t120) ∧ Aside0 (Below w.heap.size w wc))
  case first =>
    have H := HC4.out; clear HC4
    by_cases c6 : 4 ≤ (l0.length : Int)
    rotate_left
    · rw [if_neg c6] at H
      exact absurd H (by simp)
    rw [if_pos c6] at H; have c6b0 := eq_true c6; have c6b1 : decide (4 ≤ (l0.length : Int)) = true := decide_eq_true c6; clear c6; obtain ⟨y124, hy124⟩ : ∃ y_ : List Int, y_ = (l0.drop 4) := ⟨_, rfl⟩
    replace H : (if (y124.length : Int) < (wrap64 (t119)) then (bsoncore_readstring.j0 k l0 t119 t120 true) else (bsoncore_readstring.j0 k l0 t119 t120 (t119 == 0))) = some (r1, r2, r3) := by (try rw [hy124]); exact HW.rp
    have Ny124 := Aside0.mk hy124; clear hy124
    by_cases c7 : (y124.length : Int) < (wrap64 (t119))
    · rw [if_pos c7] at H
      have c7b0 : decide ((y124.length : Int) < (wrap64 (t119))) = true := decide_eq_true c7; clear c7
      (first | rw [c7b0] | (simp only [i64_w, i32_w]; rw [c7b0]) | skip)
      as_aux_lemma =>
        have H' := Aside0.mk H; clear H
        have q8 : (4 : Int) ≤ ((l0.length : Int) : Int) := HW.od
        obtain ⟨i08, hi08, _, hsz8, _⟩ := info_parts info5; have hroom8 : l0.length ≤ c0 := (Kd.V_reads' HO0.out).2.1; have hC8 : Kd.F (Kd.int .u8) _ _ A0 l0.length l0 := (Kd.V_at (base := w.heap.size) HO0.out).2.2
        have hcut8 := cut_from (P := Tryz.prog) 22 5 .i64 Tryz.underlying22 hi08 1 hsz8 A0 l0.length c0 4 (by omega) q8
        have hr8 := Kd.F_cut (m := (4 : Int).toNat) (c := c0) hC8 (by omega) hroom8
        obtain ⟨A8, hA8⟩ : ∃ A1, A1 = (if c0 = (4 : Int).toNat then A0 else (A0 : Option Addr).map (·.add ((4 : Int).toNat * 1))) := ⟨_, rfl⟩; obtain ⟨c8, hc8⟩ : ∃ c1, c1 = c0 - (4 : Int).toNat := ⟨_, rfl⟩
        have hy8 : y124.length = l0.length - (4 : Int).toNat := (by rw [Ny124.out, List.length_drop] <;> omega)
        rw [show (l0).drop (4 : Int).toNat = y124 from Ny124.out.symm] at hr8
        replace hr8 : Kd.F (Kd.int .u8) _ _ A8 y124.length y124 := (by rw [hA8]; exact hr8)
        rw [← hy8, ← hA8, ← hc8] at hcut8
        have HO128 := Aside0.mk (show Kd.V (Kd.int .u8) 5 _ w.heap.size _ (.slice A8 y124.length c8) y124 from Kd.V_mk (by rw [hy8, hc8]; exact Nat.sub_le_sub_right hroom8 _) hr8)
        have HC128 := Aside0.mk (show y124.length ≤ c8 from by rw [hy8, hc8]; exact Nat.sub_le_sub_right hroom8 _)
        clear hr8 hC8 hroom8 hi08 hsz8 hc8; have KY8 := Aside0.mk hy8; have KA8 := Aside0.mk hA8; clear hy8 hA8; replace q8 := eq_true q8
        go_wp2
        repeat (go_quiet (fail); try go_wp2)
        go_meet
        case rel => exact ⟨_, (true), HW.rs, H', ⟨by first | omega | exact Nat.le_refl _⟩, ⟨HW.zV HO0.out⟩, ⟨HW.zV HO122.out⟩, ⟨HW.zb⟩⟩
    rw [if_neg c7] at H; have c7b0 : decide ((y124.length : Int) < (wrap64 (t119))) = false := decide_eq_false c7; clear c7
    (first | rw [c7b0] | (simp only [i64_w, i32_w]; rw [c7b0]) | skip)
    as_aux_lemma =>
      have H' := Aside0.mk H; clear H
      have q9 : (4 : Int) ≤ ((l0.length : Int) : Int) := HW.od
      obtain ⟨i09, hi09, _, hsz9, _⟩ := info_parts info5; have hroom9 : l0.length ≤ c0 := (Kd.V_reads' HO0.out).2.1; have hC9 : Kd.F (Kd.int .u8) _ _ A0 l0.length l0 := (Kd.V_at (base := w.heap.size) HO0.out).2.2
      have hcut9 := cut_from (P := Tryz.prog) 22 5 .i64 Tryz.underlying22 hi09 1 hsz9 A0 l0.length c0 4 (by omega) q9
      have hr9 := Kd.F_cut (m := (4 : Int).toNat) (c := c0) hC9 (by omega) hroom9
      obtain ⟨A9, hA9⟩ : ∃ A1, A1 = (if c0 = (4 : Int).toNat then A0 else (A0 : Option Addr).map (·.add ((4 : Int).toNat * 1))) := ⟨_, rfl⟩; obtain ⟨c9, hc9⟩ : ∃ c1, c1 = c0 - (4 : Int).toNat := ⟨_, rfl⟩
      have hy9 : y124.length = l0.length - (4 : Int).toNat := (by rw [Ny124.out, List.length_drop] <;> omega)
      rw [show (l0).drop (4 : Int).toNat = y124 from Ny124.out.symm] at hr9
      replace hr9 : Kd.F (Kd.int .u8) _ _ A9 y124.length y124 := (by rw [hA9]; exact hr9)
      rw [← hy9, ← hA9, ← hc9] at hcut9
      have HO128 := Aside0.mk (show Kd.V (Kd.int .u8) 5 _ w.heap.size _ (.slice A9 y124.length c9) y124 from Kd.V_mk (by rw [hy9, hc9]; exact Nat.sub_le_sub_right hroom9 _) hr9)
      have HC128 := Aside0.mk (show y124.length ≤ c9 from by rw [hy9, hc9]; exact Nat.sub_le_sub_right hroom9 _)
      clear hr9 hC9 hroom9 hi09 hsz9 hc9; have KY9 := Aside0.mk hy9; have KA9 := Aside0.mk hA9; clear hy9 hA9; replace q9 := eq_true q9
      go_wp2
      repeat (go_quiet (fail); try go_wp2)
      go_meet
      case rel => exact ⟨_, ((t119 == 0)), HW.rs, H', ⟨by first | omega | exact Nat.le_refl _⟩, ⟨HW.zV HO0.out⟩, ⟨HW.zV HO122.out⟩, ⟨HW.zb⟩⟩
  case rest =>
    clear HC4
    (try clear c1); (try clear p2); (try clear c3); (try clear c6); (try clear c6b0); (try clear c6b1); (try clear p6); (try clear c7); (try clear c7b0); (try clear c8); (try clear q8); (try clear c9); (try clear q9); (try clear q8); (try clear q9)
    obtain ⟨kq, x26_3, rfl, HA, HJ3, HO_0, HO_6, HB⟩ := hcut
    cases kq with
    | zero => exact absurd HA.out (by simp [bsoncore_readstring.j0])
    | succ kj3 =>
      have H := HA.out; clear HA
      simp only [bsoncore_readstring.j0] at H
      by_cases c10 : x26_3 = true
      · subst c10
        have H1 : (some ((⟨#[]⟩ : ByteArray), l0, false)) = some (r1, r2, r3) := by rw [if_pos rfl] at H; exact H
        clear H; have H := H1; clear H1
        as_aux_lemma =>
          simp only [Option.some.injEq, Prod.mk.injEq] at H
          obtain ⟨rfl, rfl, rfl⟩ := H
          go_wp2
          repeat (go_quiet (fail); try go_wp2)
          go_ret3
          exact ⟨_, rfl, HW.zV HO_0.out, HW.zb⟩
      replace c10 := Bool.eq_false_iff.mpr c10; subst c10
      have H1 : (if 0 ≤ (wrap32 (t119 - 1)) then (if (wrap32 (t119 - 1)) ≤ (t120.length : Int) then (if 0 ≤ t119 then (if t119 ≤ (t120.length : Int) then (some (strOfNums (t120.take ((wrap32 (t119 - 1)) : Int).toNat), (t120.drop (t119 : Int).toNat), true)) else (none)) else (none)) else (none)) else (none)) = some (r1, r2, r3) := by rw [if_neg (show ¬ (false = true) by decide)] at H; exact H
      clear H; have H := H1; clear H1; obtain ⟨ji11, hji11⟩ : ∃ j_ : Int, (wrap32 (t119 - 1)) = j_ := ⟨_, rfl⟩
      replace H : (if 0 ≤ (ji11) then (if (ji11) ≤ (t120.length : Int) then (if 0 ≤ t119 then (if t119 ≤ (t120.length : Int) then (some (strOfNums (t120.take ((ji11) : Int).toNat), (t120.drop (t119 : Int).toNat), true)) else (none)) else (none)) else (none)) else (none)) = some (r1, r2, r3) := by first | (rw [hji11] at H; exact H) | (simp only [hji11] at H ⊢; exact H)
      have hji11w : (IntKind.i32.wrap (t119 - 1)) = ji11 := (i32_w _).trans hji11
      by_cases c12 : 0 ≤ (ji11)
      rotate_left
      · rw [if_neg c12] at H
        exact absurd H (by simp)
      rw [if_pos c12] at H; have c12b0 := eq_true c12; have c12b1 : decide (0 ≤ (ji11)) = true := decide_eq_true c12; clear c12
      by_cases c13 : (ji11) ≤ (t120.length : Int)
      rotate_left
      · rw [if_neg c13] at H
        exact absurd H (by simp)
      rw [if_pos c13] at H; have c13b0 := eq_true c13; have c13b1 : decide ((ji11) ≤ (t120.length : Int)) = true := decide_eq_true c13; clear c13; obtain ⟨y129, hy129⟩ : ∃ y_ : List Int, y_ = (t120.take ((ji11) : Int).toNat) := ⟨_, rfl⟩
      replace H : (if 0 ≤ t119 then (if t119 ≤ (t120.length : Int) then (some (strOfNums y129, (t120.drop (t119 : Int).toNat), true)) else (none)) else (none)) = some (r1, r2, r3) := by (try rw [hy129]); exact HW.rp
      have Ny129 := Aside0.mk hy129; clear hy129
      by_cases c14 : 0 ≤ t119
      rotate_left
      · rw [if_neg c14] at H
        exact absurd H (by simp)
      rw [if_pos c14] at H; have c14b0 := eq_true c14; have c14b1 : decide (0 ≤ t119) = true := decide_eq_true c14; clear c14
      by_cases c15 : t119 ≤ (t120.length : Int)
      rotate_left
      · rw [if_neg c15] at H
        exact absurd H (by simp)
      rw [if_pos c15] at H; have c15b0 := eq_true c15; have c15b1 : decide (t119 ≤ (t120.length : Int)) = true := decide_eq_true c15; clear c15; obtain ⟨y134, hy134⟩ : ∃ y_ : List Int, y_ = (t120.drop (t119 : Int).toNat) := ⟨_, rfl⟩
      replace H : (some (strOfNums y129, y134, true)) = some (r1, r2, r3) := by (try rw [hy134]); exact HW.rp
      have Ny134 := Aside0.mk hy134; clear hy134
      as_aux_lemma =>
        simp only [Option.some.injEq, Prod.mk.injEq] at H
        obtain ⟨rfl, rfl, rfl⟩ := H; obtain ⟨Ao17, co17, eo17⟩ := Kd.V_slice HO_6.out; subst eo17
        have q16 : ((ji11) : Int) ≤ ((t120.length : Int) : Int) := HW.od
        obtain ⟨i016, hi016, _, hsz16, _⟩ := info_parts info5; have hroom16 : t120.length ≤ co17 := (Kd.V_reads' HO_6.out).2.1; have hC16 : Kd.F (Kd.int .u8) _ _ Ao17 t120.length t120 := (Kd.V_at (base := w.heap.size) HO_6.out).2.2
        have hcut16 := cut_to (P := Tryz.prog) 22 5 .i32 Tryz.underlying22 hi016 Ao17 t120.length co17 (ji11) (HW.od) q16 hroom16
        have hr16 := Kd.F_take (m := ((ji11) : Int).toNat) hC16 (by omega)
        have hy16 : y129.length = ((ji11) : Int).toNat := (by rw [Ny129.out, List.length_take]; omega)
        rw [← Ny129.out] at hr16; rw [← hy16] at hcut16
        have HO133 := Aside0.mk (show Kd.V (Kd.int .u8) 5 _ w.heap.size _ (.slice Ao17 y129.length co17) y129 from Kd.V_mk (by omega) hr16)
        have HC133 := Aside0.mk (show y129.length ≤ co17 from by omega)
        clear hr16 hC16 hroom16 hi016 hsz16; have KY16 := Aside0.mk hy16; clear hy16; replace q16 := eq_true q16; have hcv18 := HW.V_string (P := Tryz.prog) Tryz.underlying22 Tryz.underlying5 Tryz.underlying9 (HO133.out); have hcv19 := fun m_ : Nat => HW.V_string (P := Tryz.prog) Tryz.underlying22 Tryz.underlying5 Tryz.underlying9 (Kd.V_below HO133.out (pw_below_drewN (Below.refl _ _) m_))
        have q20 : (t119 : Int) ≤ ((t120.length : Int) : Int) := HW.od
        obtain ⟨i020, hi020, _, hsz20, _⟩ := info_parts info5; have hroom20 : t120.length ≤ co17 := (Kd.V_reads' HO_6.out).2.1; have hC20 : Kd.F (Kd.int .u8) _ _ Ao17 t120.length t120 := (Kd.V_at (base := w.heap.size) HO_6.out).2.2
        have q020 : (0 : Int) ≤ (t119 : Int) := HW.od
        have hcut20 := cut_from (P := Tryz.prog) 22 5 .i32 Tryz.underlying22 hi020 1 hsz20 Ao17 t120.length co17 t119 q020 q20
        have hr20 := Kd.F_cut (m := (t119 : Int).toNat) (c := co17) hC20 (by omega) hroom20
        obtain ⟨A20, hA20⟩ : ∃ A1, A1 = (if co17 = (t119 : Int).toNat then Ao17 else (Ao17 : Option Addr).map (·.add ((t119 : Int).toNat * 1))) := ⟨_, rfl⟩; obtain ⟨c20, hc20⟩ : ∃ c1, c1 = co17 - (t119 : Int).toNat := ⟨_, rfl⟩
        have hy20 : y134.length = t120.length - (t119 : Int).toNat := (by rw [Ny134.out, List.length_drop] <;> omega)
        rw [show (t120).drop (t119 : Int).toNat = y134 from Ny134.out.symm] at hr20
        replace hr20 : Kd.F (Kd.int .u8) _ _ A20 y134.length y134 := (by rw [hA20]; exact hr20)
        rw [← hy20, ← hA20, ← hc20] at hcut20
        have HO138 := Aside0.mk (show Kd.V (Kd.int .u8) 5 _ w.heap.size _ (.slice A20 y134.length c20) y134 from Kd.V_mk (by rw [hy20, hc20]; exact Nat.sub_le_sub_right hroom20 _) hr20)
        have HC138 := Aside0.mk (show y134.length ≤ c20 from by rw [hy20, hc20]; exact Nat.sub_le_sub_right hroom20 _)
        clear hr20 hC20 hroom20 hi020 hsz20 hc20; have KY20 := Aside0.mk hy20; have KA20 := Aside0.mk hA20; clear hy20 hA20; replace q20 := eq_true q20
        go_wp2
        repeat (go_quiet (fail); try go_wp2)
        go_ret3
        exact ⟨_, by first | rfl | (simp [errW_none, errW_some] <;> rfl) | (simp only [← hji11]; first | rfl | (simp [errW_none, errW_some] <;> rfl)) | (simp [*, errW_none, errW_some] <;> rfl), HW.zV HO138.out, HW.zb⟩
def bsoncore_ReadString.f (k : Nat) (l0 : List Int) : Option (ByteArray × List Int × Bool) := (bsoncore_readstring.f k l0).bind fun bt139 => (some (bt139.1, bt139.2.1, bt139.2.2))
theorem bsoncore_ReadString.mono : ∀ a0 k, LeO (bsoncore_ReadString.f k a0) (bsoncore_ReadString.f (k + 1) a0) := by
  intro a0 k
  unfold bsoncore_ReadString.f
  have m0_ := @bsoncore_readstring.mono; exact HW.mo
theorem bsoncore_ReadString.calls (k : Nat) (P0_ : Nat → Prop) (A0 : Option Addr) (c0 : Nat) (l0 : List Int) (r1 : ByteArray) (r2 : List Int) (r3 : Bool) (w : World) (hs0 : Kd.V (Kd.int .u8) 5 w w.heap.size (fun k_ => P0_ k_) (.slice A0 l0.length c0) l0) (h : bsoncore_ReadString.f k l0 = some (r1, r2, r3)) :
    Calls Tryz.prog 72 #[.slice A0 l0.length c0] w fun e w' => ∃ v1_ : Value, e = .returned (.tuple #[.string r1, v1_, .bool r3]) ∧ Kd.V (Kd.int .u8) 5 w' w.heap.size (fun k_ => (P0_ k_ ∨ w.heap.size ≤ k_)) v1_ r2 ∧ Below w.heap.size w w' := by
  have HO0 := Aside0.mk (show Kd.V (Kd.int .u8) 5 w w.heap.size (fun k_ => (P0_ k_ ∨ w.heap.size ≤ k_)) (.slice A0 l0.length c0) l0 from Kd.V_mono hs0 (fun k_ hk => .inl hk)); have HB := Aside0.mk (Below.refl w.heap.size w); have H : ((bsoncore_readstring.f k l0).bind fun bt139 => (some (bt139.1, bt139.2.1, bt139.2.2))) = some (r1, r2, r3) := h; clear h; replace H := Option.bind_eq_some_iff.mp H; obtain ⟨⟨t139, t140, t143⟩, A20, H⟩ := H; replace H : (some (t139, t140, t143)) = some (r1, r2, r3) := H; have A2 := Aside0.mk A20; clear A20
  as_aux_lemma =>
    simp only [Option.some.injEq, Prod.mk.injEq] at H
    obtain ⟨rfl, rfl, rfl⟩ := H
    go_enter Tryz.func72, Tryz.ntmps72
    go_wp2_with (first | ((with_reducible refine gate_callee (f := 111) rfl ?_); refine HW.gz (some 6) rfl rfl Tryz.func111 (by kernel_rfl) rfl #[.slice A0 l0.length c0] rfl ?_; (with_reducible refine (bsoncore_readstring.calls k (fun k_ => (P0_ k_ ∨ w.heap.size ≤ k_)) _ _ l0 t139 t140 t143 _ ?side1 A2.out).mono ?_); (case side1 => exact HO0.out); rintro e w3 ⟨v141, rfl, ho0, hb⟩; refine ⟨_, rfl, ?_⟩; have HO142 := Aside0.mk (Kd.V_lower (Kd.V_mono (ok' := fun k_ => (P0_ k_ ∨ w.heap.size ≤ k_)) ho0 (fun k_ hk_ => Or.elim hk_ (fun hs_ => hs_) (fun hn_ => (.inr (Nat.le_trans (below_size HW.zb) hn_))))) (below_size HW.zb)); replace HB := Aside0.mk (below_step HW.zb hb); (try clear hb); (try clear ho0)))
    go_ret3
    exact ⟨_, rfl, HW.zV HO142.out, HW.zb⟩
def bsoncore_readLengthBytes.f (l0 : List Int) : Option (List Int × List Int × Bool) := (bsoncore_ReadLength.f l0).bind fun bt144 => (if bt144.2.2 = true then (if bt144.1 < 4 then (none) else (if (l0.length : Int) < (wrap64 (bt144.1)) then (none) else (if 0 ≤ bt144.1 then (if bt144.1 ≤ (l0.length : Int) then (some ((l0.take (bt144.1 : Int).toNat), (l0.drop (bt144.1 : Int).toNat), true)) else (none)) else (none)))) else (some (([] : List Int), l0, false)))
theorem bsoncore_readLengthBytes.calls (P0_ : Nat → Prop) (A0 : Option Addr) (c0 : Nat) (l0 : List Int) (r1 : List Int) (r2 : List Int) (r3 : Bool) (w : World) (hs0 : Kd.V (Kd.int .u8) 5 w w.heap.size (fun k_ => P0_ k_) (.slice A0 l0.length c0) l0) (h : bsoncore_readLengthBytes.f l0 = some (r1, r2, r3)) :
    Calls Tryz.prog 112 #[.slice A0 l0.length c0] w fun e w' => ∃ v0_ v1_ : Value, e = .returned (.tuple #[v0_, v1_, .bool r3]) ∧ Kd.V (Kd.int .u8) 5 w' w.heap.size (fun k_ => (P0_ k_ ∨ w.heap.size ≤ k_)) v0_ r1 ∧ Kd.V (Kd.int .u8) 5 w' w.heap.size (fun k_ => (P0_ k_ ∨ w.heap.size ≤ k_)) v1_ r2 ∧ Below w.heap.size w w' := by
  have HO0 := Aside0.mk (show Kd.V (Kd.int .u8) 5 w w.heap.size (fun k_ => (P0_ k_ ∨ w.heap.size ≤ k_)) (.slice A0 l0.length c0) l0 from Kd.V_mono hs0 (fun k_ hk => .inl hk)); have HB := Aside0.mk (Below.refl w.heap.size w); have H : ((bsoncore_ReadLength.f l0).bind fun bt144 => (if bt144.2.2 = true then (if bt144.1 < 4 then (none) else (if (l0.length : Int) < (wrap64 (bt144.1)) then (none) else (if 0 ≤ bt144.1 then (if bt144.1 ≤ (l0.length : Int) then (some ((l0.take (bt144.1 : Int).toNat), (l0.drop (bt144.1 : Int).toNat), true)) else (none)) else (none)))) else (some (([] : List Int), l0, false)))) = some (r1, r2, r3) := h; clear h; replace H := Option.bind_eq_some_iff.mp H; obtain ⟨⟨t144, t145, t148⟩, A20, H⟩ := H; replace H : (if t148 = true then (if t144 < 4 then (none) else (if (l0.length : Int) < (wrap64 (t144)) then (none) else (if 0 ≤ t144 then (if t144 ≤ (l0.length : Int) then (some ((l0.take (t144 : Int).toNat), (l0.drop (t144 : Int).toNat), true)) else (none)) else (none)))) else (some (([] : List Int), l0, false))) = some (r1, r2, r3) := H; have A2 := Aside0.mk A20; clear A20
  by_cases c3 : t148 = true
  rotate_left
  · replace c3 := Bool.eq_false_iff.mpr c3
    subst c3
    have H1 : (some (([] : List Int), l0, false)) = some (r1, r2, r3) := by rw [if_neg (show ¬ (false = true) by decide)] at H; exact H
    clear H; have H := H1; clear H1
    as_aux_lemma =>
      simp only [Option.some.injEq, Prod.mk.injEq] at H
      obtain ⟨rfl, rfl, rfl⟩ := H
      go_enter Tryz.func112, Tryz.ntmps112
      go_wp2_with (first | (go_at_call 113; (with_reducible refine (bsoncore_ReadLength.calls (fun k_ => (P0_ k_ ∨ w.heap.size ≤ k_)) _ _ l0 t144 t145 false _ ?side1 A2.out).mono ?_); (case side1 => exact HO0.out); rintro e w13 ⟨v146, rfl, ho0, hb⟩; replace HO0 := Aside0.mk (Kd.V_below (HW.zV HO0.out) hb); replace HB := Aside0.mk (below_step HW.zb hb); (try clear hb); (try clear ho0)))
      repeat (go_quiet (fail); try go_wp2)
      go_ret3
      exact ⟨_, _, rfl, Kd.V_nil _ _ _ _ _, HW.zV HO0.out, HW.zb⟩
  subst c3
  have H1 : (if t144 < 4 then (none) else (if (l0.length : Int) < (wrap64 (t144)) then (none) else (if 0 ≤ t144 then (if t144 ≤ (l0.length : Int) then (some ((l0.take (t144 : Int).toNat), (l0.drop (t144 : Int).toNat), true)) else (none)) else (none)))) = some (r1, r2, r3) := by rw [if_pos rfl] at H; exact H
  clear H; have H := H1; clear H1
  by_cases c4 : t144 < 4
  · rw [if_pos c4] at H
    exact absurd H (by simp)
  rw [if_neg c4] at H; have c4b0 : decide (t144 < 4) = false := decide_eq_false c4; clear c4
  by_cases c5 : (l0.length : Int) < (wrap64 (t144))
  · rw [if_pos c5] at H
    exact absurd H (by simp)
  rw [if_neg c5] at H; have c5b0 : decide ((l0.length : Int) < (wrap64 (t144))) = false := decide_eq_false c5; clear c5
  by_cases c6 : 0 ≤ t144
  rotate_left
  · rw [if_neg c6] at H
    exact absurd H (by simp)
  rw [if_pos c6] at H; have c6b0 := eq_true c6; have c6b1 : decide (0 ≤ t144) = true := decide_eq_true c6; clear c6
  by_cases c7 : t144 ≤ (l0.length : Int)
  rotate_left
  · rw [if_neg c7] at H
    exact absurd H (by simp)
  rw [if_pos c7] at H; have c7b0 := eq_true c7; have c7b1 : decide (t144 ≤ (l0.length : Int)) = true := decide_eq_true c7; clear c7; obtain ⟨y149, hy149⟩ : ∃ y_ : List Int, y_ = (l0.take (t144 : Int).toNat) := ⟨_, rfl⟩
  replace H : (some (y149, (l0.drop (t144 : Int).toNat), true)) = some (r1, r2, r3) := by (try rw [hy149]); exact HW.rp
  have Ny149 := Aside0.mk hy149; clear hy149
  have c8b0 := eq_true (HW.od : 0 ≤ t144)
  have c9b0 := eq_true (HW.od : t144 ≤ (l0.length : Int))
  obtain ⟨y154, hy154⟩ : ∃ y_ : List Int, y_ = (l0.drop (t144 : Int).toNat) := ⟨_, rfl⟩
  replace H : (some (y149, y154, true)) = some (r1, r2, r3) := by (try rw [hy154]); exact HW.rp
  have Ny154 := Aside0.mk hy154; clear hy154
  as_aux_lemma =>
    simp only [Option.some.injEq, Prod.mk.injEq] at H
    obtain ⟨rfl, rfl, rfl⟩ := H
    go_enter Tryz.func112, Tryz.ntmps112
    go_wp2_with (first | (go_at_call 113; (with_reducible refine (bsoncore_ReadLength.calls (fun k_ => (P0_ k_ ∨ w.heap.size ≤ k_)) _ _ l0 t144 t145 true _ ?side1 A2.out).mono ?_); (case side1 => exact HO0.out); rintro e w10 ⟨v146, rfl, ho0, hb⟩; replace HO0 := Aside0.mk (Kd.V_below (HW.zV HO0.out) hb); replace HB := Aside0.mk (below_step HW.zb hb); (try clear hb); (try clear ho0); have q11 : (t144 : Int) ≤ ((l0.length : Int) : Int) := HW.od; obtain ⟨i011, hi011, _, hsz11, _⟩ := info_parts info5; have hroom11 : l0.length ≤ c0 := (Kd.V_reads' HO0.out).2.1; have hC11 : Kd.F (Kd.int .u8) _ _ A0 l0.length l0 := (Kd.V_at (base := w.heap.size) HO0.out).2.2; have hcut11 := cut_to (P := Tryz.prog) 22 5 .i32 Tryz.underlying22 hi011 A0 l0.length c0 t144 (HW.od) q11 hroom11; have hr11 := Kd.F_take (m := (t144 : Int).toNat) hC11 (by omega); have hy11 : y149.length = (t144 : Int).toNat := (by rw [Ny149.out, List.length_take]; omega); rw [← Ny149.out] at hr11; rw [← hy11] at hcut11; have HO153 := Aside0.mk (show Kd.V (Kd.int .u8) 5 _ w.heap.size _ (.slice A0 y149.length c0) y149 from Kd.V_mk (by omega) hr11); have HC153 := Aside0.mk (show y149.length ≤ c0 from by omega); clear hr11 hC11 hroom11 hi011 hsz11; have KY11 := Aside0.mk hy11; clear hy11; replace q11 := eq_true q11; have q12 : (t144 : Int) ≤ ((l0.length : Int) : Int) := HW.od; obtain ⟨i012, hi012, _, hsz12, _⟩ := info_parts info5; have hroom12 : l0.length ≤ c0 := (Kd.V_reads' HO0.out).2.1; have hC12 : Kd.F (Kd.int .u8) _ _ A0 l0.length l0 := (Kd.V_at (base := w.heap.size) HO0.out).2.2; have q012 : (0 : Int) ≤ (t144 : Int) := HW.od; have hcut12 := cut_from (P := Tryz.prog) 22 5 .i32 Tryz.underlying22 hi012 1 hsz12 A0 l0.length c0 t144 q012 q12; have hr12 := Kd.F_cut (m := (t144 : Int).toNat) (c := c0) hC12 (by omega) hroom12; obtain ⟨A12, hA12⟩ : ∃ A1, A1 = (if c0 = (t144 : Int).toNat then A0 else (A0 : Option Addr).map (·.add ((t144 : Int).toNat * 1))) := ⟨_, rfl⟩; obtain ⟨c12, hc12⟩ : ∃ c1, c1 = c0 - (t144 : Int).toNat := ⟨_, rfl⟩; have hy12 : y154.length = l0.length - (t144 : Int).toNat := (by rw [Ny154.out, List.length_drop] <;> omega); rw [show (l0).drop (t144 : Int).toNat = y154 from Ny154.out.symm] at hr12; replace hr12 : Kd.F (Kd.int .u8) _ _ A12 y154.length y154 := (by rw [hA12]; exact hr12); rw [← hy12, ← hA12, ← hc12] at hcut12; have HO158 := Aside0.mk (show Kd.V (Kd.int .u8) 5 _ w.heap.size _ (.slice A12 y154.length c12) y154 from Kd.V_mk (by rw [hy12, hc12]; exact Nat.sub_le_sub_right hroom12 _) hr12); have HC158 := Aside0.mk (show y154.length ≤ c12 from by rw [hy12, hc12]; exact Nat.sub_le_sub_right hroom12 _); clear hr12 hC12 hroom12 hi012 hsz12 hc12; have KY12 := Aside0.mk hy12; have KA12 := Aside0.mk hA12; clear hy12 hA12; replace q12 := eq_true q12))
    repeat (go_quiet (fail); try go_wp2)
    go_ret3
    exact ⟨_, _, rfl, HW.zV HO153.out, HW.zV HO158.out, HW.zb⟩
def bsoncore_ReadDocument.f (l0 : List Int) : Option (List Int × List Int × Bool) := (bsoncore_readLengthBytes.f l0).bind fun bt159 => (some (bt159.1, bt159.2.1, bt159.2.2))
theorem bsoncore_ReadDocument.calls (P0_ : Nat → Prop) (A0 : Option Addr) (c0 : Nat) (l0 : List Int) (r1 : List Int) (r2 : List Int) (r3 : Bool) (w : World) (hs0 : Kd.V (Kd.int .u8) 5 w w.heap.size (fun k_ => P0_ k_) (.slice A0 l0.length c0) l0) (h : bsoncore_ReadDocument.f l0 = some (r1, r2, r3)) :
    Calls Tryz.prog 73 #[.slice A0 l0.length c0] w fun e w' => ∃ v0_ v1_ : Value, e = .returned (.tuple #[v0_, v1_, .bool r3]) ∧ Kd.V (Kd.int .u8) 5 w' w.heap.size (fun k_ => (P0_ k_ ∨ w.heap.size ≤ k_)) v0_ r1 ∧ Kd.V (Kd.int .u8) 5 w' w.heap.size (fun k_ => (P0_ k_ ∨ w.heap.size ≤ k_)) v1_ r2 ∧ Below w.heap.size w w' := by
  have HO0 := Aside0.mk (show Kd.V (Kd.int .u8) 5 w w.heap.size (fun k_ => (P0_ k_ ∨ w.heap.size ≤ k_)) (.slice A0 l0.length c0) l0 from Kd.V_mono hs0 (fun k_ hk => .inl hk)); have HB := Aside0.mk (Below.refl w.heap.size w); have H : ((bsoncore_readLengthBytes.f l0).bind fun bt159 => (some (bt159.1, bt159.2.1, bt159.2.2))) = some (r1, r2, r3) := h; clear h; replace H := Option.bind_eq_some_iff.mp H; obtain ⟨⟨t159, t162, t165⟩, A20, H⟩ := H; replace H : (some (t159, t162, t165)) = some (r1, r2, r3) := H; have A2 := Aside0.mk A20; clear A20
  as_aux_lemma =>
    simp only [Option.some.injEq, Prod.mk.injEq] at H
    obtain ⟨rfl, rfl, rfl⟩ := H
    go_enter Tryz.func73, Tryz.ntmps73
    go_wp2_with (first | ((with_reducible refine gate_callee (f := 112) rfl ?_); refine HW.gz (some 6) rfl rfl Tryz.func112 (by kernel_rfl) rfl #[.slice A0 l0.length c0] rfl ?_; (with_reducible refine (bsoncore_readLengthBytes.calls (fun k_ => (P0_ k_ ∨ w.heap.size ≤ k_)) _ _ l0 t159 t162 t165 _ ?side1 A2.out).mono ?_); (case side1 => exact HO0.out); rintro e w3 ⟨v160, v163, rfl, ho0, ho1, hb⟩; refine ⟨_, rfl, ?_⟩; have HO161 := Aside0.mk (Kd.V_lower (Kd.V_mono (ok' := fun k_ => (P0_ k_ ∨ w.heap.size ≤ k_)) ho0 (fun k_ hk_ => Or.elim hk_ (fun hs_ => hs_) (fun hn_ => (.inr (Nat.le_trans (below_size HW.zb) hn_))))) (below_size HW.zb)); have HO164 := Aside0.mk (Kd.V_lower (Kd.V_mono (ok' := fun k_ => (P0_ k_ ∨ w.heap.size ≤ k_)) ho1 (fun k_ hk_ => Or.elim hk_ (fun hs_ => hs_) (fun hn_ => (.inr (Nat.le_trans (below_size HW.zb) hn_))))) (below_size HW.zb)); replace HB := Aside0.mk (below_step HW.zb hb); (try clear hb); (try clear ho0); (try clear ho1)))
    go_ret3
    exact ⟨_, _, rfl, HW.zV HO161.out, HW.zV HO164.out, HW.zb⟩
def bsoncore_ReadArray.f (l0 : List Int) : Option (List Int × List Int × Bool) := (bsoncore_readLengthBytes.f l0).bind fun bt166 => (some (bt166.1, bt166.2.1, bt166.2.2))
theorem bsoncore_ReadArray.calls (P0_ : Nat → Prop) (A0 : Option Addr) (c0 : Nat) (l0 : List Int) (r1 : List Int) (r2 : List Int) (r3 : Bool) (w : World) (hs0 : Kd.V (Kd.int .u8) 5 w w.heap.size (fun k_ => P0_ k_) (.slice A0 l0.length c0) l0) (h : bsoncore_ReadArray.f l0 = some (r1, r2, r3)) :
    Calls Tryz.prog 74 #[.slice A0 l0.length c0] w fun e w' => ∃ v0_ v1_ : Value, e = .returned (.tuple #[v0_, v1_, .bool r3]) ∧ Kd.V (Kd.int .u8) 5 w' w.heap.size (fun k_ => (P0_ k_ ∨ w.heap.size ≤ k_)) v0_ r1 ∧ Kd.V (Kd.int .u8) 5 w' w.heap.size (fun k_ => (P0_ k_ ∨ w.heap.size ≤ k_)) v1_ r2 ∧ Below w.heap.size w w' := by
  have HO0 := Aside0.mk (show Kd.V (Kd.int .u8) 5 w w.heap.size (fun k_ => (P0_ k_ ∨ w.heap.size ≤ k_)) (.slice A0 l0.length c0) l0 from Kd.V_mono hs0 (fun k_ hk => .inl hk)); have HB := Aside0.mk (Below.refl w.heap.size w); have H : ((bsoncore_readLengthBytes.f l0).bind fun bt166 => (some (bt166.1, bt166.2.1, bt166.2.2))) = some (r1, r2, r3) := h; clear h; replace H := Option.bind_eq_some_iff.mp H; obtain ⟨⟨t166, t169, t172⟩, A20, H⟩ := H; replace H : (some (t166, t169, t172)) = some (r1, r2, r3) := H; have A2 := Aside0.mk A20; clear A20
  as_aux_lemma =>
    simp only [Option.some.injEq, Prod.mk.injEq] at H
    obtain ⟨rfl, rfl, rfl⟩ := H
    go_enter Tryz.func74, Tryz.ntmps74
    go_wp2_with (first | ((with_reducible refine gate_callee (f := 112) rfl ?_); refine HW.gz (some 6) rfl rfl Tryz.func112 (by kernel_rfl) rfl #[.slice A0 l0.length c0] rfl ?_; (with_reducible refine (bsoncore_readLengthBytes.calls (fun k_ => (P0_ k_ ∨ w.heap.size ≤ k_)) _ _ l0 t166 t169 t172 _ ?side1 A2.out).mono ?_); (case side1 => exact HO0.out); rintro e w3 ⟨v167, v170, rfl, ho0, ho1, hb⟩; refine ⟨_, rfl, ?_⟩; have HO168 := Aside0.mk (Kd.V_lower (Kd.V_mono (ok' := fun k_ => (P0_ k_ ∨ w.heap.size ≤ k_)) ho0 (fun k_ hk_ => Or.elim hk_ (fun hs_ => hs_) (fun hn_ => (.inr (Nat.le_trans (below_size HW.zb) hn_))))) (below_size HW.zb)); have HO171 := Aside0.mk (Kd.V_lower (Kd.V_mono (ok' := fun k_ => (P0_ k_ ∨ w.heap.size ≤ k_)) ho1 (fun k_ hk_ => Or.elim hk_ (fun hs_ => hs_) (fun hn_ => (.inr (Nat.le_trans (below_size HW.zb) hn_))))) (below_size HW.zb)); replace HB := Aside0.mk (below_step HW.zb hb); (try clear hb); (try clear ho0); (try clear ho1)))
    go_ret3
    exact ⟨_, _, rfl, HW.zV HO168.out, HW.zV HO171.out, HW.zb⟩
end Go.Proofs.YtanecebppagakaaGreatDoor.PRx
