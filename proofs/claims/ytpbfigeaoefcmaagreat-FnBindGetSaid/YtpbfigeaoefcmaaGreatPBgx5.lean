import Derived.Test.YtpbfigeaoefcmaaGreatPBgx0
import Derived.Test.YtpbfigeaoefcmaaGreatPBgx4
namespace Go.Proofs.YtpbfigeaoefcmaaGreat.PBg
open Go.RowKit Go.Proofs.YtpbfigeaoefcmaaGreatW.PrintWords Go.Proofs.YtpbfigeaoefcmaaGreatW.PrintLast Go.Proofs.YtpbfigeaoefcmaaGreatW.PrintMore
attribute [local go_sem] max2_int min2_int max_two min_two max_three min_three max_four min_four
set_option linter.unusedVariables false
set_option maxHeartbeats 8000000
set_option maxRecDepth 100000
set_option linter.unusedSimpArgs false
def binaryutil_ReadI32.f (l0 : List Int) : Option (Int × List Int × Bool) := if (l0.length : Int) < 4 then (some (0, l0, false)) else (if 3 < (l0.length : Int) then (if 0 < (l0.length : Int) then (if 1 < (l0.length : Int) then (if 2 < (l0.length : Int) then (if 4 ≤ (l0.length : Int) then (some (Go.bits .or .i32 (Go.bits .or .i32 (Go.bits .or .i32 (wrap32 (rd l0 0)) (wrap32 ((wrap32 (rd l0 1)) * 256))) (wrap32 ((wrap32 (rd l0 2)) * 65536))) (wrap32 ((wrap32 (rd l0 3)) * 16777216)), (l0.drop 4), true)) else (none)) else (none)) else (none)) else (none)) else (none))
theorem binaryutil_ReadI32.calls (P0_ : Nat → Prop) (A0 : Option Addr) (c0 : Nat) (l0 : List Int) (r1 : Int) (r2 : List Int) (r3 : Bool) (w : World) (hs0 : Kd.V (Kd.int .u8) 5 w w.heap.size (fun k_ => P0_ k_) (.slice A0 l0.length c0) l0) (h : binaryutil_ReadI32.f l0 = some (r1, r2, r3)) :
    Calls Tryz.prog 92 #[.slice A0 l0.length c0] w fun e w' => ∃ v1_ : Value, e = .returned (.tuple #[.int .i32 r1, v1_, .bool r3]) ∧ Kd.V (Kd.int .u8) 5 w' w.heap.size (fun k_ => (P0_ k_ ∨ w.heap.size ≤ k_)) v1_ r2 ∧ Below w.heap.size w w' := by
  have HO0 := Aside0.mk (show Kd.V (Kd.int .u8) 5 w w.heap.size (fun k_ => (P0_ k_ ∨ w.heap.size ≤ k_)) (.slice A0 l0.length c0) l0 from Kd.V_mono hs0 (fun k_ hk => .inl hk)); have HB := Aside0.mk (Below.refl w.heap.size w); have H : (if (l0.length : Int) < 4 then (some (0, l0, false)) else (if 3 < (l0.length : Int) then (if 0 < (l0.length : Int) then (if 1 < (l0.length : Int) then (if 2 < (l0.length : Int) then (if 4 ≤ (l0.length : Int) then (some (Go.bits .or .i32 (Go.bits .or .i32 (Go.bits .or .i32 (wrap32 (rd l0 0)) (wrap32 ((wrap32 (rd l0 1)) * 256))) (wrap32 ((wrap32 (rd l0 2)) * 65536))) (wrap32 ((wrap32 (rd l0 3)) * 16777216)), (l0.drop 4), true)) else (none)) else (none)) else (none)) else (none)) else (none))) = some (r1, r2, r3) := h; clear h
  by_cases c2 : (l0.length : Int) < 4
  · rw [if_pos c2] at H
    have c2b0 : decide ((l0.length : Int) < 4) = true := decide_eq_true c2
    have c2b1 : decide (l0.length < 4) = true := decide_eq_true (by omega)
    clear c2
    as_aux_lemma =>
      simp only [Option.some.injEq, Prod.mk.injEq] at H
      obtain ⟨rfl, rfl, rfl⟩ := H
      go_enter Tryz.func92, Tryz.ntmps92
      go_wp2
      repeat (go_quiet (fail); try go_wp2)
      go_ret3
      exact ⟨_, rfl, HW.zV HO0.out, HW.zb⟩
  rw [if_neg c2] at H; have c2b0 : decide ((l0.length : Int) < 4) = false := decide_eq_false c2
  have c2b1 : decide (l0.length < 4) = false := decide_eq_false (by omega)
  clear c2
  by_cases c3 : 3 < (l0.length : Int)
  rotate_left
  · rw [if_neg c3] at H
    exact absurd H (by simp)
  rw [if_pos c3] at H; have c3b0 : decide (3 < (l0.length : Int)) = true := decide_eq_true c3
  have c3b1 : decide (3 < l0.length) = true := decide_eq_true (by omega)
  clear c3
  by_cases c4 : 0 < (l0.length : Int)
  rotate_left
  · rw [if_neg c4] at H
    exact absurd H (by simp)
  rw [if_pos c4] at H; have c4b0 : decide (0 < (l0.length : Int)) = true := decide_eq_true c4
  have c4b1 : decide (0 < l0.length) = true := decide_eq_true (by omega)
  clear c4
  by_cases c5 : 1 < (l0.length : Int)
  rotate_left
  · rw [if_neg c5] at H
    exact absurd H (by simp)
  rw [if_pos c5] at H; have c5b0 : decide (1 < (l0.length : Int)) = true := decide_eq_true c5
  have c5b1 : decide (1 < l0.length) = true := decide_eq_true (by omega)
  clear c5
  by_cases c6 : 2 < (l0.length : Int)
  rotate_left
  · rw [if_neg c6] at H
    exact absurd H (by simp)
  rw [if_pos c6] at H; have c6b0 : decide (2 < (l0.length : Int)) = true := decide_eq_true c6
  have c6b1 : decide (2 < l0.length) = true := decide_eq_true (by omega)
  clear c6
  by_cases c7 : 4 ≤ (l0.length : Int)
  rotate_left
  · rw [if_neg c7] at H
    exact absurd H (by simp)
  rw [if_pos c7] at H; have c7b0 := eq_true c7; have c7b1 : decide (4 ≤ (l0.length : Int)) = true := decide_eq_true c7; clear c7; obtain ⟨y132, hy132⟩ : ∃ y_ : List Int, y_ = (l0.drop 4) := ⟨_, rfl⟩
  replace H : (some (Go.bits .or .i32 (Go.bits .or .i32 (Go.bits .or .i32 (wrap32 (rd l0 0)) (wrap32 ((wrap32 (rd l0 1)) * 256))) (wrap32 ((wrap32 (rd l0 2)) * 65536))) (wrap32 ((wrap32 (rd l0 3)) * 16777216)), y132, true)) = some (r1, r2, r3) := by (try rw [hy132]); exact HW.rp
  have Ny132 := Aside0.mk hy132; clear hy132
  as_aux_lemma =>
    simp only [Option.some.injEq, Prod.mk.injEq] at H
    obtain ⟨rfl, rfl, rfl⟩ := H
    have p127 : 0 ≤ (3 : Int) := (by omega)
    have q127 : 3 < (l0.length : Int) := HW.od
    obtain ⟨ad127, e127, hx127_0⟩ := Kd.at_int (Kd.V_reads' HO0.out).2.2 3 p127 q127
    cases e127
    (try simp only [show (3 : Int).toNat = 3 from rfl, Nat.reduceMul, Nat.reduceEqDiff, Go.Addr.add, ↓reduceIte] at hx127_0)
    have qi127 : (3 < l0.length) = True := eq_true (by omega)
    (try rw [show ((3 : Int)).toNat = 3 from rfl] at hx127_0)
    replace p127 := eq_true p127; replace q127 := eq_true q127
    have p128 : 0 ≤ (0 : Int) := (by omega)
    have q128 : 0 < (l0.length : Int) := HW.od
    obtain ⟨ad128, e128, hx128_0⟩ := Kd.at_int (Kd.V_reads' HO0.out).2.2 0 p128 q128
    obtain rfl : ad127 = ad128 := (by injection e128)
    have qi128 : (0 < l0.length) = True := eq_true (by omega)
    (try rw [show ((0 : Int)).toNat = 0 from rfl] at hx128_0)
    (try rw [Addr.add_zero'] at hx128_0)
    replace p128 := eq_true p128; replace q128 := eq_true q128
    have p129 : 0 ≤ (1 : Int) := (by omega)
    have q129 : 1 < (l0.length : Int) := HW.od
    obtain ⟨ad129, e129, hx129_0⟩ := Kd.at_int (Kd.V_reads' HO0.out).2.2 1 p129 q129
    obtain rfl : ad127 = ad129 := (by injection e129)
    (try simp only [show (1 : Int).toNat = 1 from rfl, Nat.reduceMul, Nat.reduceEqDiff, Go.Addr.add, ↓reduceIte] at hx129_0)
    have qi129 : (1 < l0.length) = True := eq_true (by omega)
    (try rw [show ((1 : Int)).toNat = 1 from rfl] at hx129_0)
    replace p129 := eq_true p129; replace q129 := eq_true q129
    have p130 : 0 ≤ (2 : Int) := (by omega)
    have q130 : 2 < (l0.length : Int) := HW.od
    obtain ⟨ad130, e130, hx130_0⟩ := Kd.at_int (Kd.V_reads' HO0.out).2.2 2 p130 q130
    obtain rfl : ad127 = ad130 := (by injection e130)
    (try simp only [show (2 : Int).toNat = 2 from rfl, Nat.reduceMul, Nat.reduceEqDiff, Go.Addr.add, ↓reduceIte] at hx130_0)
    have qi130 : (2 < l0.length) = True := eq_true (by omega)
    (try rw [show ((2 : Int)).toNat = 2 from rfl] at hx130_0)
    replace p130 := eq_true p130; replace q130 := eq_true q130
    have p131 : 0 ≤ (3 : Int) := (by omega)
    have q131 : 3 < (l0.length : Int) := HW.od
    obtain ⟨ad131, e131, hx131_0⟩ := Kd.at_int (Kd.V_reads' HO0.out).2.2 3 p131 q131
    obtain rfl : ad127 = ad131 := (by injection e131)
    (try simp only [show (3 : Int).toNat = 3 from rfl, Nat.reduceMul, Nat.reduceEqDiff, Go.Addr.add, ↓reduceIte] at hx131_0)
    have qi131 : (3 < l0.length) = True := eq_true (by omega)
    (try rw [show ((3 : Int)).toNat = 3 from rfl] at hx131_0)
    replace p131 := eq_true p131; replace q131 := eq_true q131
    have q8 : (4 : Int) ≤ ((l0.length : Int) : Int) := HW.od
    obtain ⟨i08, hi08, _, hsz8, _⟩ := info_parts info5; have hroom8 : l0.length ≤ c0 := (Kd.V_reads' HO0.out).2.1; have hC8 : Kd.F (Kd.int .u8) _ _ (some ad127) l0.length l0 := (Kd.V_at (base := w.heap.size) HO0.out).2.2
    have hcut8 := cut_from (P := Tryz.prog) 23 5 .i64 Tryz.underlying23 hi08 1 hsz8 (some ad127) l0.length c0 4 (by omega) q8
    have hr8 := Kd.F_cut (m := (4 : Int).toNat) (c := c0) hC8 (by omega) hroom8
    obtain ⟨A8, hA8⟩ : ∃ A1, A1 = (if c0 = (4 : Int).toNat then (some ad127) else ((some ad127) : Option Addr).map (·.add ((4 : Int).toNat * 1))) := ⟨_, rfl⟩; obtain ⟨c8, hc8⟩ : ∃ c1, c1 = c0 - (4 : Int).toNat := ⟨_, rfl⟩
    have hy8 : y132.length = l0.length - (4 : Int).toNat := (by rw [Ny132.out, List.length_drop] <;> omega)
    rw [show (l0).drop (4 : Int).toNat = y132 from Ny132.out.symm] at hr8
    replace hr8 : Kd.F (Kd.int .u8) _ _ A8 y132.length y132 := (by rw [hA8]; exact hr8)
    rw [← hy8, ← hA8, ← hc8] at hcut8
    have HO136 := Aside0.mk (show Kd.V (Kd.int .u8) 5 _ w.heap.size _ (.slice A8 y132.length c8) y132 from Kd.V_mk (by rw [hy8, hc8]; exact Nat.sub_le_sub_right hroom8 _) hr8)
    have HC136 := Aside0.mk (show y132.length ≤ c8 from by rw [hy8, hc8]; exact Nat.sub_le_sub_right hroom8 _)
    clear hr8 hC8 hroom8 hi08 hsz8 hc8; have KY8 := Aside0.mk hy8; have KA8 := Aside0.mk hA8; clear hy8 hA8; replace q8 := eq_true q8
    go_enter Tryz.func92, Tryz.ntmps92
    go_wp2
    repeat (go_quiet (fail); try go_wp2)
    go_ret3
    exact ⟨_, rfl, HW.zV HO136.out, HW.zb⟩
def bsoncore_ReadLength.f (l0 : List Int) : Option (Int × List Int × Bool) := (binaryutil_ReadI32.f l0).bind fun bt137 => (if bt137.1 < 0 then (some (bt137.1, bt137.2.1, false)) else (some (bt137.1, bt137.2.1, bt137.2.2)))
theorem bsoncore_ReadLength.calls (P0_ : Nat → Prop) (A0 : Option Addr) (c0 : Nat) (l0 : List Int) (r1 : Int) (r2 : List Int) (r3 : Bool) (w : World) (hs0 : Kd.V (Kd.int .u8) 5 w w.heap.size (fun k_ => P0_ k_) (.slice A0 l0.length c0) l0) (h : bsoncore_ReadLength.f l0 = some (r1, r2, r3)) :
    Calls Tryz.prog 89 #[.slice A0 l0.length c0] w fun e w' => ∃ v1_ : Value, e = .returned (.tuple #[.int .i32 r1, v1_, .bool r3]) ∧ Kd.V (Kd.int .u8) 5 w' w.heap.size (fun k_ => (P0_ k_ ∨ w.heap.size ≤ k_)) v1_ r2 ∧ Below w.heap.size w w' := by
  have HO0 := Aside0.mk (show Kd.V (Kd.int .u8) 5 w w.heap.size (fun k_ => (P0_ k_ ∨ w.heap.size ≤ k_)) (.slice A0 l0.length c0) l0 from Kd.V_mono hs0 (fun k_ hk => .inl hk)); have HB := Aside0.mk (Below.refl w.heap.size w); have H : ((binaryutil_ReadI32.f l0).bind fun bt137 => (if bt137.1 < 0 then (some (bt137.1, bt137.2.1, false)) else (some (bt137.1, bt137.2.1, bt137.2.2)))) = some (r1, r2, r3) := h; clear h; replace H := Option.bind_eq_some_iff.mp H; obtain ⟨⟨t137, t138, t141⟩, A20, H⟩ := H; replace H : (if t137 < 0 then (some (t137, t138, false)) else (some (t137, t138, t141))) = some (r1, r2, r3) := H; have A2 := Aside0.mk A20; clear A20
  by_cases c3 : t137 < 0
  · rw [if_pos c3] at H
    have c3b0 : decide (t137 < 0) = true := decide_eq_true c3; clear c3
    as_aux_lemma =>
      simp only [Option.some.injEq, Prod.mk.injEq] at H
      obtain ⟨rfl, rfl, rfl⟩ := H
      go_enter Tryz.func89, Tryz.ntmps89
      go_wp2_with (first | ((with_reducible refine gate_callee (f := 92) rfl ?_); refine HW.gz (some 9) rfl rfl Tryz.func92 (by kernel_rfl) rfl #[.slice A0 l0.length c0] rfl ?_; (with_reducible refine (binaryutil_ReadI32.calls (fun k_ => (P0_ k_ ∨ w.heap.size ≤ k_)) _ _ l0 t137 t138 t141 _ ?side1 A2.out).mono ?_); (case side1 => exact HO0.out); rintro e w4 ⟨v139, rfl, ho0, hb⟩; refine ⟨_, rfl, ?_⟩; replace HO0 := Aside0.mk (Kd.V_below (HW.zV HO0.out) hb); have HO140 := Aside0.mk (Kd.V_lower (Kd.V_mono (ok' := fun k_ => (P0_ k_ ∨ w.heap.size ≤ k_)) ho0 (fun k_ hk_ => Or.elim hk_ (fun hs_ => hs_) (fun hn_ => (.inr (Nat.le_trans (below_size HW.zb) hn_))))) (below_size HW.zb)); replace HB := Aside0.mk (below_step HW.zb hb); (try clear hb); (try clear ho0)))
      go_ret3
      exact ⟨_, rfl, HW.zV HO140.out, HW.zb⟩
  rw [if_neg c3] at H; have c3b0 : decide (t137 < 0) = false := decide_eq_false c3; clear c3
  as_aux_lemma =>
    simp only [Option.some.injEq, Prod.mk.injEq] at H
    obtain ⟨rfl, rfl, rfl⟩ := H
    go_enter Tryz.func89, Tryz.ntmps89
    go_wp2_with (first | ((with_reducible refine gate_callee (f := 92) rfl ?_); refine HW.gz (some 9) rfl rfl Tryz.func92 (by kernel_rfl) rfl #[.slice A0 l0.length c0] rfl ?_; (with_reducible refine (binaryutil_ReadI32.calls (fun k_ => (P0_ k_ ∨ w.heap.size ≤ k_)) _ _ l0 t137 t138 t141 _ ?side1 A2.out).mono ?_); (case side1 => exact HO0.out); rintro e w5 ⟨v139, rfl, ho0, hb⟩; refine ⟨_, rfl, ?_⟩; have HO140 := Aside0.mk (Kd.V_lower (Kd.V_mono (ok' := fun k_ => (P0_ k_ ∨ w.heap.size ≤ k_)) ho0 (fun k_ hk_ => Or.elim hk_ (fun hs_ => hs_) (fun hn_ => (.inr (Nat.le_trans (below_size HW.zb) hn_))))) (below_size HW.zb)); replace HB := Aside0.mk (below_step HW.zb hb); (try clear hb); (try clear ho0)))
    go_ret3
    exact ⟨_, rfl, HW.zV HO140.out, HW.zb⟩
def bsoncore_readstring.j0 : Nat → List Int → Int → List Int → Bool → Option (ByteArray × List Int × Bool)
  | 0, _, _, _, _ => none
  | k + 1, x0, x5, x6, x26 => if x26 = true then (some ((⟨#[]⟩ : ByteArray), x0, false)) else (if 0 ≤ (wrap32 (x5 - 1)) then (if (wrap32 (x5 - 1)) ≤ (x6.length : Int) then (if 0 ≤ x5 then (if x5 ≤ (x6.length : Int) then (some (strOfNums (x6.take ((wrap32 (x5 - 1)) : Int).toNat), (x6.drop (x5 : Int).toNat), true)) else (none)) else (none)) else (none)) else (none))
def bsoncore_readstring.f (k : Nat) (l0 : List Int) : Option (ByteArray × List Int × Bool) := (bsoncore_ReadLength.f l0).bind fun bt142 => (if bt142.2.2 = true then (if 4 ≤ (l0.length : Int) then (if ((l0.drop 4).length : Int) < (wrap64 (bt142.1)) then (bsoncore_readstring.j0 k l0 bt142.1 bt142.2.1 true) else (bsoncore_readstring.j0 k l0 bt142.1 bt142.2.1 (bt142.1 == 0))) else (none)) else (some ((⟨#[]⟩ : ByteArray), l0, false)))
theorem bsoncore_readstring.mono_l : ∀ k, (∀ y0 y1 y2 y3, LeO (bsoncore_readstring.j0 k y0 y1 y2 y3) (bsoncore_readstring.j0 (k + 1) y0 y1 y2 y3))
  | 0 => fun _ _ _ _ r h => by simp [bsoncore_readstring.j0] at h
  | k + 1 => by
    have ih0 := bsoncore_readstring.mono_l k
    · intro y0 y1 y2 y3
      unfold bsoncore_readstring.j0
      have m0_ := @ih0; exact HW.mo
theorem bsoncore_readstring.mono : ∀ a0 k, LeO (bsoncore_readstring.f k a0) (bsoncore_readstring.f (k + 1) a0) := by
  intro a0 k
  have ih0 := bsoncore_readstring.mono_l k
  unfold bsoncore_readstring.f
  have m0_ := @ih0; exact HW.mo
theorem bsoncore_readstring.calls (k : Nat) (P0_ : Nat → Prop) (A0 : Option Addr) (c0 : Nat) (l0 : List Int) (r1 : ByteArray) (r2 : List Int) (r3 : Bool) (w : World) (hs0 : Kd.V (Kd.int .u8) 5 w w.heap.size (fun k_ => P0_ k_) (.slice A0 l0.length c0) l0) (h : bsoncore_readstring.f k l0 = some (r1, r2, r3)) :
    Calls Tryz.prog 87 #[.slice A0 l0.length c0] w fun e w' => ∃ v1_ : Value, e = .returned (.tuple #[.string r1, v1_, .bool r3]) ∧ Kd.V (Kd.int .u8) 5 w' w.heap.size (fun k_ => (P0_ k_ ∨ w.heap.size ≤ k_)) v1_ r2 ∧ Below w.heap.size w w' := by
  have HO0 := Aside0.mk (show Kd.V (Kd.int .u8) 5 w w.heap.size (fun k_ => (P0_ k_ ∨ w.heap.size ≤ k_)) (.slice A0 l0.length c0) l0 from Kd.V_mono hs0 (fun k_ hk => .inl hk)); have HB := Aside0.mk (Below.refl w.heap.size w); have H : ((bsoncore_ReadLength.f l0).bind fun bt142 => (if bt142.2.2 = true then (if 4 ≤ (l0.length : Int) then (if ((l0.drop 4).length : Int) < (wrap64 (bt142.1)) then (bsoncore_readstring.j0 k l0 bt142.1 bt142.2.1 true) else (bsoncore_readstring.j0 k l0 bt142.1 bt142.2.1 (bt142.1 == 0))) else (none)) else (some ((⟨#[]⟩ : ByteArray), l0, false)))) = some (r1, r2, r3) := h; clear h; replace H := Option.bind_eq_some_iff.mp H; obtain ⟨⟨t142, t143, t146⟩, A20, H⟩ := H; replace H : (if t146 = true then (if 4 ≤ (l0.length : Int) then (if ((l0.drop 4).length : Int) < (wrap64 (t142)) then (bsoncore_readstring.j0 k l0 t142 t143 true) else (bsoncore_readstring.j0 k l0 t142 t143 (t142 == 0))) else (none)) else (some ((⟨#[]⟩ : ByteArray), l0, false))) = some (r1, r2, r3) := H; have A2 := Aside0.mk A20; clear A20
  by_cases c3 : t146 = true
  rotate_left
  · replace c3 := Bool.eq_false_iff.mpr c3
    subst c3
    have H1 : (some ((⟨#[]⟩ : ByteArray), l0, false)) = some (r1, r2, r3) := by rw [if_neg (show ¬ (false = true) by decide)] at H; exact H
    clear H; have H := H1; clear H1
    as_aux_lemma =>
      simp only [Option.some.injEq, Prod.mk.injEq] at H
      obtain ⟨rfl, rfl, rfl⟩ := H
      go_enter Tryz.func87, Tryz.ntmps87
      go_wp2_with (first | (go_at_call 89; (with_reducible refine (bsoncore_ReadLength.calls (fun k_ => (P0_ k_ ∨ w.heap.size ≤ k_)) _ _ l0 t142 t143 false _ ?side1 A2.out).mono ?_); (case side1 => exact HO0.out); rintro e w21 ⟨v144, rfl, ho0, hb⟩; replace HO0 := Aside0.mk (Kd.V_below (HW.zV HO0.out) hb); have HO145 := Aside0.mk (Kd.V_lower (Kd.V_mono (ok' := fun k_ => (P0_ k_ ∨ w.heap.size ≤ k_)) ho0 (fun k_ hk_ => Or.elim hk_ (fun hs_ => hs_) (fun hn_ => (.inr (Nat.le_trans (below_size HW.zb) hn_))))) (below_size HW.zb)); replace HB := Aside0.mk (below_step HW.zb hb); (try clear hb); (try clear ho0)))
      repeat (go_quiet (fail); try go_wp2)
      go_ret3
      exact ⟨_, rfl, HW.zV HO0.out, HW.zb⟩
  subst c3
  have H1 : (if 4 ≤ (l0.length : Int) then (if ((l0.drop 4).length : Int) < (wrap64 (t142)) then (bsoncore_readstring.j0 k l0 t142 t143 true) else (bsoncore_readstring.j0 k l0 t142 t143 (t142 == 0))) else (none)) = some (r1, r2, r3) := by rw [if_pos rfl] at H; exact H
  clear H; have H := H1; clear H1; have HC4 := Aside0.mk H; clear H
  go_enter Tryz.func87, Tryz.ntmps87
  go_upto_region 4 with (first | (go_at_call 89; (with_reducible refine (bsoncore_ReadLength.calls (fun k_ => (P0_ k_ ∨ w.heap.size ≤ k_)) _ _ l0 t142 t143 true _ ?side1 A2.out).mono ?_); (case side1 => exact HO0.out); rintro e w5 ⟨v144, rfl, ho0, hb⟩; replace HO0 := Aside0.mk (Kd.V_below (HW.zV HO0.out) hb); have HO145 := Aside0.mk (Kd.V_lower (Kd.V_mono (ok' := fun k_ => (P0_ k_ ∨ w.heap.size ≤ k_)) ho0 (fun k_ hk_ => Or.elim hk_ (fun hs_ => hs_) (fun hn_ => (.inr (Nat.le_trans (below_size HW.zb) hn_))))) (below_size HW.zb)); replace HB := Aside0.mk (below_step HW.zb hb); (try clear hb); (try clear ho0)))
  repeat (go_quiet (fail); try go_wp2)
  (try simp only [Act.put, List.setIfInBounds_toArray, List.set_cons_zero, List.set_cons_succ])
  go_cut [26] (fun v26 wc => ∃ (kq : Nat) (x26_3 : Bool), v26 = .bool x26_3 ∧ Aside0 (bsoncore_readstring.j0 kq l0 t142 t143 x26_3 = some (r1, r2, r3)) ∧ Aside0 (kq ≤ k) ∧ Aside0 (Kd.V (Kd.int .u8) 5 wc w.heap.size (fun k_ => (P0_ k_ ∨ w.heap.size ≤ k_)) (.slice A0 l0.length c0) l0) ∧ Aside0 (Kd.V (Kd.int .u8) 5 wc w.heap.size (fun k_ => (P0_ k_ ∨ w.heap.size ≤ k_)) v144 t143) ∧ Aside0 (Below w.heap.size w wc))
  case first =>
    have H := HC4.out; clear HC4
    by_cases c6 : 4 ≤ (l0.length : Int)
    rotate_left
    · rw [if_neg c6] at H
      exact absurd H (by simp)
    rw [if_pos c6] at H; have c6b0 := eq_true c6; have c6b1 : decide (4 ≤ (l0.length : Int)) = true := decide_eq_true c6; clear c6; obtain ⟨y147, hy147⟩ : ∃ y_ : List Int, y_ = (l0.drop 4) := ⟨_, rfl⟩
    replace H : (if (y147.length : Int) < (wrap64 (t142)) then (bsoncore_readstring.j0 k l0 t142 t143 true) else (bsoncore_readstring.j0 k l0 t142 t143 (t142 == 0))) = some (r1, r2, r3) := by (try rw [hy147]); exact HW.rp
    have Ny147 := Aside0.mk hy147; clear hy147
    by_cases c7 : (y147.length : Int) < (wrap64 (t142))
    · rw [if_pos c7] at H
      have c7b0 : decide ((y147.length : Int) < (wrap64 (t142))) = true := decide_eq_true c7; clear c7
      (first | rw [c7b0] | (simp only [i64_w, i32_w]; rw [c7b0]) | skip)
      as_aux_lemma =>
        have H' := Aside0.mk H; clear H
        have q8 : (4 : Int) ≤ ((l0.length : Int) : Int) := HW.od
        obtain ⟨i08, hi08, _, hsz8, _⟩ := info_parts info5; have hroom8 : l0.length ≤ c0 := (Kd.V_reads' HO0.out).2.1; have hC8 : Kd.F (Kd.int .u8) _ _ A0 l0.length l0 := (Kd.V_at (base := w.heap.size) HO0.out).2.2
        have hcut8 := cut_from (P := Tryz.prog) 23 5 .i64 Tryz.underlying23 hi08 1 hsz8 A0 l0.length c0 4 (by omega) q8
        have hr8 := Kd.F_cut (m := (4 : Int).toNat) (c := c0) hC8 (by omega) hroom8
        obtain ⟨A8, hA8⟩ : ∃ A1, A1 = (if c0 = (4 : Int).toNat then A0 else (A0 : Option Addr).map (·.add ((4 : Int).toNat * 1))) := ⟨_, rfl⟩; obtain ⟨c8, hc8⟩ : ∃ c1, c1 = c0 - (4 : Int).toNat := ⟨_, rfl⟩
        have hy8 : y147.length = l0.length - (4 : Int).toNat := (by rw [Ny147.out, List.length_drop] <;> omega)
        rw [show (l0).drop (4 : Int).toNat = y147 from Ny147.out.symm] at hr8
        replace hr8 : Kd.F (Kd.int .u8) _ _ A8 y147.length y147 := (by rw [hA8]; exact hr8)
        rw [← hy8, ← hA8, ← hc8] at hcut8
        have HO151 := Aside0.mk (show Kd.V (Kd.int .u8) 5 _ w.heap.size _ (.slice A8 y147.length c8) y147 from Kd.V_mk (by rw [hy8, hc8]; exact Nat.sub_le_sub_right hroom8 _) hr8)
        have HC151 := Aside0.mk (show y147.length ≤ c8 from by rw [hy8, hc8]; exact Nat.sub_le_sub_right hroom8 _)
        clear hr8 hC8 hroom8 hi08 hsz8 hc8; have KY8 := Aside0.mk hy8; have KA8 := Aside0.mk hA8; clear hy8 hA8; replace q8 := eq_true q8
        go_wp2
        repeat (go_quiet (fail); try go_wp2)
        go_meet
        case rel => exact ⟨_, (true), HW.rs, H', ⟨by first | omega | exact Nat.le_refl _⟩, ⟨HW.zV HO0.out⟩, ⟨HW.zV HO145.out⟩, ⟨HW.zb⟩⟩
    rw [if_neg c7] at H; have c7b0 : decide ((y147.length : Int) < (wrap64 (t142))) = false := decide_eq_false c7; clear c7
    (first | rw [c7b0] | (simp only [i64_w, i32_w]; rw [c7b0]) | skip)
    as_aux_lemma =>
      have H' := Aside0.mk H; clear H
      have q9 : (4 : Int) ≤ ((l0.length : Int) : Int) := HW.od
      obtain ⟨i09, hi09, _, hsz9, _⟩ := info_parts info5; have hroom9 : l0.length ≤ c0 := (Kd.V_reads' HO0.out).2.1; have hC9 : Kd.F (Kd.int .u8) _ _ A0 l0.length l0 := (Kd.V_at (base := w.heap.size) HO0.out).2.2
      have hcut9 := cut_from (P := Tryz.prog) 23 5 .i64 Tryz.underlying23 hi09 1 hsz9 A0 l0.length c0 4 (by omega) q9
      have hr9 := Kd.F_cut (m := (4 : Int).toNat) (c := c0) hC9 (by omega) hroom9
      obtain ⟨A9, hA9⟩ : ∃ A1, A1 = (if c0 = (4 : Int).toNat then A0 else (A0 : Option Addr).map (·.add ((4 : Int).toNat * 1))) := ⟨_, rfl⟩; obtain ⟨c9, hc9⟩ : ∃ c1, c1 = c0 - (4 : Int).toNat := ⟨_, rfl⟩
      have hy9 : y147.length = l0.length - (4 : Int).toNat := (by rw [Ny147.out, List.length_drop] <;> omega)
      rw [show (l0).drop (4 : Int).toNat = y147 from Ny147.out.symm] at hr9
      replace hr9 : Kd.F (Kd.int .u8) _ _ A9 y147.length y147 := (by rw [hA9]; exact hr9)
      rw [← hy9, ← hA9, ← hc9] at hcut9
      have HO151 := Aside0.mk (show Kd.V (Kd.int .u8) 5 _ w.heap.size _ (.slice A9 y147.length c9) y147 from Kd.V_mk (by rw [hy9, hc9]; exact Nat.sub_le_sub_right hroom9 _) hr9)
      have HC151 := Aside0.mk (show y147.length ≤ c9 from by rw [hy9, hc9]; exact Nat.sub_le_sub_right hroom9 _)
      clear hr9 hC9 hroom9 hi09 hsz9 hc9; have KY9 := Aside0.mk hy9; have KA9 := Aside0.mk hA9; clear hy9 hA9; replace q9 := eq_true q9
      go_wp2
      repeat (go_quiet (fail); try go_wp2)
      go_meet
      case rel => exact ⟨_, ((t142 == 0)), HW.rs, H', ⟨by first | omega | exact Nat.le_refl _⟩, ⟨HW.zV HO0.out⟩, ⟨HW.zV HO145.out⟩, ⟨HW.zb⟩⟩
  case rest =>
    clear HC4
    (try clear c1); (try clear p2); (try clear c3); (try clear c6); (try clear c6b0); (try clear c6b1); (try clear p6); (try clear c7); (try clear c7b0); (try clear c8); (try clear q8); (try clear c9); (try clear q9); (try clear q8); (try clear q9)
    obtain ⟨kq, x26_3, rfl, HA, HJ3, HO_0, HO_6, HB⟩ := hcut
    cases kq with
    | zero => exact absurd HA.out (by simp [bsoncore_readstring.j0])
    | succ kj3 =>
      have H := HA.out; clear HA
      simp only [bsoncore_readstring.j0] at H
      by_cases c10 : x26_3 = true
      · subst c10
        have H1 : (some ((⟨#[]⟩ : ByteArray), l0, false)) = some (r1, r2, r3) := by rw [if_pos rfl] at H; exact H
        clear H; have H := H1; clear H1
        as_aux_lemma =>
          simp only [Option.some.injEq, Prod.mk.injEq] at H
          obtain ⟨rfl, rfl, rfl⟩ := H
          go_wp2
          repeat (go_quiet (fail); try go_wp2)
          go_ret3
          exact ⟨_, rfl, HW.zV HO_0.out, HW.zb⟩
      replace c10 := Bool.eq_false_iff.mpr c10; subst c10
      have H1 : (if 0 ≤ (wrap32 (t142 - 1)) then (if (wrap32 (t142 - 1)) ≤ (t143.length : Int) then (if 0 ≤ t142 then (if t142 ≤ (t143.length : Int) then (some (strOfNums (t143.take ((wrap32 (t142 - 1)) : Int).toNat), (t143.drop (t142 : Int).toNat), true)) else (none)) else (none)) else (none)) else (none)) = some (r1, r2, r3) := by rw [if_neg (show ¬ (false = true) by decide)] at H; exact H
      clear H; have H := H1; clear H1; obtain ⟨ji11, hji11⟩ : ∃ j_ : Int, (wrap32 (t142 - 1)) = j_ := ⟨_, rfl⟩
      replace H : (if 0 ≤ (ji11) then (if (ji11) ≤ (t143.length : Int) then (if 0 ≤ t142 then (if t142 ≤ (t143.length : Int) then (some (strOfNums (t143.take ((ji11) : Int).toNat), (t143.drop (t142 : Int).toNat), true)) else (none)) else (none)) else (none)) else (none)) = some (r1, r2, r3) := by first | (rw [hji11] at H; exact H) | (simp only [hji11] at H ⊢; exact H)
      have hji11w : (IntKind.i32.wrap (t142 - 1)) = ji11 := (i32_w _).trans hji11
      by_cases c12 : 0 ≤ (ji11)
      rotate_left
      · rw [if_neg c12] at H
        exact absurd H (by simp)
      rw [if_pos c12] at H; have c12b0 := eq_true c12; have c12b1 : decide (0 ≤ (ji11)) = true := decide_eq_true c12; clear c12
      by_cases c13 : (ji11) ≤ (t143.length : Int)
      rotate_left
      · rw [if_neg c13] at H
        exact absurd H (by simp)
      rw [if_pos c13] at H; have c13b0 := eq_true c13; have c13b1 : decide ((ji11) ≤ (t143.length : Int)) = true := decide_eq_true c13; clear c13; obtain ⟨y152, hy152⟩ : ∃ y_ : List Int, y_ = (t143.take ((ji11) : Int).toNat) := ⟨_, rfl⟩
      replace H : (if 0 ≤ t142 then (if t142 ≤ (t143.length : Int) then (some (strOfNums y152, (t143.drop (t142 : Int).toNat), true)) else (none)) else (none)) = some (r1, r2, r3) := by (try rw [hy152]); exact HW.rp
      have Ny152 := Aside0.mk hy152; clear hy152
      by_cases c14 : 0 ≤ t142
      rotate_left
      · rw [if_neg c14] at H
        exact absurd H (by simp)
      rw [if_pos c14] at H; have c14b0 := eq_true c14; have c14b1 : decide (0 ≤ t142) = true := decide_eq_true c14; clear c14
      by_cases c15 : t142 ≤ (t143.length : Int)
      rotate_left
      · rw [if_neg c15] at H
        exact absurd H (by simp)
      rw [if_pos c15] at H; have c15b0 := eq_true c15; have c15b1 : decide (t142 ≤ (t143.length : Int)) = true := decide_eq_true c15; clear c15; obtain ⟨y157, hy157⟩ : ∃ y_ : List Int, y_ = (t143.drop (t142 : Int).toNat) := ⟨_, rfl⟩
      replace H : (some (strOfNums y152, y157, true)) = some (r1, r2, r3) := by (try rw [hy157]); exact HW.rp
      have Ny157 := Aside0.mk hy157; clear hy157
      as_aux_lemma =>
        simp only [Option.some.injEq, Prod.mk.injEq] at H
        obtain ⟨rfl, rfl, rfl⟩ := H; obtain ⟨Ao17, co17, eo17⟩ := Kd.V_slice HO_6.out; subst eo17
        have q16 : ((ji11) : Int) ≤ ((t143.length : Int) : Int) := HW.od
        obtain ⟨i016, hi016, _, hsz16, _⟩ := info_parts info5; have hroom16 : t143.length ≤ co17 := (Kd.V_reads' HO_6.out).2.1; have hC16 : Kd.F (Kd.int .u8) _ _ Ao17 t143.length t143 := (Kd.V_at (base := w.heap.size) HO_6.out).2.2
        have hcut16 := cut_to (P := Tryz.prog) 23 5 .i32 Tryz.underlying23 hi016 Ao17 t143.length co17 (ji11) (HW.od) q16 hroom16
        have hr16 := Kd.F_take (m := ((ji11) : Int).toNat) hC16 (by omega)
        have hy16 : y152.length = ((ji11) : Int).toNat := (by rw [Ny152.out, List.length_take]; omega)
        rw [← Ny152.out] at hr16; rw [← hy16] at hcut16
        have HO156 := Aside0.mk (show Kd.V (Kd.int .u8) 5 _ w.heap.size _ (.slice Ao17 y152.length co17) y152 from Kd.V_mk (by omega) hr16)
        have HC156 := Aside0.mk (show y152.length ≤ co17 from by omega)
        clear hr16 hC16 hroom16 hi016 hsz16; have KY16 := Aside0.mk hy16; clear hy16; replace q16 := eq_true q16; have hcv18 := HW.V_string (P := Tryz.prog) Tryz.underlying23 Tryz.underlying5 Tryz.underlying9 (HO156.out); have hcv19 := fun m_ : Nat => HW.V_string (P := Tryz.prog) Tryz.underlying23 Tryz.underlying5 Tryz.underlying9 (Kd.V_below HO156.out (pw_below_drewN (Below.refl _ _) m_))
        have q20 : (t142 : Int) ≤ ((t143.length : Int) : Int) := HW.od
        obtain ⟨i020, hi020, _, hsz20, _⟩ := info_parts info5; have hroom20 : t143.length ≤ co17 := (Kd.V_reads' HO_6.out).2.1; have hC20 : Kd.F (Kd.int .u8) _ _ Ao17 t143.length t143 := (Kd.V_at (base := w.heap.size) HO_6.out).2.2
        have q020 : (0 : Int) ≤ (t142 : Int) := HW.od
        have hcut20 := cut_from (P := Tryz.prog) 23 5 .i32 Tryz.underlying23 hi020 1 hsz20 Ao17 t143.length co17 t142 q020 q20
        have hr20 := Kd.F_cut (m := (t142 : Int).toNat) (c := co17) hC20 (by omega) hroom20
        obtain ⟨A20, hA20⟩ : ∃ A1, A1 = (if co17 = (t142 : Int).toNat then Ao17 else (Ao17 : Option Addr).map (·.add ((t142 : Int).toNat * 1))) := ⟨_, rfl⟩; obtain ⟨c20, hc20⟩ : ∃ c1, c1 = co17 - (t142 : Int).toNat := ⟨_, rfl⟩
        have hy20 : y157.length = t143.length - (t142 : Int).toNat := (by rw [Ny157.out, List.length_drop] <;> omega)
        rw [show (t143).drop (t142 : Int).toNat = y157 from Ny157.out.symm] at hr20
        replace hr20 : Kd.F (Kd.int .u8) _ _ A20 y157.length y157 := (by rw [hA20]; exact hr20)
        rw [← hy20, ← hA20, ← hc20] at hcut20
        have HO161 := Aside0.mk (show Kd.V (Kd.int .u8) 5 _ w.heap.size _ (.slice A20 y157.length c20) y157 from Kd.V_mk (by rw [hy20, hc20]; exact Nat.sub_le_sub_right hroom20 _) hr20)
        have HC161 := Aside0.mk (show y157.length ≤ c20 from by rw [hy20, hc20]; exact Nat.sub_le_sub_right hroom20 _)
        clear hr20 hC20 hroom20 hi020 hsz20 hc20; have KY20 := Aside0.mk hy20; have KA20 := Aside0.mk hA20; clear hy20 hA20; replace q20 := eq_true q20
        go_wp2
        repeat (go_quiet (fail); try go_wp2)
        go_ret3
        exact ⟨_, by first | rfl | (simp [errW_none, errW_some] <;> rfl) | (simp only [← hji11]; first | rfl | (simp [errW_none, errW_some] <;> rfl)) | (simp [*, errW_none, errW_some] <;> rfl), HW.zV HO161.out, HW.zb⟩
def bsoncore_ReadString.f (k : Nat) (l0 : List Int) : Option (ByteArray × List Int × Bool) := (bsoncore_readstring.f k l0).bind fun bt162 => (some (bt162.1, bt162.2.1, bt162.2.2))
theorem bsoncore_ReadString.mono : ∀ a0 k, LeO (bsoncore_ReadString.f k a0) (bsoncore_ReadString.f (k + 1) a0) := by
  intro a0 k
  unfold bsoncore_ReadString.f
  have m0_ := @bsoncore_readstring.mono; exact HW.mo
theorem bsoncore_ReadString.calls (k : Nat) (P0_ : Nat → Prop) (A0 : Option Addr) (c0 : Nat) (l0 : List Int) (r1 : ByteArray) (r2 : List Int) (r3 : Bool) (w : World) (hs0 : Kd.V (Kd.int .u8) 5 w w.heap.size (fun k_ => P0_ k_) (.slice A0 l0.length c0) l0) (h : bsoncore_ReadString.f k l0 = some (r1, r2, r3)) :
    Calls Tryz.prog 68 #[.slice A0 l0.length c0] w fun e w' => ∃ v1_ : Value, e = .returned (.tuple #[.string r1, v1_, .bool r3]) ∧ Kd.V (Kd.int .u8) 5 w' w.heap.size (fun k_ => (P0_ k_ ∨ w.heap.size ≤ k_)) v1_ r2 ∧ Below w.heap.size w w' := by
  have HO0 := Aside0.mk (show Kd.V (Kd.int .u8) 5 w w.heap.size (fun k_ => (P0_ k_ ∨ w.heap.size ≤ k_)) (.slice A0 l0.length c0) l0 from Kd.V_mono hs0 (fun k_ hk => .inl hk)); have HB := Aside0.mk (Below.refl w.heap.size w); have H : ((bsoncore_readstring.f k l0).bind fun bt162 => (some (bt162.1, bt162.2.1, bt162.2.2))) = some (r1, r2, r3) := h; clear h; replace H := Option.bind_eq_some_iff.mp H; obtain ⟨⟨t162, t163, t166⟩, A20, H⟩ := H; replace H : (some (t162, t163, t166)) = some (r1, r2, r3) := H; have A2 := Aside0.mk A20; clear A20
  as_aux_lemma =>
    simp only [Option.some.injEq, Prod.mk.injEq] at H
    obtain ⟨rfl, rfl, rfl⟩ := H
    go_enter Tryz.func68, Tryz.ntmps68
    go_wp2_with (first | ((with_reducible refine gate_callee (f := 87) rfl ?_); refine HW.gz (some 6) rfl rfl Tryz.func87 (by kernel_rfl) rfl #[.slice A0 l0.length c0] rfl ?_; (with_reducible refine (bsoncore_readstring.calls k (fun k_ => (P0_ k_ ∨ w.heap.size ≤ k_)) _ _ l0 t162 t163 t166 _ ?side1 A2.out).mono ?_); (case side1 => exact HO0.out); rintro e w3 ⟨v164, rfl, ho0, hb⟩; refine ⟨_, rfl, ?_⟩; have HO165 := Aside0.mk (Kd.V_lower (Kd.V_mono (ok' := fun k_ => (P0_ k_ ∨ w.heap.size ≤ k_)) ho0 (fun k_ hk_ => Or.elim hk_ (fun hs_ => hs_) (fun hn_ => (.inr (Nat.le_trans (below_size HW.zb) hn_))))) (below_size HW.zb)); replace HB := Aside0.mk (below_step HW.zb hb); (try clear hb); (try clear ho0)))
    go_ret3
    exact ⟨_, rfl, HW.zV HO165.out, HW.zb⟩
def bsoncore_Value_StringValueOK.f (k : Nat) (a0_0 : Int) (l0_1 : List Int) : Option (ByteArray × Bool) := if a0_0 = 2 then ((bsoncore_ReadString.f k l0_1).bind fun bt168 => (if bt168.2.2 = true then (some (bt168.1, true)) else (none))) else (some ((⟨#[]⟩ : ByteArray), false))
theorem bsoncore_Value_StringValueOK.mono : ∀ a0 a1 k, LeO (bsoncore_Value_StringValueOK.f k a0 a1) (bsoncore_Value_StringValueOK.f (k + 1) a0 a1) := by
  intro a0 a1 k
  unfold bsoncore_Value_StringValueOK.f
  have m0_ := @bsoncore_ReadString.mono; exact HW.mo
theorem bsoncore_Value_StringValueOK.calls (k : Nat) (a0_0 : Int) (A0_1 : Option Addr) (c0_1 : Nat) (l0_1 : List Int) (r1 : ByteArray) (r2 : Bool) (w : World) (hr0_1 : Kd.C (Kd.int .u8) w A0_1 l0_1.length l0_1) (hc0_1 : l0_1.length ≤ c0_1) (h : bsoncore_Value_StringValueOK.f k a0_0 l0_1 = some (r1, r2)) :
    Calls Tryz.prog 43 #[.agg #[.int .u8 a0_0, .slice A0_1 l0_1.length c0_1]] w fun e w' => e = .returned (.tuple #[.string r1, .bool r2]) ∧ Below w.heap.size w w' := by
  have hu92 := Tryz.underlying92; have HR0_1 := Aside0.mk hr0_1; have HC0_1 := Aside0.mk hc0_1; clear hr0_1 hc0_1; have HB := Aside0.mk (Below.refl w.heap.size w); have H : (if a0_0 = 2 then ((bsoncore_ReadString.f k l0_1).bind fun bt168 => (if bt168.2.2 = true then (some (bt168.1, true)) else (none))) else (some ((⟨#[]⟩ : ByteArray), false))) = some (r1, r2) := h; clear h
  by_cases c2 : a0_0 = 2
  rotate_left
  · rw [if_neg c2] at H
    have c2b0 : (a0_0 == 2) = false := beq_eq_false_iff_ne.mpr c2; have c2b1 : (a0_0 != 2) = true := bne_iff_ne.mpr c2
    as_aux_lemma =>
      simp only [Option.some.injEq, Prod.mk.injEq] at H
      obtain ⟨rfl, rfl⟩ := H
      go_enter Tryz.func43, Tryz.ntmps43
      go_wp2_with (first | ((with_reducible refine gate_dst (N := 1) rfl ?_); refine box_event ?hg (N := 1) ?hd (cs := #[.int .u8 a0_0, .slice A0_1 l0_1.length c0_1]) (t := 92) ?hr ?_; (case hd => rfl); (case hg => rfl); (case hr => first | (go_simp; done) | (go_simp; rfl)); intro gb167 hg w8 hbox hb; have n0_ := Aside0.mk (below_step HW.zb hb); have n1_ := Aside0.mk (hbox); have n3_ := Aside0.mk ((by rw [hg]; exact (below_size HW.zb) : w.heap.size ≤ gb167)); clear HB; have HB := n0_; have BK167 := n1_; have GE167 := n3_; clear n0_ n1_ n3_; clear hb hbox hg; obtain ⟨hcz9_0, hcz9_1⟩ := HW.k2 BK167.out))
      go_ret2
      exact ⟨rfl, HW.zb⟩
  rw [if_pos c2] at H; have c2b0 : (a0_0 == 2) = true := beq_iff_eq.mpr c2; have c2b1 : (a0_0 != 2) = false := bne_eq_false_iff_eq.mpr c2; clear c2; replace H := Option.bind_eq_some_iff.mp H; obtain ⟨⟨t168, t169, t172⟩, A30, H⟩ := H; replace H : (if t172 = true then (some (t168, true)) else (none)) = some (r1, r2) := H; have A3 := Aside0.mk A30; clear A30
  by_cases c4 : t172 = true
  rotate_left
  · replace c4 := Bool.eq_false_iff.mpr c4
    subst c4
    have H1 : (none) = some (r1, r2) := by rw [if_neg (show ¬ (false = true) by decide)] at H; exact H
    clear H; have H := H1; clear H1
    exact absurd H (by simp)
  subst c4
  have H1 : (some (t168, true)) = some (r1, r2) := by rw [if_pos rfl] at H; exact H
  clear H; have H := H1; clear H1
  as_aux_lemma =>
    simp only [Option.some.injEq, Prod.mk.injEq] at H
    obtain ⟨rfl, rfl⟩ := H
    go_enter Tryz.func43, Tryz.ntmps43
    go_wp2_with (first | ((with_reducible refine gate_dst (N := 1) rfl ?_); refine box_event ?hg (N := 1) ?hd (cs := #[.int .u8 a0_0, .slice A0_1 l0_1.length c0_1]) (t := 92) ?hr ?_; (case hd => rfl); (case hg => rfl); (case hr => first | (go_simp; done) | (go_simp; rfl)); intro gb167 hg w5 hbox hb; have n0_ := Aside0.mk (below_step HW.zb hb); have n1_ := Aside0.mk (hbox); have n3_ := Aside0.mk ((by rw [hg]; exact (below_size HW.zb) : w.heap.size ≤ gb167)); clear HB; have HB := n0_; have BK167 := n1_; have GE167 := n3_; clear n0_ n1_ n3_; clear hb hbox hg; obtain ⟨hcz6_0, hcz6_1⟩ := HW.k2 BK167.out) | ((with_reducible refine gate_callee (f := 68) rfl ?_); refine HW.gz (some 13) rfl rfl Tryz.func68 (by kernel_rfl) rfl #[.slice A0_1 l0_1.length c0_1] rfl ?_; (with_reducible refine (bsoncore_ReadString.calls k (fun k_ => k_ < w.heap.size) _ _ l0_1 t168 t169 true _ ?side1 A3.out).mono ?_); (case side1 => exact Kd.V_mk HC0_1.out (Kd.F_below (Kd.C_F (Kd.heap_int .u8) HR0_1.out) HW.zb)); rintro e w7 ⟨v170, rfl, ho0, hb⟩; refine ⟨_, rfl, ?_⟩; have n2_ := Aside0.mk (below_step HW.zb hb); clear HB; have HB := n2_; clear n2_; (try clear hb); (try clear ho0)))
    go_ret2
    exact ⟨rfl, HW.zb⟩
def bson_RawValue_StringValueOK.f (k : Nat) (a0_0 : Int) (l0_1 : List Int) : Option (ByteArray × Bool) := (bson_convertToCoreValue.f a0_0 l0_1).bind fun bt174 => ((bsoncore_Value_StringValueOK.f k bt174.1 bt174.2).bind fun bt178 => (some (bt178.1, bt178.2)))
theorem bson_RawValue_StringValueOK.mono : ∀ a0 a1 k, LeO (bson_RawValue_StringValueOK.f k a0 a1) (bson_RawValue_StringValueOK.f (k + 1) a0 a1) := by
  intro a0 a1 k
  unfold bson_RawValue_StringValueOK.f
  have m0_ := @bsoncore_Value_StringValueOK.mono; exact HW.mo
theorem bson_RawValue_StringValueOK.calls (k : Nat) (a0_0 : Int) (A0_1 : Option Addr) (c0_1 : Nat) (l0_1 : List Int) (r1 : ByteArray) (r2 : Bool) (w : World) (hr0_1 : Kd.C (Kd.int .u8) w A0_1 l0_1.length l0_1) (hc0_1 : l0_1.length ≤ c0_1) (h : bson_RawValue_StringValueOK.f k a0_0 l0_1 = some (r1, r2)) :
    Calls Tryz.prog 18 #[.agg #[.int .u8 a0_0, .slice A0_1 l0_1.length c0_1]] w fun e w' => e = .returned (.tuple #[.string r1, .bool r2]) ∧ Below w.heap.size w w' := by
  have hu41 := Tryz.underlying41; have HR0_1 := Aside0.mk hr0_1; have HC0_1 := Aside0.mk hc0_1; clear hr0_1 hc0_1; have HB := Aside0.mk (Below.refl w.heap.size w); have H : ((bson_convertToCoreValue.f a0_0 l0_1).bind fun bt174 => ((bsoncore_Value_StringValueOK.f k bt174.1 bt174.2).bind fun bt178 => (some (bt178.1, bt178.2)))) = some (r1, r2) := h; clear h; replace H := Option.bind_eq_some_iff.mp H; obtain ⟨⟨t174, t175⟩, A20, H⟩ := H; replace H : ((bsoncore_Value_StringValueOK.f k t174 t175).bind fun bt178 => (some (bt178.1, bt178.2))) = some (r1, r2) := H; have A2 := Aside0.mk A20; clear A20; replace H := Option.bind_eq_some_iff.mp H; obtain ⟨⟨t178, t179⟩, A30, H⟩ := H; replace H : (some (t178, t179)) = some (r1, r2) := H; have A3 := Aside0.mk A30; clear A30
  as_aux_lemma =>
    simp only [Option.some.injEq, Prod.mk.injEq] at H
    obtain ⟨rfl, rfl⟩ := H
    go_enter Tryz.func18, Tryz.ntmps18
    go_wp2_with (first | ((with_reducible refine gate_dst (N := 1) rfl ?_); refine box_event ?hg (N := 1) ?hd (cs := #[.int .u8 a0_0, .slice A0_1 l0_1.length c0_1]) (t := 41) ?hr ?_; (case hd => rfl); (case hg => rfl); (case hr => first | (go_simp; done) | (go_simp; rfl)); intro gb173 hg w4 hbox hb; have n0_ := Aside0.mk (below_step HW.zb hb); have n1_ := Aside0.mk (hbox); have n2_ := Aside0.mk ((by rw [hg]; exact (below_size HW.zb) : w.heap.size ≤ gb173)); have n3_ := Aside0.mk ((by rw [hg]; exact (below_size HW.zb) : w.heap.size ≤ gb173)); clear HB; have HB := n0_; have BK173 := n1_; have GW173 := n2_; have GE173 := n3_; clear n0_ n1_ n2_ n3_; clear hb hbox hg; obtain ⟨hcz5_0, hcz5_1⟩ := HW.k2 BK173.out) | ((with_reducible refine gate_callee (f := 41) rfl ?_); refine HW.gz (some 5) rfl rfl Tryz.func41 (by kernel_rfl) rfl #[.agg #[.int .u8 a0_0, .slice A0_1 l0_1.length c0_1]] rfl ?_; (with_reducible refine (bson_convertToCoreValue.calls a0_0 (fun k_ => k_ < w.heap.size) _ _ l0_1 t174 t175 _ ?side1 A2.out).mono ?_); (case side1 => exact Kd.V_mk HC0_1.out (Kd.F_below (Kd.C_F (Kd.heap_int .u8) HR0_1.out) HW.zb)); rintro e w6 ⟨v176, rfl, ho0, hb⟩; refine ⟨_, rfl, ?_⟩; have n0_ := Aside0.mk (Kd.V_lower (Kd.V_mono (ok' := fun k_ => k_ ≠ gb173) ho0 (fun k_ hk_ => Or.elim hk_ (fun hs_ => fun e_ => Nat.not_le.2 hs_ (by rw [e_]; exact GW173.out)) (fun hn_ => (Kd.freshB (g := gb173) (o := .cells #[.int .u8 a0_0, .slice A0_1 l0_1.length c0_1] 41 (0, 0)) (HW.zB BK173.out) k_ hn_)))) (below_size HW.zb)); have n2_ := Aside0.mk (below_step HW.zb hb); clear HB; have HO177 := n0_; have HB := n2_; clear n0_ n2_; (try clear hb); (try clear ho0); obtain ⟨Ao7, co7, eo7⟩ := Kd.V_slice HO177.out; subst eo7) | ((with_reducible refine gate_callee (f := 43) rfl ?_); refine HW.gz (some 6) rfl rfl Tryz.func43 (by kernel_rfl) rfl #[.agg #[.int .u8 t174, .slice Ao7 t175.length co7]] rfl ?_; (with_reducible refine (bsoncore_Value_StringValueOK.calls k t174 _ _ t175 t178 t179 _ ?side1 ?side2 A3.out).mono ?_); (case side1 => repeat (first | exact (Kd.V_reads' HO177.out).2.2 | (with_reducible refine Kd.C_alloc ?_ _) | (with_reducible refine Kd.C_drewN ?_ _) | (with_reducible refine Kd.C_drew ?_))); (case side2 => exact (Kd.V_reads' HO177.out).2.1); rintro e w8 ⟨rfl, hb⟩; refine ⟨_, rfl, ?_⟩; have n2_ := Aside0.mk (below_step HW.zb hb); clear HB; have HB := n2_; clear n2_; (try clear hb)))
    go_ret2
    exact ⟨rfl, HW.zb⟩
def bsoncore_readLengthBytes.f (l0 : List Int) : Option (List Int × List Int × Bool) := (bsoncore_ReadLength.f l0).bind fun bt180 => (if bt180.2.2 = true then (if bt180.1 < 4 then (none) else (if (l0.length : Int) < (wrap64 (bt180.1)) then (none) else (if 0 ≤ bt180.1 then (if bt180.1 ≤ (l0.length : Int) then (some ((l0.take (bt180.1 : Int).toNat), (l0.drop (bt180.1 : Int).toNat), true)) else (none)) else (none)))) else (some (([] : List Int), l0, false)))
theorem bsoncore_readLengthBytes.calls (P0_ : Nat → Prop) (A0 : Option Addr) (c0 : Nat) (l0 : List Int) (r1 : List Int) (r2 : List Int) (r3 : Bool) (w : World) (hs0 : Kd.V (Kd.int .u8) 5 w w.heap.size (fun k_ => P0_ k_) (.slice A0 l0.length c0) l0) (h : bsoncore_readLengthBytes.f l0 = some (r1, r2, r3)) :
    Calls Tryz.prog 88 #[.slice A0 l0.length c0] w fun e w' => ∃ v0_ v1_ : Value, e = .returned (.tuple #[v0_, v1_, .bool r3]) ∧ Kd.V (Kd.int .u8) 5 w' w.heap.size (fun k_ => (P0_ k_ ∨ w.heap.size ≤ k_)) v0_ r1 ∧ Kd.V (Kd.int .u8) 5 w' w.heap.size (fun k_ => (P0_ k_ ∨ w.heap.size ≤ k_)) v1_ r2 ∧ Below w.heap.size w w' := by
  have HO0 := Aside0.mk (show Kd.V (Kd.int .u8) 5 w w.heap.size (fun k_ => (P0_ k_ ∨ w.heap.size ≤ k_)) (.slice A0 l0.length c0) l0 from Kd.V_mono hs0 (fun k_ hk => .inl hk)); have HB := Aside0.mk (Below.refl w.heap.size w); have H : ((bsoncore_ReadLength.f l0).bind fun bt180 => (if bt180.2.2 = true then (if bt180.1 < 4 then (none) else (if (l0.length : Int) < (wrap64 (bt180.1)) then (none) else (if 0 ≤ bt180.1 then (if bt180.1 ≤ (l0.length : Int) then (some ((l0.take (bt180.1 : Int).toNat), (l0.drop (bt180.1 : Int).toNat), true)) else (none)) else (none)))) else (some (([] : List Int), l0, false)))) = some (r1, r2, r3) := h; clear h; replace H := Option.bind_eq_some_iff.mp H; obtain ⟨⟨t180, t181, t184⟩, A20, H⟩ := H; replace H : (if t184 = true then (if t180 < 4 then (none) else (if (l0.length : Int) < (wrap64 (t180)) then (none) else (if 0 ≤ t180 then (if t180 ≤ (l0.length : Int) then (some ((l0.take (t180 : Int).toNat), (l0.drop (t180 : Int).toNat), true)) else (none)) else (none)))) else (some (([] : List Int), l0, false))) = some (r1, r2, r3) := H; have A2 := Aside0.mk A20; clear A20
  by_cases c3 : t184 = true
  rotate_left
  · replace c3 := Bool.eq_false_iff.mpr c3
    subst c3
    have H1 : (some (([] : List Int), l0, false)) = some (r1, r2, r3) := by rw [if_neg (show ¬ (false = true) by decide)] at H; exact H
    clear H; have H := H1; clear H1
    as_aux_lemma =>
      simp only [Option.some.injEq, Prod.mk.injEq] at H
      obtain ⟨rfl, rfl, rfl⟩ := H
      go_enter Tryz.func88, Tryz.ntmps88
      go_wp2_with (first | (go_at_call 89; (with_reducible refine (bsoncore_ReadLength.calls (fun k_ => (P0_ k_ ∨ w.heap.size ≤ k_)) _ _ l0 t180 t181 false _ ?side1 A2.out).mono ?_); (case side1 => exact HO0.out); rintro e w13 ⟨v182, rfl, ho0, hb⟩; replace HO0 := Aside0.mk (Kd.V_below (HW.zV HO0.out) hb); replace HB := Aside0.mk (below_step HW.zb hb); (try clear hb); (try clear ho0)))
      repeat (go_quiet (fail); try go_wp2)
      go_ret3
      exact ⟨_, _, rfl, Kd.V_nil _ _ _ _ _, HW.zV HO0.out, HW.zb⟩
  subst c3
  have H1 : (if t180 < 4 then (none) else (if (l0.length : Int) < (wrap64 (t180)) then (none) else (if 0 ≤ t180 then (if t180 ≤ (l0.length : Int) then (some ((l0.take (t180 : Int).toNat), (l0.drop (t180 : Int).toNat), true)) else (none)) else (none)))) = some (r1, r2, r3) := by rw [if_pos rfl] at H; exact H
  clear H; have H := H1; clear H1
  by_cases c4 : t180 < 4
  · rw [if_pos c4] at H
    exact absurd H (by simp)
  rw [if_neg c4] at H; have c4b0 : decide (t180 < 4) = false := decide_eq_false c4; clear c4
  by_cases c5 : (l0.length : Int) < (wrap64 (t180))
  · rw [if_pos c5] at H
    exact absurd H (by simp)
  rw [if_neg c5] at H; have c5b0 : decide ((l0.length : Int) < (wrap64 (t180))) = false := decide_eq_false c5; clear c5
  by_cases c6 : 0 ≤ t180
  rotate_left
  · rw [if_neg c6] at H
    exact absurd H (by simp)
  rw [if_pos c6] at H; have c6b0 := eq_true c6; have c6b1 : decide (0 ≤ t180) = true := decide_eq_true c6; clear c6
  by_cases c7 : t180 ≤ (l0.length : Int)
  rotate_left
  · rw [if_neg c7] at H
    exact absurd H (by simp)
  rw [if_pos c7] at H; have c7b0 := eq_true c7; have c7b1 : decide (t180 ≤ (l0.length : Int)) = true := decide_eq_true c7; clear c7; obtain ⟨y185, hy185⟩ : ∃ y_ : List Int, y_ = (l0.take (t180 : Int).toNat) := ⟨_, rfl⟩
  replace H : (some (y185, (l0.drop (t180 : Int).toNat), true)) = some (r1, r2, r3) := by (try rw [hy185]); exact HW.rp
  have Ny185 := Aside0.mk hy185; clear hy185
  have c8b0 := eq_true (HW.od : 0 ≤ t180)
  have c9b0 := eq_true (HW.od : t180 ≤ (l0.length : Int))
  obtain ⟨y190, hy190⟩ : ∃ y_ : List Int, y_ = (l0.drop (t180 : Int).toNat) := ⟨_, rfl⟩
  replace H : (some (y185, y190, true)) = some (r1, r2, r3) := by (try rw [hy190]); exact HW.rp
  have Ny190 := Aside0.mk hy190; clear hy190
  as_aux_lemma =>
    simp only [Option.some.injEq, Prod.mk.injEq] at H
    obtain ⟨rfl, rfl, rfl⟩ := H
    go_enter Tryz.func88, Tryz.ntmps88
    go_wp2_with (first | (go_at_call 89; (with_reducible refine (bsoncore_ReadLength.calls (fun k_ => (P0_ k_ ∨ w.heap.size ≤ k_)) _ _ l0 t180 t181 true _ ?side1 A2.out).mono ?_); (case side1 => exact HO0.out); rintro e w10 ⟨v182, rfl, ho0, hb⟩; replace HO0 := Aside0.mk (Kd.V_below (HW.zV HO0.out) hb); replace HB := Aside0.mk (below_step HW.zb hb); (try clear hb); (try clear ho0); have q11 : (t180 : Int) ≤ ((l0.length : Int) : Int) := HW.od; obtain ⟨i011, hi011, _, hsz11, _⟩ := info_parts info5; have hroom11 : l0.length ≤ c0 := (Kd.V_reads' HO0.out).2.1; have hC11 : Kd.F (Kd.int .u8) _ _ A0 l0.length l0 := (Kd.V_at (base := w.heap.size) HO0.out).2.2; have hcut11 := cut_to (P := Tryz.prog) 23 5 .i32 Tryz.underlying23 hi011 A0 l0.length c0 t180 (HW.od) q11 hroom11; have hr11 := Kd.F_take (m := (t180 : Int).toNat) hC11 (by omega); have hy11 : y185.length = (t180 : Int).toNat := (by rw [Ny185.out, List.length_take]; omega); rw [← Ny185.out] at hr11; rw [← hy11] at hcut11; have HO189 := Aside0.mk (show Kd.V (Kd.int .u8) 5 _ w.heap.size _ (.slice A0 y185.length c0) y185 from Kd.V_mk (by omega) hr11); have HC189 := Aside0.mk (show y185.length ≤ c0 from by omega); clear hr11 hC11 hroom11 hi011 hsz11; have KY11 := Aside0.mk hy11; clear hy11; replace q11 := eq_true q11; have q12 : (t180 : Int) ≤ ((l0.length : Int) : Int) := HW.od; obtain ⟨i012, hi012, _, hsz12, _⟩ := info_parts info5; have hroom12 : l0.length ≤ c0 := (Kd.V_reads' HO0.out).2.1; have hC12 : Kd.F (Kd.int .u8) _ _ A0 l0.length l0 := (Kd.V_at (base := w.heap.size) HO0.out).2.2; have q012 : (0 : Int) ≤ (t180 : Int) := HW.od; have hcut12 := cut_from (P := Tryz.prog) 23 5 .i32 Tryz.underlying23 hi012 1 hsz12 A0 l0.length c0 t180 q012 q12; have hr12 := Kd.F_cut (m := (t180 : Int).toNat) (c := c0) hC12 (by omega) hroom12; obtain ⟨A12, hA12⟩ : ∃ A1, A1 = (if c0 = (t180 : Int).toNat then A0 else (A0 : Option Addr).map (·.add ((t180 : Int).toNat * 1))) := ⟨_, rfl⟩; obtain ⟨c12, hc12⟩ : ∃ c1, c1 = c0 - (t180 : Int).toNat := ⟨_, rfl⟩; have hy12 : y190.length = l0.length - (t180 : Int).toNat := (by rw [Ny190.out, List.length_drop] <;> omega); rw [show (l0).drop (t180 : Int).toNat = y190 from Ny190.out.symm] at hr12; replace hr12 : Kd.F (Kd.int .u8) _ _ A12 y190.length y190 := (by rw [hA12]; exact hr12); rw [← hy12, ← hA12, ← hc12] at hcut12; have HO194 := Aside0.mk (show Kd.V (Kd.int .u8) 5 _ w.heap.size _ (.slice A12 y190.length c12) y190 from Kd.V_mk (by rw [hy12, hc12]; exact Nat.sub_le_sub_right hroom12 _) hr12); have HC194 := Aside0.mk (show y190.length ≤ c12 from by rw [hy12, hc12]; exact Nat.sub_le_sub_right hroom12 _); clear hr12 hC12 hroom12 hi012 hsz12 hc12; have KY12 := Aside0.mk hy12; have KA12 := Aside0.mk hA12; clear hy12 hA12; replace q12 := eq_true q12))
    repeat (go_quiet (fail); try go_wp2)
    go_ret3
    exact ⟨_, _, rfl, HW.zV HO189.out, HW.zV HO194.out, HW.zb⟩
def bsoncore_ReadDocument.f (l0 : List Int) : Option (List Int × List Int × Bool) := (bsoncore_readLengthBytes.f l0).bind fun bt195 => (some (bt195.1, bt195.2.1, bt195.2.2))
theorem bsoncore_ReadDocument.calls (P0_ : Nat → Prop) (A0 : Option Addr) (c0 : Nat) (l0 : List Int) (r1 : List Int) (r2 : List Int) (r3 : Bool) (w : World) (hs0 : Kd.V (Kd.int .u8) 5 w w.heap.size (fun k_ => P0_ k_) (.slice A0 l0.length c0) l0) (h : bsoncore_ReadDocument.f l0 = some (r1, r2, r3)) :
    Calls Tryz.prog 69 #[.slice A0 l0.length c0] w fun e w' => ∃ v0_ v1_ : Value, e = .returned (.tuple #[v0_, v1_, .bool r3]) ∧ Kd.V (Kd.int .u8) 5 w' w.heap.size (fun k_ => (P0_ k_ ∨ w.heap.size ≤ k_)) v0_ r1 ∧ Kd.V (Kd.int .u8) 5 w' w.heap.size (fun k_ => (P0_ k_ ∨ w.heap.size ≤ k_)) v1_ r2 ∧ Below w.heap.size w w' := by
  have HO0 := Aside0.mk (show Kd.V (Kd.int .u8) 5 w w.heap.size (fun k_ => (P0_ k_ ∨ w.heap.size ≤ k_)) (.slice A0 l0.length c0) l0 from Kd.V_mono hs0 (fun k_ hk => .inl hk)); have HB := Aside0.mk (Below.refl w.heap.size w); have H : ((bsoncore_readLengthBytes.f l0).bind fun bt195 => (some (bt195.1, bt195.2.1, bt195.2.2))) = some (r1, r2, r3) := h; clear h; replace H := Option.bind_eq_some_iff.mp H; obtain ⟨⟨t195, t198, t201⟩, A20, H⟩ := H; replace H : (some (t195, t198, t201)) = some (r1, r2, r3) := H; have A2 := Aside0.mk A20; clear A20
  as_aux_lemma =>
    simp only [Option.some.injEq, Prod.mk.injEq] at H
    obtain ⟨rfl, rfl, rfl⟩ := H
    go_enter Tryz.func69, Tryz.ntmps69
    go_wp2_with (first | ((with_reducible refine gate_callee (f := 88) rfl ?_); refine HW.gz (some 6) rfl rfl Tryz.func88 (by kernel_rfl) rfl #[.slice A0 l0.length c0] rfl ?_; (with_reducible refine (bsoncore_readLengthBytes.calls (fun k_ => (P0_ k_ ∨ w.heap.size ≤ k_)) _ _ l0 t195 t198 t201 _ ?side1 A2.out).mono ?_); (case side1 => exact HO0.out); rintro e w3 ⟨v196, v199, rfl, ho0, ho1, hb⟩; refine ⟨_, rfl, ?_⟩; have HO197 := Aside0.mk (Kd.V_lower (Kd.V_mono (ok' := fun k_ => (P0_ k_ ∨ w.heap.size ≤ k_)) ho0 (fun k_ hk_ => Or.elim hk_ (fun hs_ => hs_) (fun hn_ => (.inr (Nat.le_trans (below_size HW.zb) hn_))))) (below_size HW.zb)); have HO200 := Aside0.mk (Kd.V_lower (Kd.V_mono (ok' := fun k_ => (P0_ k_ ∨ w.heap.size ≤ k_)) ho1 (fun k_ hk_ => Or.elim hk_ (fun hs_ => hs_) (fun hn_ => (.inr (Nat.le_trans (below_size HW.zb) hn_))))) (below_size HW.zb)); replace HB := Aside0.mk (below_step HW.zb hb); (try clear hb); (try clear ho0); (try clear ho1)))
    go_ret3
    exact ⟨_, _, rfl, HW.zV HO197.out, HW.zV HO200.out, HW.zb⟩
def bsoncore_Value_DocumentOK.f (a0_0 : Int) (l0_1 : List Int) : Option (List Int × Bool) := if a0_0 = 3 then ((bsoncore_ReadDocument.f l0_1).bind fun bt203 => (if bt203.2.2 = true then (some (bt203.1, true)) else (none))) else (some (([] : List Int), false))
theorem bsoncore_Value_DocumentOK.calls (a0_0 : Int) (P0_1_ : Nat → Prop) (A0_1 : Option Addr) (c0_1 : Nat) (l0_1 : List Int) (r1 : List Int) (r2 : Bool) (w : World) (hs0_1 : Kd.V (Kd.int .u8) 5 w w.heap.size (fun k_ => P0_1_ k_) (.slice A0_1 l0_1.length c0_1) l0_1) (h : bsoncore_Value_DocumentOK.f a0_0 l0_1 = some (r1, r2)) :
    Calls Tryz.prog 44 #[.agg #[.int .u8 a0_0, .slice A0_1 l0_1.length c0_1]] w fun e w' => ∃ v0_ : Value, e = .returned (.tuple #[v0_, .bool r2]) ∧ Kd.V (Kd.int .u8) 5 w' w.heap.size (fun k_ => (P0_1_ k_ ∨ w.heap.size ≤ k_)) v0_ r1 ∧ Below w.heap.size w w' := by
  have hu92 := Tryz.underlying92; have HO0_1 := Aside0.mk (show Kd.V (Kd.int .u8) 5 w w.heap.size (fun k_ => (P0_1_ k_ ∨ w.heap.size ≤ k_)) (.slice A0_1 l0_1.length c0_1) l0_1 from Kd.V_mono hs0_1 (fun k_ hk => .inl hk)); have HB := Aside0.mk (Below.refl w.heap.size w); have H : (if a0_0 = 3 then ((bsoncore_ReadDocument.f l0_1).bind fun bt203 => (if bt203.2.2 = true then (some (bt203.1, true)) else (none))) else (some (([] : List Int), false))) = some (r1, r2) := h; clear h
  by_cases c2 : a0_0 = 3
  rotate_left
  · rw [if_neg c2] at H
    have c2b0 : (a0_0 == 3) = false := beq_eq_false_iff_ne.mpr c2; have c2b1 : (a0_0 != 3) = true := bne_iff_ne.mpr c2
    as_aux_lemma =>
      simp only [Option.some.injEq, Prod.mk.injEq] at H
      obtain ⟨rfl, rfl⟩ := H
      go_enter Tryz.func44, Tryz.ntmps44
      go_wp2_with (first | ((with_reducible refine gate_dst (N := 1) rfl ?_); refine box_event ?hg (N := 1) ?hd (cs := #[.int .u8 a0_0, .slice A0_1 l0_1.length c0_1]) (t := 92) ?hr ?_; (case hd => rfl); (case hg => rfl); (case hr => first | (go_simp; done) | (go_simp; rfl)); intro gb202 hg w8 hbox hb; have n0_ := Aside0.mk (Kd.V_below (Kd.V_elderB (HW.zV HO0_1.out) gb202 (Nat.le_of_eq hg.symm)) hb); have n1_ := Aside0.mk (below_step HW.zb hb); have n2_ := Aside0.mk (hbox); have n4_ := Aside0.mk ((by rw [hg]; exact (below_size HW.zb) : w.heap.size ≤ gb202)); clear HO0_1; clear HB; have HO0_1 := n0_; have HB := n1_; have BK202 := n2_; have GE202 := n4_; clear n0_ n1_ n2_ n4_; clear hb hbox hg; obtain ⟨hcz9_0, hcz9_1⟩ := HW.k2 BK202.out))
      go_ret2
      exact ⟨_, rfl, Kd.V_nil _ _ _ _ _, HW.zb⟩
  rw [if_pos c2] at H; have c2b0 : (a0_0 == 3) = true := beq_iff_eq.mpr c2; have c2b1 : (a0_0 != 3) = false := bne_eq_false_iff_eq.mpr c2; clear c2; replace H := Option.bind_eq_some_iff.mp H; obtain ⟨⟨t203, t206, t209⟩, A30, H⟩ := H; replace H : (if t209 = true then (some (t203, true)) else (none)) = some (r1, r2) := H; have A3 := Aside0.mk A30; clear A30
  by_cases c4 : t209 = true
  rotate_left
  · replace c4 := Bool.eq_false_iff.mpr c4
    subst c4
    have H1 : (none) = some (r1, r2) := by rw [if_neg (show ¬ (false = true) by decide)] at H; exact H
    clear H; have H := H1; clear H1
    exact absurd H (by simp)
  subst c4
  have H1 : (some (t203, true)) = some (r1, r2) := by rw [if_pos rfl] at H; exact H
  clear H; have H := H1; clear H1
  as_aux_lemma =>
    simp only [Option.some.injEq, Prod.mk.injEq] at H
    obtain ⟨rfl, rfl⟩ := H
    go_enter Tryz.func44, Tryz.ntmps44
    go_wp2_with (first | ((with_reducible refine gate_dst (N := 1) rfl ?_); refine box_event ?hg (N := 1) ?hd (cs := #[.int .u8 a0_0, .slice A0_1 l0_1.length c0_1]) (t := 92) ?hr ?_; (case hd => rfl); (case hg => rfl); (case hr => first | (go_simp; done) | (go_simp; rfl)); intro gb202 hg w5 hbox hb; have n0_ := Aside0.mk (Kd.V_below (Kd.V_elderB (HW.zV HO0_1.out) gb202 (Nat.le_of_eq hg.symm)) hb); have n1_ := Aside0.mk (below_step HW.zb hb); have n2_ := Aside0.mk (hbox); have n4_ := Aside0.mk ((by rw [hg]; exact (below_size HW.zb) : w.heap.size ≤ gb202)); clear HO0_1; clear HB; have HO0_1 := n0_; have HB := n1_; have BK202 := n2_; have GE202 := n4_; clear n0_ n1_ n2_ n4_; clear hb hbox hg; obtain ⟨hcz6_0, hcz6_1⟩ := HW.k2 BK202.out) | ((with_reducible refine gate_callee (f := 69) rfl ?_); refine HW.gz (some 13) rfl rfl Tryz.func69 (by kernel_rfl) rfl #[.slice A0_1 l0_1.length c0_1] rfl ?_; (with_reducible refine (bsoncore_ReadDocument.calls (fun k_ => ((P0_1_ k_ ∨ w.heap.size ≤ k_) ∧ k_ ≠ gb202)) _ _ l0_1 t203 t206 true _ ?side1 A3.out).mono ?_); (case side1 => exact HO0_1.out); rintro e w7 ⟨v204, v207, rfl, ho0, ho1, hb⟩; refine ⟨_, rfl, ?_⟩; have HO205 := Aside0.mk (Kd.V_lower (Kd.V_mono (ok' := fun k_ => (P0_1_ k_ ∨ w.heap.size ≤ k_) ∧ k_ ≠ gb202) ho0 (fun k_ hk_ => ⟨Or.elim hk_ (fun hs_ => hs_.1) (fun hn_ => (.inr (Nat.le_trans (below_size HW.zb) hn_))), Or.elim hk_ (fun hs_ => hs_.2) (fun hn_ => (Kd.freshB (g := gb202) (o := .cells #[.int .u8 a0_0, .slice A0_1 l0_1.length c0_1] 92 (0, 0)) (HW.zB BK202.out) k_ hn_))⟩)) (below_size HW.zb)); replace HB := Aside0.mk (below_step HW.zb hb); (try clear hb); (try clear ho0); (try clear ho1)))
    go_ret2
    exact ⟨_, rfl, by (with_reducible repeat (first | apply Kd.V_alloc | apply Kd.V_drewN | apply Kd.V_drew)); exact Kd.V_mono HO205.out (fun _ hk => hk.1), HW.zb⟩
def bson_RawValue_DocumentOK.f (a0_0 : Int) (l0_1 : List Int) : Option (List Int × Bool) := (bson_convertToCoreValue.f a0_0 l0_1).bind fun bt211 => ((bsoncore_Value_DocumentOK.f bt211.1 bt211.2).bind fun bt215 => (some (bt215.1, bt215.2)))
theorem bson_RawValue_DocumentOK.calls (a0_0 : Int) (P0_1_ : Nat → Prop) (A0_1 : Option Addr) (c0_1 : Nat) (l0_1 : List Int) (r1 : List Int) (r2 : Bool) (w : World) (hs0_1 : Kd.V (Kd.int .u8) 5 w w.heap.size (fun k_ => P0_1_ k_) (.slice A0_1 l0_1.length c0_1) l0_1) (h : bson_RawValue_DocumentOK.f a0_0 l0_1 = some (r1, r2)) :
    Calls Tryz.prog 19 #[.agg #[.int .u8 a0_0, .slice A0_1 l0_1.length c0_1]] w fun e w' => ∃ v0_ : Value, e = .returned (.tuple #[v0_, .bool r2]) ∧ Kd.V (Kd.int .u8) 5 w' w.heap.size (fun k_ => (P0_1_ k_ ∨ w.heap.size ≤ k_)) v0_ r1 ∧ Below w.heap.size w w' := by
  have hu41 := Tryz.underlying41; have HO0_1 := Aside0.mk (show Kd.V (Kd.int .u8) 5 w w.heap.size (fun k_ => (P0_1_ k_ ∨ w.heap.size ≤ k_)) (.slice A0_1 l0_1.length c0_1) l0_1 from Kd.V_mono hs0_1 (fun k_ hk => .inl hk)); have HB := Aside0.mk (Below.refl w.heap.size w); have H : ((bson_convertToCoreValue.f a0_0 l0_1).bind fun bt211 => ((bsoncore_Value_DocumentOK.f bt211.1 bt211.2).bind fun bt215 => (some (bt215.1, bt215.2)))) = some (r1, r2) := h; clear h; replace H := Option.bind_eq_some_iff.mp H; obtain ⟨⟨t211, t212⟩, A20, H⟩ := H; replace H : ((bsoncore_Value_DocumentOK.f t211 t212).bind fun bt215 => (some (bt215.1, bt215.2))) = some (r1, r2) := H; have A2 := Aside0.mk A20; clear A20; replace H := Option.bind_eq_some_iff.mp H; obtain ⟨⟨t215, t218⟩, A30, H⟩ := H; replace H : (some (t215, t218)) = some (r1, r2) := H; have A3 := Aside0.mk A30; clear A30
  as_aux_lemma =>
    simp only [Option.some.injEq, Prod.mk.injEq] at H
    obtain ⟨rfl, rfl⟩ := H
    go_enter Tryz.func19, Tryz.ntmps19
    go_wp2_with (first | ((with_reducible refine gate_dst (N := 1) rfl ?_); refine box_event ?hg (N := 1) ?hd (cs := #[.int .u8 a0_0, .slice A0_1 l0_1.length c0_1]) (t := 41) ?hr ?_; (case hd => rfl); (case hg => rfl); (case hr => first | (go_simp; done) | (go_simp; rfl)); intro gb210 hg w4 hbox hb; have n0_ := Aside0.mk (Kd.V_below (Kd.V_elderB (HW.zV HO0_1.out) gb210 (Nat.le_of_eq hg.symm)) hb); have n1_ := Aside0.mk (below_step HW.zb hb); have n2_ := Aside0.mk (hbox); have n4_ := Aside0.mk ((by rw [hg]; exact (below_size HW.zb) : w.heap.size ≤ gb210)); clear HO0_1; clear HB; have HO0_1 := n0_; have HB := n1_; have BK210 := n2_; have GE210 := n4_; clear n0_ n1_ n2_ n4_; clear hb hbox hg; obtain ⟨hcz5_0, hcz5_1⟩ := HW.k2 BK210.out) | ((with_reducible refine gate_callee (f := 41) rfl ?_); refine HW.gz (some 8) rfl rfl Tryz.func41 (by kernel_rfl) rfl #[.agg #[.int .u8 a0_0, .slice A0_1 l0_1.length c0_1]] rfl ?_; (with_reducible refine (bson_convertToCoreValue.calls a0_0 (fun k_ => ((P0_1_ k_ ∨ w.heap.size ≤ k_) ∧ k_ ≠ gb210)) _ _ l0_1 t211 t212 _ ?side1 A2.out).mono ?_); (case side1 => exact HO0_1.out); rintro e w6 ⟨v213, rfl, ho0, hb⟩; refine ⟨_, rfl, ?_⟩; have HO214 := Aside0.mk (Kd.V_lower (Kd.V_mono (ok' := fun k_ => (P0_1_ k_ ∨ w.heap.size ≤ k_) ∧ k_ ≠ gb210) ho0 (fun k_ hk_ => ⟨Or.elim hk_ (fun hs_ => hs_.1) (fun hn_ => (.inr (Nat.le_trans (below_size HW.zb) hn_))), Or.elim hk_ (fun hs_ => hs_.2) (fun hn_ => (Kd.freshB (g := gb210) (o := .cells #[.int .u8 a0_0, .slice A0_1 l0_1.length c0_1] 41 (0, 0)) (HW.zB BK210.out) k_ hn_))⟩)) (below_size HW.zb)); replace BK210 := Aside0.mk (blk_below (HW.zB BK210.out) hb); replace HB := Aside0.mk (below_step HW.zb hb); (try clear hb); (try clear ho0); obtain ⟨Ao7, co7, eo7⟩ := Kd.V_slice HO214.out; subst eo7) | ((with_reducible refine gate_callee (f := 44) rfl ?_); refine HW.gz (some 9) rfl rfl Tryz.func44 (by kernel_rfl) rfl #[.agg #[.int .u8 t211, .slice Ao7 t212.length co7]] rfl ?_; (with_reducible refine (bsoncore_Value_DocumentOK.calls t211 (fun k_ => ((P0_1_ k_ ∨ w.heap.size ≤ k_) ∧ k_ ≠ gb210)) _ _ t212 t215 t218 _ ?side1 A3.out).mono ?_); (case side1 => exact HO214.out); rintro e w8 ⟨v216, rfl, ho0, hb⟩; refine ⟨_, rfl, ?_⟩; have HO217 := Aside0.mk (Kd.V_lower (Kd.V_mono (ok' := fun k_ => (P0_1_ k_ ∨ w.heap.size ≤ k_) ∧ k_ ≠ gb210) ho0 (fun k_ hk_ => ⟨Or.elim hk_ (fun hs_ => hs_.1) (fun hn_ => (.inr (Nat.le_trans (below_size HW.zb) hn_))), Or.elim hk_ (fun hs_ => hs_.2) (fun hn_ => (Kd.freshB (g := gb210) (o := .cells #[.int .u8 a0_0, .slice A0_1 l0_1.length c0_1] 41 (0, 0)) (HW.zB BK210.out) k_ hn_))⟩)) (below_size HW.zb)); replace HB := Aside0.mk (below_step HW.zb hb); (try clear hb); (try clear ho0)))
    go_ret2
    exact ⟨_, rfl, by (with_reducible repeat (first | apply Kd.V_alloc | apply Kd.V_drewN | apply Kd.V_drew)); exact Kd.V_mono HO217.out (fun _ hk => hk.1), HW.zb⟩
def impl_own.f (l0 : List Int) : Option (List Int) := if ([] : List Int).length + l0.length < 140737488355328 then (some (([] : List Int) ++ l0)) else (none)
theorem impl_own.calls (A0 : Option Addr) (c0 : Nat) (l0 : List Int) (r : List Int) (w : World) (hr0 : Kd.C (Kd.int .u8) w A0 l0.length l0) (hc0 : l0.length ≤ c0) (h : impl_own.f l0 = some r) :
    Calls Tryz.prog 20 #[.slice A0 l0.length c0] w fun e w' => ∃ v0_ : Value, e = .returned (v0_) ∧ Kd.R (Kd.int .u8) 5 w' w.heap.size (fun _ => True) v0_ r ∧ Below w.heap.size w w' := by
  have HR0 := Aside0.mk hr0; have HC0 := Aside0.mk hc0; clear hr0 hc0; have HB := Aside0.mk (Below.refl w.heap.size w); have H : (if ([] : List Int).length + l0.length < 140737488355328 then (some (([] : List Int) ++ l0)) else (none)) = some r := h; clear h
  by_cases c2 : ([] : List Int).length + l0.length < 140737488355328
  rotate_left
  · rw [if_neg c2] at H
    exact absurd H (by simp)
  rw [if_pos c2] at H; have LMc2 := Aside0.mk c2; clear c2; obtain ⟨y219, hy219⟩ : ∃ y_ : List Int, y_ = (([] : List Int) ++ l0) := ⟨_, rfl⟩
  replace H : (some y219) = some r := by (try rw [hy219]); exact HW.rp
  have Ny219 := Aside0.mk hy219; clear hy219
  as_aux_lemma =>
    obtain rfl := Option.some.inj H
    go_enter Tryz.func20, Tryz.ntmps20
    go_wp2_with (first | ((with_reducible refine gate_builtin (b := .append) (xs := #[.const (.slice none 0 0), .tmp 3]) rfl ?_); at_builtin; refine Kd.R_append_rows (Kd.int .u8) (w0 := w) w.heap.size rfl (.const (.slice none 0 0)) (.tmp 3) 23 5 (.int .u8 0) 1 rfl Tryz.underlying23 info5 rfl (by decide) (by omega) (.slice none 0 0) ([] : List Int) l0 _ _ _ (fun _ => True) (fun _ => False) rfl rfl ?aO ?aR (fun _ _ h => h) (fun _ h => h.elim) ?aF ?aB ?aS ?aL ?_; (case aR => repeat (first | exact HR0.out | (with_reducible refine Kd.C_alloc ?_ _) | (with_reducible refine Kd.C_drewN ?_ _) | (with_reducible refine Kd.C_drew ?_))); (case aB => exact HW.zb); (case aF => exact (fun _ _ => trivial)); (case aO => exact ((Kd.R_nil _ _ _ _ (fun _ => True)))); (case aS => exact (below_size HW.zb)); (case aL => have := LMc2.out; omega); intro v220 w3 ho hb hg hat; rw [← Ny219.out] at ho; have HO221 := Aside0.mk (ho); replace HB := Aside0.mk (hb); clear ho hb hg hat))
    go_ret
    exact ⟨_, rfl, HW.zR HO221.out, HW.zb⟩
def bsoncore_ReadArray.f (l0 : List Int) : Option (List Int × List Int × Bool) := (bsoncore_readLengthBytes.f l0).bind fun bt222 => (some (bt222.1, bt222.2.1, bt222.2.2))
theorem bsoncore_ReadArray.calls (P0_ : Nat → Prop) (A0 : Option Addr) (c0 : Nat) (l0 : List Int) (r1 : List Int) (r2 : List Int) (r3 : Bool) (w : World) (hs0 : Kd.V (Kd.int .u8) 5 w w.heap.size (fun k_ => P0_ k_) (.slice A0 l0.length c0) l0) (h : bsoncore_ReadArray.f l0 = some (r1, r2, r3)) :
    Calls Tryz.prog 70 #[.slice A0 l0.length c0] w fun e w' => ∃ v0_ v1_ : Value, e = .returned (.tuple #[v0_, v1_, .bool r3]) ∧ Kd.V (Kd.int .u8) 5 w' w.heap.size (fun k_ => (P0_ k_ ∨ w.heap.size ≤ k_)) v0_ r1 ∧ Kd.V (Kd.int .u8) 5 w' w.heap.size (fun k_ => (P0_ k_ ∨ w.heap.size ≤ k_)) v1_ r2 ∧ Below w.heap.size w w' := by
  have HO0 := Aside0.mk (show Kd.V (Kd.int .u8) 5 w w.heap.size (fun k_ => (P0_ k_ ∨ w.heap.size ≤ k_)) (.slice A0 l0.length c0) l0 from Kd.V_mono hs0 (fun k_ hk => .inl hk)); have HB := Aside0.mk (Below.refl w.heap.size w); have H : ((bsoncore_readLengthBytes.f l0).bind fun bt222 => (some (bt222.1, bt222.2.1, bt222.2.2))) = some (r1, r2, r3) := h; clear h; replace H := Option.bind_eq_some_iff.mp H; obtain ⟨⟨t222, t225, t228⟩, A20, H⟩ := H; replace H : (some (t222, t225, t228)) = some (r1, r2, r3) := H; have A2 := Aside0.mk A20; clear A20
  as_aux_lemma =>
    simp only [Option.some.injEq, Prod.mk.injEq] at H
    obtain ⟨rfl, rfl, rfl⟩ := H
    go_enter Tryz.func70, Tryz.ntmps70
    go_wp2_with (first | ((with_reducible refine gate_callee (f := 88) rfl ?_); refine HW.gz (some 6) rfl rfl Tryz.func88 (by kernel_rfl) rfl #[.slice A0 l0.length c0] rfl ?_; (with_reducible refine (bsoncore_readLengthBytes.calls (fun k_ => (P0_ k_ ∨ w.heap.size ≤ k_)) _ _ l0 t222 t225 t228 _ ?side1 A2.out).mono ?_); (case side1 => exact HO0.out); rintro e w3 ⟨v223, v226, rfl, ho0, ho1, hb⟩; refine ⟨_, rfl, ?_⟩; have HO224 := Aside0.mk (Kd.V_lower (Kd.V_mono (ok' := fun k_ => (P0_ k_ ∨ w.heap.size ≤ k_)) ho0 (fun k_ hk_ => Or.elim hk_ (fun hs_ => hs_) (fun hn_ => (.inr (Nat.le_trans (below_size HW.zb) hn_))))) (below_size HW.zb)); have HO227 := Aside0.mk (Kd.V_lower (Kd.V_mono (ok' := fun k_ => (P0_ k_ ∨ w.heap.size ≤ k_)) ho1 (fun k_ hk_ => Or.elim hk_ (fun hs_ => hs_) (fun hn_ => (.inr (Nat.le_trans (below_size HW.zb) hn_))))) (below_size HW.zb)); replace HB := Aside0.mk (below_step HW.zb hb); (try clear hb); (try clear ho0); (try clear ho1)))
    go_ret3
    exact ⟨_, _, rfl, HW.zV HO224.out, HW.zV HO227.out, HW.zb⟩
def bsoncore_Value_ArrayOK.f (a0_0 : Int) (l0_1 : List Int) : Option (List Int × Bool) := if a0_0 = 4 then ((bsoncore_ReadArray.f l0_1).bind fun bt230 => (if bt230.2.2 = true then (some (bt230.1, true)) else (none))) else (some (([] : List Int), false))
theorem bsoncore_Value_ArrayOK.calls (a0_0 : Int) (P0_1_ : Nat → Prop) (A0_1 : Option Addr) (c0_1 : Nat) (l0_1 : List Int) (r1 : List Int) (r2 : Bool) (w : World) (hs0_1 : Kd.V (Kd.int .u8) 5 w w.heap.size (fun k_ => P0_1_ k_) (.slice A0_1 l0_1.length c0_1) l0_1) (h : bsoncore_Value_ArrayOK.f a0_0 l0_1 = some (r1, r2)) :
    Calls Tryz.prog 45 #[.agg #[.int .u8 a0_0, .slice A0_1 l0_1.length c0_1]] w fun e w' => ∃ v0_ : Value, e = .returned (.tuple #[v0_, .bool r2]) ∧ Kd.V (Kd.int .u8) 5 w' w.heap.size (fun k_ => (P0_1_ k_ ∨ w.heap.size ≤ k_)) v0_ r1 ∧ Below w.heap.size w w' := by
  have hu92 := Tryz.underlying92; have HO0_1 := Aside0.mk (show Kd.V (Kd.int .u8) 5 w w.heap.size (fun k_ => (P0_1_ k_ ∨ w.heap.size ≤ k_)) (.slice A0_1 l0_1.length c0_1) l0_1 from Kd.V_mono hs0_1 (fun k_ hk => .inl hk)); have HB := Aside0.mk (Below.refl w.heap.size w); have H : (if a0_0 = 4 then ((bsoncore_ReadArray.f l0_1).bind fun bt230 => (if bt230.2.2 = true then (some (bt230.1, true)) else (none))) else (some (([] : List Int), false))) = some (r1, r2) := h; clear h
  by_cases c2 : a0_0 = 4
  rotate_left
  · rw [if_neg c2] at H
    have c2b0 : (a0_0 == 4) = false := beq_eq_false_iff_ne.mpr c2; have c2b1 : (a0_0 != 4) = true := bne_iff_ne.mpr c2
    as_aux_lemma =>
      simp only [Option.some.injEq, Prod.mk.injEq] at H
      obtain ⟨rfl, rfl⟩ := H
      go_enter Tryz.func45, Tryz.ntmps45
      go_wp2_with (first | ((with_reducible refine gate_dst (N := 1) rfl ?_); refine box_event ?hg (N := 1) ?hd (cs := #[.int .u8 a0_0, .slice A0_1 l0_1.length c0_1]) (t := 92) ?hr ?_; (case hd => rfl); (case hg => rfl); (case hr => first | (go_simp; done) | (go_simp; rfl)); intro gb229 hg w8 hbox hb; have n0_ := Aside0.mk (Kd.V_below (Kd.V_elderB (HW.zV HO0_1.out) gb229 (Nat.le_of_eq hg.symm)) hb); have n1_ := Aside0.mk (below_step HW.zb hb); have n2_ := Aside0.mk (hbox); have n4_ := Aside0.mk ((by rw [hg]; exact (below_size HW.zb) : w.heap.size ≤ gb229)); clear HO0_1; clear HB; have HO0_1 := n0_; have HB := n1_; have BK229 := n2_; have GE229 := n4_; clear n0_ n1_ n2_ n4_; clear hb hbox hg; obtain ⟨hcz9_0, hcz9_1⟩ := HW.k2 BK229.out))
      go_ret2
      exact ⟨_, rfl, Kd.V_nil _ _ _ _ _, HW.zb⟩
  rw [if_pos c2] at H; have c2b0 : (a0_0 == 4) = true := beq_iff_eq.mpr c2; have c2b1 : (a0_0 != 4) = false := bne_eq_false_iff_eq.mpr c2; clear c2; replace H := Option.bind_eq_some_iff.mp H; obtain ⟨⟨t230, t233, t236⟩, A30, H⟩ := H; replace H : (if t236 = true then (some (t230, true)) else (none)) = some (r1, r2) := H; have A3 := Aside0.mk A30; clear A30
  by_cases c4 : t236 = true
  rotate_left
  · replace c4 := Bool.eq_false_iff.mpr c4
    subst c4
    have H1 : (none) = some (r1, r2) := by rw [if_neg (show ¬ (false = true) by decide)] at H; exact H
    clear H; have H := H1; clear H1
    exact absurd H (by simp)
  subst c4
  have H1 : (some (t230, true)) = some (r1, r2) := by rw [if_pos rfl] at H; exact H
  clear H; have H := H1; clear H1
  as_aux_lemma =>
    simp only [Option.some.injEq, Prod.mk.injEq] at H
    obtain ⟨rfl, rfl⟩ := H
    go_enter Tryz.func45, Tryz.ntmps45
    go_wp2_with (first | ((with_reducible refine gate_dst (N := 1) rfl ?_); refine box_event ?hg (N := 1) ?hd (cs := #[.int .u8 a0_0, .slice A0_1 l0_1.length c0_1]) (t := 92) ?hr ?_; (case hd => rfl); (case hg => rfl); (case hr => first | (go_simp; done) | (go_simp; rfl)); intro gb229 hg w5 hbox hb; have n0_ := Aside0.mk (Kd.V_below (Kd.V_elderB (HW.zV HO0_1.out) gb229 (Nat.le_of_eq hg.symm)) hb); have n1_ := Aside0.mk (below_step HW.zb hb); have n2_ := Aside0.mk (hbox); have n4_ := Aside0.mk ((by rw [hg]; exact (below_size HW.zb) : w.heap.size ≤ gb229)); clear HO0_1; clear HB; have HO0_1 := n0_; have HB := n1_; have BK229 := n2_; have GE229 := n4_; clear n0_ n1_ n2_ n4_; clear hb hbox hg; obtain ⟨hcz6_0, hcz6_1⟩ := HW.k2 BK229.out) | ((with_reducible refine gate_callee (f := 70) rfl ?_); refine HW.gz (some 13) rfl rfl Tryz.func70 (by kernel_rfl) rfl #[.slice A0_1 l0_1.length c0_1] rfl ?_; (with_reducible refine (bsoncore_ReadArray.calls (fun k_ => ((P0_1_ k_ ∨ w.heap.size ≤ k_) ∧ k_ ≠ gb229)) _ _ l0_1 t230 t233 true _ ?side1 A3.out).mono ?_); (case side1 => exact HO0_1.out); rintro e w7 ⟨v231, v234, rfl, ho0, ho1, hb⟩; refine ⟨_, rfl, ?_⟩; have HO232 := Aside0.mk (Kd.V_lower (Kd.V_mono (ok' := fun k_ => (P0_1_ k_ ∨ w.heap.size ≤ k_) ∧ k_ ≠ gb229) ho0 (fun k_ hk_ => ⟨Or.elim hk_ (fun hs_ => hs_.1) (fun hn_ => (.inr (Nat.le_trans (below_size HW.zb) hn_))), Or.elim hk_ (fun hs_ => hs_.2) (fun hn_ => (Kd.freshB (g := gb229) (o := .cells #[.int .u8 a0_0, .slice A0_1 l0_1.length c0_1] 92 (0, 0)) (HW.zB BK229.out) k_ hn_))⟩)) (below_size HW.zb)); replace HB := Aside0.mk (below_step HW.zb hb); (try clear hb); (try clear ho0); (try clear ho1)))
    go_ret2
    exact ⟨_, rfl, by (with_reducible repeat (first | apply Kd.V_alloc | apply Kd.V_drewN | apply Kd.V_drew)); exact Kd.V_mono HO232.out (fun _ hk => hk.1), HW.zb⟩
end Go.Proofs.YtpbfigeaoefcmaaGreat.PBg
