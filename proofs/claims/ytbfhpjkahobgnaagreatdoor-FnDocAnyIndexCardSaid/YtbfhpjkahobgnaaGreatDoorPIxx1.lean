import Derived.Test.YtbfhpjkahobgnaaGreatDoorPIxx0
namespace Go.Proofs.YtbfhpjkahobgnaaGreatDoor.PIx
open Go.RowKit Go.Proofs.YtbfhpjkahobgnaaGreatDoorW.PrintWords Go.Proofs.YtbfhpjkahobgnaaGreatDoorW.PrintLast Go.Proofs.YtbfhpjkahobgnaaGreatDoorW.PrintMore
attribute [local go_sem] max2_int min2_int max_two min_two max_three min_three max_four min_four
set_option linter.unusedVariables false
set_option maxHeartbeats 8000000
set_option maxRecDepth 100000
set_option linter.unusedSimpArgs false
def laws_docModest.f (l0 : List Int) : Option (Bool) := some (decide ((l0.length : Int) ≤ 5000))
theorem laws_docModest.calls (A0 : Option Addr) (c0 : Nat) (l0 : List Int) (r : Bool) (w : World) (hr0 : Kd.C (Kd.int .u8) w A0 l0.length l0) (hc0 : l0.length ≤ c0) (h : laws_docModest.f l0 = some r) :
    Calls Tryz.prog 5 #[.slice A0 l0.length c0] w fun e w' => e = .returned (.bool r) ∧ Drawn0 w w' := by
  have HR0 := Aside0.mk hr0; have HC0 := Aside0.mk hc0; clear hr0 hc0; have H : (some (decide ((l0.length : Int) ≤ 5000))) = some r := h; clear h
  as_aux_lemma =>
    obtain rfl := Option.some.inj H
    go_enter Tryz.func5, Tryz.ntmps5
    go_wp2
    go_ret
    exact ⟨by first | rfl | (simp; done) | (simp [*]; done), by repeat (first | exact Drawn0.refl _ | apply Drawn0.step)⟩
def spec_DocNumber.f (l0 : List Int) : Option (Int × Bool) := if (l0.length : Int) < 4 then (some (0, false)) else (if 0 < (l0.length : Int) then (if 1 < (l0.length : Int) then (if 2 < (l0.length : Int) then (if 3 < (l0.length : Int) then (some (wrap64 (wrap32 (Go.bits .or .u32 (Go.bits .or .u32 (Go.bits .or .u32 ((rd l0 0) % 4294967296) ((((rd l0 1) % 4294967296) * 256) % 4294967296)) ((((rd l0 2) % 4294967296) * 65536) % 4294967296)) ((((rd l0 3) % 4294967296) * 16777216) % 4294967296))), true)) else (none)) else (none)) else (none)) else (none))
theorem spec_DocNumber.calls (A0 : Option Addr) (c0 : Nat) (l0 : List Int) (r1 : Int) (r2 : Bool) (w : World) (hr0 : Kd.C (Kd.int .u8) w A0 l0.length l0) (hc0 : l0.length ≤ c0) (h : spec_DocNumber.f l0 = some (r1, r2)) :
    Calls Tryz.prog 39 #[.slice A0 l0.length c0] w fun e w' => e = .returned (.tuple #[.int .i64 r1, .bool r2]) ∧ Drawn0 w w' := by
  have HR0 := Aside0.mk hr0; have HC0 := Aside0.mk hc0; clear hr0 hc0; have H : (if (l0.length : Int) < 4 then (some (0, false)) else (if 0 < (l0.length : Int) then (if 1 < (l0.length : Int) then (if 2 < (l0.length : Int) then (if 3 < (l0.length : Int) then (some (wrap64 (wrap32 (Go.bits .or .u32 (Go.bits .or .u32 (Go.bits .or .u32 ((rd l0 0) % 4294967296) ((((rd l0 1) % 4294967296) * 256) % 4294967296)) ((((rd l0 2) % 4294967296) * 65536) % 4294967296)) ((((rd l0 3) % 4294967296) * 16777216) % 4294967296))), true)) else (none)) else (none)) else (none)) else (none))) = some (r1, r2) := h; clear h
  by_cases c2 : (l0.length : Int) < 4
  · rw [if_pos c2] at H
    have c2b0 : decide ((l0.length : Int) < 4) = true := decide_eq_true c2
    have c2b1 : decide (l0.length < 4) = true := decide_eq_true (by omega)
    clear c2
    as_aux_lemma =>
      simp only [Option.some.injEq, Prod.mk.injEq] at H
      obtain ⟨rfl, rfl⟩ := H
      go_enter Tryz.func39, Tryz.ntmps39
      go_wp2
      repeat (go_quiet (fail); try go_wp2)
      go_ret2
      exact ⟨by first | rfl | (simp; done) | (simp [*]; done), by repeat (first | exact Drawn0.refl _ | apply Drawn0.step)⟩
  rw [if_neg c2] at H; have c2b0 : decide ((l0.length : Int) < 4) = false := decide_eq_false c2
  have c2b1 : decide (l0.length < 4) = false := decide_eq_false (by omega)
  clear c2
  by_cases c3 : 0 < (l0.length : Int)
  rotate_left
  · rw [if_neg c3] at H
    exact absurd H (by simp)
  rw [if_pos c3] at H; have c3b0 : decide (0 < (l0.length : Int)) = true := decide_eq_true c3
  have c3b1 : decide (0 < l0.length) = true := decide_eq_true (by omega)
  clear c3
  by_cases c4 : 1 < (l0.length : Int)
  rotate_left
  · rw [if_neg c4] at H
    exact absurd H (by simp)
  rw [if_pos c4] at H; have c4b0 : decide (1 < (l0.length : Int)) = true := decide_eq_true c4
  have c4b1 : decide (1 < l0.length) = true := decide_eq_true (by omega)
  clear c4
  by_cases c5 : 2 < (l0.length : Int)
  rotate_left
  · rw [if_neg c5] at H
    exact absurd H (by simp)
  rw [if_pos c5] at H; have c5b0 : decide (2 < (l0.length : Int)) = true := decide_eq_true c5
  have c5b1 : decide (2 < l0.length) = true := decide_eq_true (by omega)
  clear c5
  by_cases c6 : 3 < (l0.length : Int)
  rotate_left
  · rw [if_neg c6] at H
    exact absurd H (by simp)
  rw [if_pos c6] at H; have c6b0 : decide (3 < (l0.length : Int)) = true := decide_eq_true c6
  have c6b1 : decide (3 < l0.length) = true := decide_eq_true (by omega)
  clear c6
  as_aux_lemma =>
    simp only [Option.some.injEq, Prod.mk.injEq] at H
    obtain ⟨rfl, rfl⟩ := H
    have p101 : 0 ≤ (0 : Int) := (by omega)
    have q101 : 0 < (l0.length : Int) := HW.od
    obtain ⟨ad101, e101, hx101_0⟩ := Kd.at_int HR0.out 0 p101 q101
    cases e101
    have qi101 : (0 < l0.length) = True := eq_true (by omega)
    (try rw [show ((0 : Int)).toNat = 0 from rfl] at hx101_0)
    (try rw [Addr.add_zero'] at hx101_0)
    replace p101 := eq_true p101; replace q101 := eq_true q101
    have p102 : 0 ≤ (1 : Int) := (by omega)
    have q102 : 1 < (l0.length : Int) := HW.od
    obtain ⟨ad102, e102, hx102_0⟩ := Kd.at_int HR0.out 1 p102 q102
    obtain rfl : ad101 = ad102 := (by injection e102)
    (try simp only [show (1 : Int).toNat = 1 from rfl, Nat.reduceMul, Nat.reduceEqDiff, Go.Addr.add, ↓reduceIte] at hx102_0)
    have qi102 : (1 < l0.length) = True := eq_true (by omega)
    (try rw [show ((1 : Int)).toNat = 1 from rfl] at hx102_0)
    replace p102 := eq_true p102; replace q102 := eq_true q102
    have p103 : 0 ≤ (2 : Int) := (by omega)
    have q103 : 2 < (l0.length : Int) := HW.od
    obtain ⟨ad103, e103, hx103_0⟩ := Kd.at_int HR0.out 2 p103 q103
    obtain rfl : ad101 = ad103 := (by injection e103)
    (try simp only [show (2 : Int).toNat = 2 from rfl, Nat.reduceMul, Nat.reduceEqDiff, Go.Addr.add, ↓reduceIte] at hx103_0)
    have qi103 : (2 < l0.length) = True := eq_true (by omega)
    (try rw [show ((2 : Int)).toNat = 2 from rfl] at hx103_0)
    replace p103 := eq_true p103; replace q103 := eq_true q103
    have p104 : 0 ≤ (3 : Int) := (by omega)
    have q104 : 3 < (l0.length : Int) := HW.od
    obtain ⟨ad104, e104, hx104_0⟩ := Kd.at_int HR0.out 3 p104 q104
    obtain rfl : ad101 = ad104 := (by injection e104)
    (try simp only [show (3 : Int).toNat = 3 from rfl, Nat.reduceMul, Nat.reduceEqDiff, Go.Addr.add, ↓reduceIte] at hx104_0)
    have qi104 : (3 < l0.length) = True := eq_true (by omega)
    (try rw [show ((3 : Int)).toNat = 3 from rfl] at hx104_0)
    replace p104 := eq_true p104; replace q104 := eq_true q104
    go_enter Tryz.func39, Tryz.ntmps39
    go_wp2
    repeat (go_quiet (fail); try go_wp2)
    go_ret2
    exact ⟨by first | rfl | (simp; done) | (simp [*]; done), by repeat (first | exact Drawn0.refl _ | apply Drawn0.step)⟩
def spec_DocName.l0 : Nat → List Int → Int → Option (ByteArray × Int × Bool)
  | 0, _, _ => none
  | k + 1, x0, x5 => if x5 < (x0.length : Int) then (if 0 ≤ x5 then (if (rd x0 x5) = 0 then (if x5 ≤ (x0.length : Int) then (some (strOfNums (x0.take (x5 : Int).toNat), wrap64 (x5 + 1), true)) else (none)) else (spec_DocName.l0 k x0 (wrap64 (x5 + 1)))) else (none)) else (some ((⟨#[]⟩ : ByteArray), 0, false))
def spec_DocName.f (k : Nat) (l0 : List Int) : Option (ByteArray × Int × Bool) := spec_DocName.l0 k l0 0
theorem spec_DocName.mono_l : ∀ k, (∀ y0 y1, LeO (spec_DocName.l0 k y0 y1) (spec_DocName.l0 (k + 1) y0 y1))
  | 0 => fun _ _ r h => by simp [spec_DocName.l0] at h
  | k + 1 => by
    have ih0 := spec_DocName.mono_l k
    · intro y0 y1
      unfold spec_DocName.l0
      have m0_ := @ih0; exact HW.mo
theorem spec_DocName.mono : ∀ a0 k, LeO (spec_DocName.f k a0) (spec_DocName.f (k + 1) a0) := by
  intro a0 k
  have ih0 := spec_DocName.mono_l k
  unfold spec_DocName.f
  have m0_ := @ih0; exact HW.mo
theorem spec_DocName.calls (k : Nat) (A0 : Option Addr) (c0 : Nat) (l0 : List Int) (r1 : ByteArray) (r2 : Int) (r3 : Bool) (w : World) (hr0 : Kd.C (Kd.int .u8) w A0 l0.length l0) (hc0 : l0.length ≤ c0) (h : spec_DocName.f k l0 = some (r1, r2, r3)) :
    Calls Tryz.prog 82 #[.slice A0 l0.length c0] w fun e w' => e = .returned (.tuple #[.string r1, .int .i64 r2, .bool r3]) ∧ Drawn0 w w' := by
  have HR0 := Aside0.mk hr0; have HC0 := Aside0.mk hc0; clear hr0 hc0; have H : (spec_DocName.l0 k l0 0) = some (r1, r2, r3) := h; clear h; have H' := Aside0.mk H; clear H
  go_enter Tryz.func82, Tryz.ntmps82
  go_wp2
  go_loopg [5] k (fun kq v5 w' => ∃ (x5_1 : Int), v5 = .int .i64 x5_1 ∧ Aside0 (spec_DocName.l0 kq l0 x5_1 = some (r1, r2, r3)) ∧ Aside0 (kq ≤ k) ∧ Drawn0 w w')
  case atStart => exact ⟨(0), HW.rs, H', ⟨Nat.le_refl _⟩, by repeat (first | exact Drawn0.refl _ | apply Drawn0.step)⟩
  case round =>
    clear H'; obtain ⟨x5_1, rfl, HA, HK1, ⟨m1, rfl⟩⟩ := hrel
    cases gk with
    | zero => exact absurd HA.out (by simp [spec_DocName.l0])
    | succ k1 =>
      have H := HA.out; clear HA
      simp only [spec_DocName.l0] at H
      by_cases c2 : x5_1 < (l0.length : Int)
      rotate_left
      · rw [if_neg c2] at H
        have c2b0 : decide (x5_1 < (l0.length : Int)) = false := decide_eq_false c2; clear c2
        as_aux_lemma =>
          simp only [Option.some.injEq, Prod.mk.injEq] at H
          obtain ⟨rfl, rfl, rfl⟩ := H
          go_wp2
          go_ret3
          exact ⟨by first | rfl | (simp; done) | (simp [*]; done), by repeat (first | exact Drawn0.refl _ | apply Drawn0.step)⟩
      rw [if_pos c2] at H; have c2b0 : decide (x5_1 < (l0.length : Int)) = true := decide_eq_true c2; clear c2
      by_cases c3 : 0 ≤ x5_1
      rotate_left
      · rw [if_neg c3] at H
        exact absurd H (by simp)
      rw [if_pos c3] at H; have c3b0 : decide (0 ≤ x5_1) = true := decide_eq_true c3; clear c3
      by_cases c4 : (rd l0 x5_1) = 0
      rotate_left
      · rw [if_neg c4] at H
        have c4b0 : ((rd l0 x5_1) == 0) = false := beq_eq_false_iff_ne.mpr c4; have c4b1 : ((rd l0 x5_1) != 0) = true := bne_iff_ne.mpr c4
        as_aux_lemma =>
          have H' := Aside0.mk H; clear H
          have p105 : 0 ≤ (x5_1 : Int) := HW.od
          have q105 : x5_1 < (l0.length : Int) := HW.od
          obtain ⟨ad105, e105, hx105_0⟩ := Kd.at_int HR0.out x5_1 p105 q105
          cases e105
          replace p105 := eq_true p105; replace q105 := eq_true q105
          go_wp2
          go_roundg k1
          case measure => have := HK1.out; omega
          case rel => exact ⟨(wrap64 (x5_1 + 1)), HW.rs, H', ⟨by have := HK1.out; omega⟩, by repeat (first | exact Drawn0.refl _ | apply Drawn0.step)⟩
      rw [if_pos c4] at H; have c4b0 : ((rd l0 x5_1) == 0) = true := beq_iff_eq.mpr c4; have c4b1 : ((rd l0 x5_1) != 0) = false := bne_eq_false_iff_eq.mpr c4; clear c4
      have c5b0 := eq_true (HW.od : 0 ≤ x5_1)
      by_cases c6 : x5_1 ≤ (l0.length : Int)
      rotate_left
      · rw [if_neg c6] at H
        exact absurd H (by simp)
      rw [if_pos c6] at H; have c6b0 := eq_true c6; have c6b1 : decide (x5_1 ≤ (l0.length : Int)) = true := decide_eq_true c6; clear c6; obtain ⟨y106, hy106⟩ : ∃ y_ : List Int, y_ = (l0.take (x5_1 : Int).toNat) := ⟨_, rfl⟩
      replace H : (some (strOfNums y106, wrap64 (x5_1 + 1), true)) = some (r1, r2, r3) := by (try rw [hy106]); exact HW.rp
      have Ny106 := Aside0.mk hy106; clear hy106
      as_aux_lemma =>
        simp only [Option.some.injEq, Prod.mk.injEq] at H
        obtain ⟨rfl, rfl, rfl⟩ := H
        have p105 : 0 ≤ (x5_1 : Int) := HW.od
        have q105 : x5_1 < (l0.length : Int) := HW.od
        obtain ⟨ad105, e105, hx105_0⟩ := Kd.at_int HR0.out x5_1 p105 q105
        cases e105
        replace p105 := eq_true p105; replace q105 := eq_true q105
        have q7 : (x5_1 : Int) ≤ ((l0.length : Int) : Int) := HW.od
        obtain ⟨i07, hi07, _, hsz7, _⟩ := info_parts info5; have hroom7 : l0.length ≤ c0 := HC0.out; have hC7 : Kd.C (Kd.int .u8) _ (some ad105) l0.length l0 := HR0.out
        have hcut7 := cut_to (P := Tryz.prog) 22 5 .i64 Tryz.underlying22 hi07 (some ad105) l0.length c0 x5_1 (HW.od) q7 hroom7
        have hr7 := Kd.C_take (m := (x5_1 : Int).toNat) hC7 (by omega)
        have hy7 : y106.length = (x5_1 : Int).toNat := (by rw [Ny106.out, List.length_take]; omega)
        rw [← Ny106.out] at hr7; rw [← hy7] at hcut7; have HR109 := Aside0.mk hr7
        have HC109 := Aside0.mk (show y106.length ≤ c0 from by omega)
        clear hr7 hC7 hroom7 hi07 hsz7; have KY7 := Aside0.mk hy7; clear hy7; replace q7 := eq_true q7; have hcv8 := Kd.C_string (P := Tryz.prog) (A := (some ad105)) (c := c0) Tryz.underlying22 Tryz.underlying5 Tryz.underlying9 HR109.out; have hcv9 := fun m_ : Nat => Kd.C_string (P := Tryz.prog) (A := (some ad105)) (c := c0) Tryz.underlying22 Tryz.underlying5 Tryz.underlying9 (Kd.C_drewN HR109.out m_)
        go_wp2
        go_ret3
        exact ⟨by first | rfl | (simp; done) | (simp [*]; done), by repeat (first | exact Drawn0.refl _ | apply Drawn0.step)⟩
end Go.Proofs.YtbfhpjkahobgnaaGreatDoor.PIx
