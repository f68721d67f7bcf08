/- Printed by a program of this session (a turned copy of the printer of the kit): contracts of functions of the translation, each with the Lean function that it computes. Conditions: as each theorem states them. -/
import Derived.Test.YtdcoingcpkhmiaaDoorPEix0
namespace Go.Proofs.YtdcoingcpkhmiaaDoor.PEi
open Go.RowKit Go.Proofs.YtdcoingcpkhmiaaDoorW.PrintWords Go.Proofs.YtdcoingcpkhmiaaDoorW.PrintLast Go.Proofs.YtdcoingcpkhmiaaDoorW.PrintMore
attribute [local go_sem] max2_int min2_int max_two min_two max_three min_three max_four min_four   -- for this text's walks alone
set_option linter.unusedVariables false
set_option linter.unusedSimpArgs false

/-! ### spec_decAll: function 7 -/
mutual
def spec_decAll.l0 : Nat → ByteArray → Int → Option (Bool)
  | 0, _, _ => none
  | k + 1, x0, x3 => if x3 < (x0.size : Int) then (if 0 ≤ x3 then (if (bt x0 x3) < 48 then (spec_decAll.j1 k x0 x3 true) else (spec_decAll.j1 k x0 x3 (decide ((bt x0 x3) > 57)))) else (none)) else (some true)
def spec_decAll.j1 : Nat → ByteArray → Int → Bool → Option (Bool)
  | 0, _, _, _ => none
  | k + 1, x0, x3, x19 => if x19 = true then (some false) else (spec_decAll.l0 k x0 (wrap64 (x3 + 1)))
end
def spec_decAll.f (k : Nat) (a0 : ByteArray) : Option (Bool) := spec_decAll.l0 k a0 0
theorem spec_decAll.mono_l : ∀ k, (∀ y0 y1, LeO (spec_decAll.l0 k y0 y1) (spec_decAll.l0 (k + 1) y0 y1)) ∧ (∀ y0 y1 y2, LeO (spec_decAll.j1 k y0 y1 y2) (spec_decAll.j1 (k + 1) y0 y1 y2))
  | 0 => ⟨fun _ _ r h => by simp [spec_decAll.l0] at h, fun _ _ _ r h => by simp [spec_decAll.j1] at h⟩
  | k + 1 => by
    obtain ⟨ih0, ih1⟩ := spec_decAll.mono_l k
    refine ⟨?_, ?_⟩
    · intro y0 y1
      unfold spec_decAll.l0
      repeat' first
      | (with_reducible exact ih0 _ _)
      | (with_reducible exact ih1 _ _ _)
      | (with_reducible exact LeO.refl _)
      | (with_reducible exact LeO.none _)
      | (with_reducible refine LeO.ite ?_ ?_)
      | (with_reducible refine LeO.bind ?_ (fun _ => ?_))
      | exact ih0 _ _
      | exact ih1 _ _ _
      | exact LeO.none _
      | refine LeO.ite ?_ ?_
      | refine LeO.bind ?_ (fun _ => ?_)
    · intro y0 y1 y2
      unfold spec_decAll.j1
      repeat' first
      | (with_reducible exact ih0 _ _)
      | (with_reducible exact ih1 _ _ _)
      | (with_reducible exact LeO.refl _)
      | (with_reducible exact LeO.none _)
      | (with_reducible refine LeO.ite ?_ ?_)
      | (with_reducible refine LeO.bind ?_ (fun _ => ?_))
      | exact ih0 _ _
      | exact ih1 _ _ _
      | exact LeO.none _
      | refine LeO.ite ?_ ?_
      | refine LeO.bind ?_ (fun _ => ?_)
theorem spec_decAll.mono : ∀ a0 k, LeO (spec_decAll.f k a0) (spec_decAll.f (k + 1) a0) := by
  intro a0 k
  obtain ⟨ih0, ih1⟩ := spec_decAll.mono_l k
  unfold spec_decAll.f
  repeat' first
      | (with_reducible exact ih0 _ _)
      | (with_reducible exact ih1 _ _ _)
      | (with_reducible exact LeO.refl _)
      | (with_reducible exact LeO.none _)
      | (with_reducible refine LeO.ite ?_ ?_)
      | (with_reducible refine LeO.bind ?_ (fun _ => ?_))
      | exact ih0 _ _
      | exact ih1 _ _ _
      | exact LeO.none _
      | refine LeO.ite ?_ ?_
      | refine LeO.bind ?_ (fun _ => ?_)
set_option maxHeartbeats 8000000 in
set_option maxRecDepth 100000 in
theorem spec_decAll.calls (k : Nat) (a0 : ByteArray) (r : Bool) (w : World) (h : spec_decAll.f k a0 = some r) :
    Calls Tryd.prog 7 #[.string a0] w fun e w' => e = .returned (.bool r) ∧ Drawn0 w w' := by
  have H : (spec_decAll.l0 k a0 0) = some r := h
  clear h
  have H' := Aside0.mk H
  clear H
  go_enter Tryd.func7, Tryd.ntmps7
  go_wp2
  go_loopg [3] k (fun kq v3 w' => ∃ (x3_1 : Int), v3 = .int .i64 x3_1 ∧ Aside0 (spec_decAll.l0 kq a0 x3_1 = some r) ∧ Aside0 (kq ≤ k) ∧ Drawn0 w w')
  case atStart => exact ⟨(0), (by first | rfl | (simp; done) | (simp [*]; done)), H', ⟨Nat.le_refl _⟩, by repeat (first | exact Drawn0.refl _ | apply Drawn0.step)⟩
  case round =>
    clear H'
    obtain ⟨x3_1, rfl, HA, HK1, ⟨m1, rfl⟩⟩ := hrel
    cases gk with
    | zero => exact absurd HA.out (by simp [spec_decAll.l0])
    | succ k1 =>
      have H := HA.out
      clear HA
      simp only [spec_decAll.l0] at H
      by_cases c2 : x3_1 < (a0.size : Int)
      · rw [if_pos c2] at H
        have c2b0 : decide (x3_1 < (a0.size : Int)) = true := decide_eq_true c2
        clear c2
        have HC3 := Aside0.mk H
        clear H
        go_upto_region 4 with (fail)
        go_cut [19] (fun v19 wc => ∃ (kq : Nat) (x19_2 : Bool), v19 = .bool x19_2 ∧ Aside0 (spec_decAll.j1 kq a0 x3_1 x19_2 = some r) ∧ Aside0 (kq ≤ k1) ∧ Drawn0 w wc)
        case first =>
          have H := HC3.out
          clear HC3
          by_cases c4 : 0 ≤ x3_1
          · rw [if_pos c4] at H
            have c4b0 : decide (0 ≤ x3_1) = true := decide_eq_true c4
            clear c4
            (first | rw [c4b0] | (simp only [i64_w, i32_w]; rw [c4b0]) | skip)
            by_cases c6 : (bt a0 x3_1) < 48
            · rw [if_pos c6] at H
              have c6b0 : decide ((bt a0 x3_1) < 48) = true := decide_eq_true c6
              clear c6
              as_aux_lemma =>
                have H' := Aside0.mk H
                clear H
                have p5 : 0 ≤ (x3_1 : Int) := of_decide_eq_true (by first | (with_reducible assumption) | assumption)
                have q5 : x3_1 < (a0.size : Int) := of_decide_eq_true (by first | (with_reducible assumption) | assumption)
                have hx5 := bt_at a0 x3_1
                replace p5 := eq_true p5
                replace q5 := eq_true q5
                go_wp2
                go_meet
                case rel => exact ⟨_, (true), (by first | rfl | (simp; done) | (simp [*]; done)), H', ⟨by have := HK1.out; first | omega | exact Nat.le_refl _⟩, by repeat (first | exact Drawn0.refl _ | apply Drawn0.step)⟩
            · rw [if_neg c6] at H
              have c6b0 : decide ((bt a0 x3_1) < 48) = false := decide_eq_false c6
              clear c6
              as_aux_lemma =>
                have H' := Aside0.mk H
                clear H
                have p5 : 0 ≤ (x3_1 : Int) := of_decide_eq_true (by first | (with_reducible assumption) | assumption)
                have q5 : x3_1 < (a0.size : Int) := of_decide_eq_true (by first | (with_reducible assumption) | assumption)
                have hx5 := bt_at a0 x3_1
                replace p5 := eq_true p5
                replace q5 := eq_true q5
                have p7 : 0 ≤ (x3_1 : Int) := of_decide_eq_true (by first | (with_reducible assumption) | assumption)
                have q7 : x3_1 < (a0.size : Int) := of_decide_eq_true (by first | (with_reducible assumption) | assumption)
                have hx7 := bt_at a0 x3_1
                replace p7 := eq_true p7
                replace q7 := eq_true q7
                go_wp2
                go_meet
                case rel => exact ⟨_, (decide ((bt a0 x3_1) > 57)), (by first | rfl | (simp; done) | (simp [*]; done)), H', ⟨by have := HK1.out; first | omega | exact Nat.le_refl _⟩, by repeat (first | exact Drawn0.refl _ | apply Drawn0.step)⟩
          · rw [if_neg c4] at H
            exact absurd H (by simp)
        case rest =>
          clear HC3
          try clear c2
          try clear c2b0
          try clear p2
          try clear c4
          try clear c4b0
          try clear p5
          try clear q5
          try clear hx5
          try clear c6
          try clear c6b0
          try clear c7
          try clear p7
          try clear q7
          try clear hx7
          try clear p5
          try clear p7
          try clear q5
          try clear q7
          obtain ⟨kq, x19_2, rfl, HA, HJ2, ⟨mc2, rfl⟩⟩ := hcut
          cases kq with
          | zero => exact absurd HA.out (by simp [spec_decAll.j1])
          | succ kj2 =>
            have H := HA.out
            clear HA
            simp only [spec_decAll.j1] at H
            by_cases c8 : x19_2 = true
            · subst c8
              have H1 : (some false) = some r := by rw [if_pos rfl] at H; exact H
              clear H
              have H := H1
              clear H1
              as_aux_lemma =>
                obtain rfl := Option.some.inj H
                go_wp2
                go_ret
                exact ⟨by first | rfl | (simp; done) | (simp [*]; done), by repeat (first | exact Drawn0.refl _ | apply Drawn0.step)⟩
            · replace c8 := Bool.eq_false_iff.mpr c8
              subst c8
              have H1 : (spec_decAll.l0 kj2 a0 (wrap64 (x3_1 + 1))) = some r := by rw [if_neg (show ¬ (false = true) by decide)] at H; exact H
              clear H
              have H := H1
              clear H1
              as_aux_lemma =>
                have H' := Aside0.mk H
                clear H
                go_wp2
                go_roundg kj2
                case measure => have := HK1.out; have := HJ2.out; omega
                case rel => exact ⟨(wrap64 (x3_1 + 1)), (by first | rfl | (simp; done) | (simp [*]; done)), H', ⟨by have := HK1.out; have := HJ2.out; omega⟩, by repeat (first | exact Drawn0.refl _ | apply Drawn0.step)⟩
      · rw [if_neg c2] at H
        have c2b0 : decide (x3_1 < (a0.size : Int)) = false := decide_eq_false c2
        clear c2
        as_aux_lemma =>
          obtain rfl := Option.some.inj H
          go_wp2
          go_ret
          exact ⟨by first | rfl | (simp; done) | (simp [*]; done), by repeat (first | exact Drawn0.refl _ | apply Drawn0.step)⟩

/-! ### spec_ExtInt: function 4 -/
mutual
def spec_ExtInt.j0 : Nat → ByteArray → Int → Bool → Bool → Option (Int × Bool)
  | 0, _, _, _, _ => none
  | k + 1, x0, x1, x6, x22 => if x22 = true then (if 0 < (x0.size : Int) then (if 1 ≤ (x0.size : Int) then (spec_ExtInt.j1 k (x0.extract 1 x0.size) x1 ((bt x0 0) == 45)) else (none)) else (none)) else (spec_ExtInt.j1 k x0 x1 x6)
def spec_ExtInt.j1 : Nat → ByteArray → Int → Bool → Option (Int × Bool)
  | 0, _, _, _ => none
  | k + 1, x0, x1, x6 => if x0.toList = ([] : List UInt8) then (spec_ExtInt.j2 k x0 x1 x6 true) else ((spec_decAll.f k x0).bind fun t101 => (spec_ExtInt.j2 k x0 x1 x6 (!t101)))
def spec_ExtInt.j2 : Nat → ByteArray → Int → Bool → Bool → Option (Int × Bool)
  | 0, _, _, _, _ => none
  | k + 1, x0, x1, x6, x34 => if x34 = true then (some (0, false)) else (if 0 ≤ (wrap64 (x1 - 1)) then (spec_ExtInt.l0 k x0 x6 (shl .u64 1 (wrap64 (x1 - 1))) 0 0) else (none))
def spec_ExtInt.l0 : Nat → ByteArray → Bool → Int → Int → Int → Option (Int × Bool)
  | 0, _, _, _, _, _ => none
  | k + 1, x0, x6, x7, x8, x9 => if x9 < (x0.size : Int) then (if 0 ≤ x9 then (if x8 > (IntKind.u64.wrap (Int.tdiv (IntKind.u64.wrap (x7 - (((bt x0 x9) - 48) % 256))) 10)) then (some (0, false)) else (spec_ExtInt.l0 k x0 x6 x7 (IntKind.u64.wrap ((IntKind.u64.wrap (x8 * 10)) + (((bt x0 x9) - 48) % 256))) (wrap64 (x9 + 1)))) else (none)) else (if x6 = true then (some (wrap64 ((wrap64 (-(wrap64 (IntKind.u64.wrap (x8 - 1))))) - 1), true)) else (some (wrap64 (x8), decide (x8 < x7))))
end
def spec_ExtInt.f (k : Nat) (a0 : ByteArray) (a1 : Int) : Option (Int × Bool) := if a0.toList = ([] : List UInt8) then (spec_ExtInt.j0 k a0 a1 false false) else (if 0 < (a0.size : Int) then (if (bt a0 0) = 45 then (spec_ExtInt.j0 k a0 a1 false true) else (spec_ExtInt.j0 k a0 a1 false ((bt a0 0) == 43))) else (none))
theorem spec_ExtInt.mono_l : ∀ k, (∀ y0 y1 y2 y3, LeO (spec_ExtInt.j0 k y0 y1 y2 y3) (spec_ExtInt.j0 (k + 1) y0 y1 y2 y3)) ∧ (∀ y0 y1 y2, LeO (spec_ExtInt.j1 k y0 y1 y2) (spec_ExtInt.j1 (k + 1) y0 y1 y2)) ∧ (∀ y0 y1 y2 y3, LeO (spec_ExtInt.j2 k y0 y1 y2 y3) (spec_ExtInt.j2 (k + 1) y0 y1 y2 y3)) ∧ (∀ y0 y1 y2 y3 y4, LeO (spec_ExtInt.l0 k y0 y1 y2 y3 y4) (spec_ExtInt.l0 (k + 1) y0 y1 y2 y3 y4))
  | 0 => ⟨fun _ _ _ _ r h => by simp [spec_ExtInt.j0] at h, fun _ _ _ r h => by simp [spec_ExtInt.j1] at h, fun _ _ _ _ r h => by simp [spec_ExtInt.j2] at h, fun _ _ _ _ _ r h => by simp [spec_ExtInt.l0] at h⟩
  | k + 1 => by
    obtain ⟨ih0, ih1, ih2, ih3⟩ := spec_ExtInt.mono_l k
    refine ⟨?_, ?_, ?_, ?_⟩
    · intro y0 y1 y2 y3
      unfold spec_ExtInt.j0
      repeat' first
      | (with_reducible exact ih0 _ _ _ _)
      | (with_reducible exact ih1 _ _ _)
      | (with_reducible exact ih2 _ _ _ _)
      | (with_reducible exact ih3 _ _ _ _ _)
      | (with_reducible exact spec_decAll.mono _ _)
      | (with_reducible exact LeO.refl _)
      | (with_reducible exact LeO.none _)
      | (with_reducible refine LeO.ite ?_ ?_)
      | (with_reducible refine LeO.bind ?_ (fun _ => ?_))
      | exact ih0 _ _ _ _
      | exact ih1 _ _ _
      | exact ih2 _ _ _ _
      | exact ih3 _ _ _ _ _
      | exact spec_decAll.mono _ _
      | exact LeO.none _
      | refine LeO.ite ?_ ?_
      | refine LeO.bind ?_ (fun _ => ?_)
    · intro y0 y1 y2
      unfold spec_ExtInt.j1
      repeat' first
      | (with_reducible exact ih0 _ _ _ _)
      | (with_reducible exact ih1 _ _ _)
      | (with_reducible exact ih2 _ _ _ _)
      | (with_reducible exact ih3 _ _ _ _ _)
      | (with_reducible exact spec_decAll.mono _ _)
      | (with_reducible exact LeO.refl _)
      | (with_reducible exact LeO.none _)
      | (with_reducible refine LeO.ite ?_ ?_)
      | (with_reducible refine LeO.bind ?_ (fun _ => ?_))
      | exact ih0 _ _ _ _
      | exact ih1 _ _ _
      | exact ih2 _ _ _ _
      | exact ih3 _ _ _ _ _
      | exact spec_decAll.mono _ _
      | exact LeO.none _
      | refine LeO.ite ?_ ?_
      | refine LeO.bind ?_ (fun _ => ?_)
    · intro y0 y1 y2 y3
      unfold spec_ExtInt.j2
      repeat' first
      | (with_reducible exact ih0 _ _ _ _)
      | (with_reducible exact ih1 _ _ _)
      | (with_reducible exact ih2 _ _ _ _)
      | (with_reducible exact ih3 _ _ _ _ _)
      | (with_reducible exact spec_decAll.mono _ _)
      | (with_reducible exact LeO.refl _)
      | (with_reducible exact LeO.none _)
      | (with_reducible refine LeO.ite ?_ ?_)
      | (with_reducible refine LeO.bind ?_ (fun _ => ?_))
      | exact ih0 _ _ _ _
      | exact ih1 _ _ _
      | exact ih2 _ _ _ _
      | exact ih3 _ _ _ _ _
      | exact spec_decAll.mono _ _
      | exact LeO.none _
      | refine LeO.ite ?_ ?_
      | refine LeO.bind ?_ (fun _ => ?_)
    · intro y0 y1 y2 y3 y4
      unfold spec_ExtInt.l0
      repeat' first
      | (with_reducible exact ih0 _ _ _ _)
      | (with_reducible exact ih1 _ _ _)
      | (with_reducible exact ih2 _ _ _ _)
      | (with_reducible exact ih3 _ _ _ _ _)
      | (with_reducible exact spec_decAll.mono _ _)
      | (with_reducible exact LeO.refl _)
      | (with_reducible exact LeO.none _)
      | (with_reducible refine LeO.ite ?_ ?_)
      | (with_reducible refine LeO.bind ?_ (fun _ => ?_))
      | exact ih0 _ _ _ _
      | exact ih1 _ _ _
      | exact ih2 _ _ _ _
      | exact ih3 _ _ _ _ _
      | exact spec_decAll.mono _ _
      | exact LeO.none _
      | refine LeO.ite ?_ ?_
      | refine LeO.bind ?_ (fun _ => ?_)
theorem spec_ExtInt.mono : ∀ a0 a1 k, LeO (spec_ExtInt.f k a0 a1) (spec_ExtInt.f (k + 1) a0 a1) := by
  intro a0 a1 k
  obtain ⟨ih0, ih1, ih2, ih3⟩ := spec_ExtInt.mono_l k
  unfold spec_ExtInt.f
  repeat' first
      | (with_reducible exact ih0 _ _ _ _)
      | (with_reducible exact ih1 _ _ _)
      | (with_reducible exact ih2 _ _ _ _)
      | (with_reducible exact ih3 _ _ _ _ _)
      | (with_reducible exact spec_decAll.mono _ _)
      | (with_reducible exact LeO.refl _)
      | (with_reducible exact LeO.none _)
      | (with_reducible refine LeO.ite ?_ ?_)
      | (with_reducible refine LeO.bind ?_ (fun _ => ?_))
      | exact ih0 _ _ _ _
      | exact ih1 _ _ _
      | exact ih2 _ _ _ _
      | exact ih3 _ _ _ _ _
      | exact spec_decAll.mono _ _
      | exact LeO.none _
      | refine LeO.ite ?_ ?_
      | refine LeO.bind ?_ (fun _ => ?_)
set_option maxHeartbeats 8000000 in
set_option maxRecDepth 100000 in
theorem spec_ExtInt.calls (k : Nat) (a0 : ByteArray) (a1 : Int) (r1 : Int) (r2 : Bool) (w : World) (h : spec_ExtInt.f k a0 a1 = some (r1, r2)) :
    Calls Tryd.prog 4 #[.string a0, .int .i64 a1] w fun e w' => e = .returned (.tuple #[.int .i64 r1, .bool r2]) ∧ Drawn0 w w' := by
  have H : (if a0.toList = ([] : List UInt8) then (spec_ExtInt.j0 k a0 a1 false false) else (if 0 < (a0.size : Int) then (if (bt a0 0) = 45 then (spec_ExtInt.j0 k a0 a1 false true) else (spec_ExtInt.j0 k a0 a1 false ((bt a0 0) == 43))) else (none))) = some (r1, r2) := h
  clear h
  have HC3 := Aside0.mk H
  clear H
  go_enter Tryd.func4, Tryd.ntmps4
  go_upto_region 2 with (fail)
  go_cut [22] (fun v22 wc => ∃ (kq : Nat) (x22_2 : Bool), v22 = .bool x22_2 ∧ Aside0 (spec_ExtInt.j0 kq a0 a1 false x22_2 = some (r1, r2)) ∧ Aside0 (kq ≤ k) ∧ Drawn0 w wc)
  case first =>
    have H := HC3.out
    clear HC3
    by_cases c4 : a0.toList = ([] : List UInt8)
    · rw [if_pos c4] at H
      have c4b0 : (a0.toList == ([] : List UInt8)) = true := beq_iff_eq.mpr c4
      have c4b1 : (a0.toList != ([] : List UInt8)) = false := bne_eq_false_iff_eq.mpr c4
      clear c4
      (first | rw [c4b0] | (simp only [i64_w, i32_w]; rw [c4b0]) | skip)
      as_aux_lemma =>
        have H' := Aside0.mk H
        clear H
        go_wp2
        go_meet
        case rel => exact ⟨_, (false), (by first | rfl | (simp; done) | (simp [*]; done)), H', ⟨by first | omega | exact Nat.le_refl _⟩, by repeat (first | exact Drawn0.refl _ | apply Drawn0.step)⟩
    · rw [if_neg c4] at H
      have c4b0 : (a0.toList == ([] : List UInt8)) = false := beq_eq_false_iff_ne.mpr c4
      have c4b1 : (a0.toList != ([] : List UInt8)) = true := bne_iff_ne.mpr c4
      (first | rw [c4b0] | (simp only [i64_w, i32_w]; rw [c4b0]) | skip)
      by_cases c5 : 0 < (a0.size : Int)
      · rw [if_pos c5] at H
        have c5b0 : decide (0 < (a0.size : Int)) = true := decide_eq_true c5
        have c5b1 : decide (0 < a0.size) = true := decide_eq_true (by omega)
        clear c5
        by_cases c7 : (bt a0 0) = 45
        · rw [if_pos c7] at H
          have c7b0 : ((bt a0 0) == 45) = true := beq_iff_eq.mpr c7
          have c7b1 : ((bt a0 0) != 45) = false := bne_eq_false_iff_eq.mpr c7
          clear c7
          as_aux_lemma =>
            have H' := Aside0.mk H
            clear H
            have p6 : 0 ≤ (0 : Int) := (by omega)
            have q6 : 0 < a0.size := (by have : (0 : Int) < (a0.size : Int) := of_decide_eq_true (by first | (with_reducible assumption) | assumption); omega)
            have hx6 : ∀ h : 0 < a0.size, ((a0[0]'h).toNat : Int) = bt a0 0 := bt_at a0 0
            clear p6
            have qi6 : (0 < (a0.size : Int)) = True := eq_true (of_decide_eq_true (by first | (with_reducible assumption) | assumption))
            replace q6 := eq_true q6
            go_wp2
            go_meet
            case rel => exact ⟨_, (true), (by first | rfl | (simp; done) | (simp [*]; done)), H', ⟨by first | omega | exact Nat.le_refl _⟩, by repeat (first | exact Drawn0.refl _ | apply Drawn0.step)⟩
        · rw [if_neg c7] at H
          have c7b0 : ((bt a0 0) == 45) = false := beq_eq_false_iff_ne.mpr c7
          have c7b1 : ((bt a0 0) != 45) = true := bne_iff_ne.mpr c7
          as_aux_lemma =>
            have H' := Aside0.mk H
            clear H
            have p6 : 0 ≤ (0 : Int) := (by omega)
            have q6 : 0 < a0.size := (by have : (0 : Int) < (a0.size : Int) := of_decide_eq_true (by first | (with_reducible assumption) | assumption); omega)
            have hx6 : ∀ h : 0 < a0.size, ((a0[0]'h).toNat : Int) = bt a0 0 := bt_at a0 0
            clear p6
            have qi6 : (0 < (a0.size : Int)) = True := eq_true (of_decide_eq_true (by first | (with_reducible assumption) | assumption))
            replace q6 := eq_true q6
            have p8 : 0 ≤ (0 : Int) := (by omega)
            have q8 : 0 < a0.size := (by have : (0 : Int) < (a0.size : Int) := of_decide_eq_true (by first | (with_reducible assumption) | assumption); omega)
            have hx8 : ∀ h : 0 < a0.size, ((a0[0]'h).toNat : Int) = bt a0 0 := bt_at a0 0
            clear p8
            have qi8 : (0 < (a0.size : Int)) = True := eq_true (of_decide_eq_true (by first | (with_reducible assumption) | assumption))
            replace q8 := eq_true q8
            go_wp2
            go_meet
            case rel => exact ⟨_, (((bt a0 0) == 43)), (by first | rfl | (simp; done) | (simp [*]; done)), H', ⟨by first | omega | exact Nat.le_refl _⟩, by repeat (first | exact Drawn0.refl _ | apply Drawn0.step)⟩
      · rw [if_neg c5] at H
        exact absurd H (by simp)
  case rest =>
    clear HC3
    try clear p2
    try clear c4
    try clear c4b0
    try clear c4b1
    try clear c5
    try clear c5b0
    try clear c5b1
    try clear p6
    try clear q6
    try clear hx6
    try clear qi6
    try clear c7
    try clear c7b0
    try clear c7b1
    try clear p8
    try clear q8
    try clear hx8
    try clear qi8
    try clear p6
    try clear p8
    try clear q6
    try clear q8
    obtain ⟨kq, x22_2, rfl, HA, HJ2, ⟨mc2, rfl⟩⟩ := hcut
    cases kq with
    | zero => exact absurd HA.out (by simp [spec_ExtInt.j0])
    | succ kj2 =>
      have H := HA.out
      clear HA
      simp only [spec_ExtInt.j0] at H
      have HC9 := Aside0.mk H
      clear H
      go_upto_if 22 with (fail)
      go_cut [0, 6] (fun v0 v6 wc => ∃ (kq : Nat) (x0_8 : ByteArray) (x6_8 : Bool), v0 = .string x0_8 ∧ v6 = .bool x6_8 ∧ Aside0 (spec_ExtInt.j1 kq x0_8 a1 x6_8 = some (r1, r2)) ∧ Aside0 (kq ≤ kj2) ∧ Drawn0 w wc)
      case first =>
        have H := HC9.out
        clear HC9
        by_cases c10 : x22_2 = true
        · subst c10
          have H1 : (if 0 < (a0.size : Int) then (if 1 ≤ (a0.size : Int) then (spec_ExtInt.j1 kj2 (a0.extract 1 a0.size) a1 ((bt a0 0) == 45)) else (none)) else (none)) = some (r1, r2) := by rw [if_pos rfl] at H; exact H
          clear H
          have H := H1
          clear H1
          by_cases c11 : 0 < (a0.size : Int)
          · rw [if_pos c11] at H
            have c11b0 : decide (0 < (a0.size : Int)) = true := decide_eq_true c11
            have c11b1 : decide (0 < a0.size) = true := decide_eq_true (by omega)
            clear c11
            (first | rw [c11b0] | (simp only [i64_w, i32_w]; rw [c11b0]) | skip)
            by_cases c13 : 1 ≤ (a0.size : Int)
            · rw [if_pos c13] at H
              have c13b0 := eq_true c13
              have c13b1 : decide (1 ≤ (a0.size : Int)) = true := decide_eq_true c13
              clear c13
              as_aux_lemma =>
                have H' := Aside0.mk H
                clear H
                have p12 : 0 ≤ (0 : Int) := (by omega)
                have q12 : 0 < a0.size := (by have : (0 : Int) < (a0.size : Int) := of_decide_eq_true (by first | (with_reducible assumption) | assumption); omega)
                have hx12 : ∀ h : 0 < a0.size, ((a0[0]'h).toNat : Int) = bt a0 0 := bt_at a0 0
                clear p12
                have qi12 : (0 < (a0.size : Int)) = True := eq_true (of_decide_eq_true (by first | (with_reducible assumption) | assumption))
                replace q12 := eq_true q12
                go_wp2
                go_meet
                case rel => exact ⟨_, (a0.extract 1 a0.size), (((bt a0 0) == 45)), (by first | rfl | (simp; done) | (simp [*]; done)), (by first | rfl | (simp; done) | (simp [*]; done)), H', ⟨by have := HJ2.out; first | omega | exact Nat.le_refl _⟩, by repeat (first | exact Drawn0.refl _ | apply Drawn0.step)⟩
            · rw [if_neg c13] at H
              exact absurd H (by simp)
          · rw [if_neg c11] at H
            exact absurd H (by simp)
        · replace c10 := Bool.eq_false_iff.mpr c10
          subst c10
          have H1 : (spec_ExtInt.j1 kj2 a0 a1 false) = some (r1, r2) := by rw [if_neg (show ¬ (false = true) by decide)] at H; exact H
          clear H
          have H := H1
          clear H1
          as_aux_lemma =>
            have H' := Aside0.mk H
            clear H
            go_wp2
            go_meet
            case rel => exact ⟨_, (a0), (false), (by first | rfl | (simp; done) | (simp [*]; done)), (by first | rfl | (simp; done) | (simp [*]; done)), H', ⟨by have := HJ2.out; first | omega | exact Nat.le_refl _⟩, by repeat (first | exact Drawn0.refl _ | apply Drawn0.step)⟩
      case rest =>
        clear HC9
        try clear c1
        try clear p1
        try clear q1
        try clear hx1
        try clear qi1
        try clear c2
        try clear p2
        try clear c4
        try clear c4b0
        try clear c4b1
        try clear c5
        try clear c5b0
        try clear c5b1
        try clear p6
        try clear q6
        try clear hx6
        try clear qi6
        try clear c7
        try clear c7b0
        try clear c7b1
        try clear p8
        try clear q8
        try clear hx8
        try clear qi8
        try clear c10
        try clear c11
        try clear c11b0
        try clear c11b1
        try clear p12
        try clear q12
        try clear hx12
        try clear qi12
        try clear c13
        try clear c13b0
        try clear c13b1
        try clear p12
        try clear p2
        try clear p6
        try clear p8
        try clear q12
        try clear q6
        try clear q8
        obtain ⟨kq, x0_8, x6_8, rfl, rfl, HA, HJ8, ⟨mc8, rfl⟩⟩ := hcut
        cases kq with
        | zero => exact absurd HA.out (by simp [spec_ExtInt.j1])
        | succ kj8 =>
          have H := HA.out
          clear HA
          simp only [spec_ExtInt.j1] at H
          have HC14 := Aside0.mk H
          clear H
          go_upto_region 5 with (fail)
          go_cut [34] (fun v34 wc => ∃ (kq : Nat) (x34_13 : Bool), v34 = .bool x34_13 ∧ Aside0 (spec_ExtInt.j2 kq x0_8 a1 x6_8 x34_13 = some (r1, r2)) ∧ Aside0 (kq ≤ kj8) ∧ Drawn0 w wc)
          case first =>
            have H := HC14.out
            clear HC14
            by_cases c15 : x0_8.toList = ([] : List UInt8)
            · rw [if_pos c15] at H
              have c15b0 : (x0_8.toList == ([] : List UInt8)) = true := beq_iff_eq.mpr c15
              have c15b1 : (x0_8.toList != ([] : List UInt8)) = false := bne_eq_false_iff_eq.mpr c15
              clear c15
              (first | rw [c15b0] | (simp only [i64_w, i32_w]; rw [c15b0]) | skip)
              as_aux_lemma =>
                have H' := Aside0.mk H
                clear H
                go_wp2
                go_meet
                case rel => exact ⟨_, (true), (by first | rfl | (simp; done) | (simp [*]; done)), H', ⟨by have := HJ2.out; have := HJ8.out; first | omega | exact Nat.le_refl _⟩, by repeat (first | exact Drawn0.refl _ | apply Drawn0.step)⟩
            · rw [if_neg c15] at H
              have c15b0 : (x0_8.toList == ([] : List UInt8)) = false := beq_eq_false_iff_ne.mpr c15
              have c15b1 : (x0_8.toList != ([] : List UInt8)) = true := bne_iff_ne.mpr c15
              (first | rw [c15b0] | (simp only [i64_w, i32_w]; rw [c15b0]) | skip)
              replace H := Option.bind_eq_some_iff.mp H
              obtain ⟨t101, A160, H⟩ := H
              replace H : (spec_ExtInt.j2 kj8 x0_8 a1 x6_8 (!t101)) = some (r1, r2) := H
              have A16 := Aside0.mk A160
              clear A160
              as_aux_lemma =>
                have H' := Aside0.mk H
                clear H
                go_wp2_with (first | (go_at_call 7; (with_reducible refine (spec_decAll.calls kj8 x0_8 t101 _ A16.out).mono ?_); rintro e w' ⟨rfl, ⟨nd, rfl⟩⟩))
                go_meet
                case rel => exact ⟨_, (!t101), (by first | rfl | (simp; done) | (simp [*]; done)), H', ⟨by have := HJ2.out; have := HJ8.out; first | omega | exact Nat.le_refl _⟩, by repeat (first | exact Drawn0.refl _ | apply Drawn0.step)⟩
          case rest =>
            clear HC14
            try clear c1
            try clear p1
            try clear q1
            try clear hx1
            try clear qi1
            try clear c2
            try clear p2
            try clear c4
            try clear c4b0
            try clear c4b1
            try clear c5
            try clear c5b0
            try clear c5b1
            try clear p6
            try clear q6
            try clear hx6
            try clear qi6
            try clear c7
            try clear c7b0
            try clear c7b1
            try clear c8
            try clear p8
            try clear q8
            try clear hx8
            try clear qi8
            try clear c10
            try clear c11
            try clear c11b0
            try clear c11b1
            try clear p12
            try clear q12
            try clear hx12
            try clear qi12
            try clear c13
            try clear c13b0
            try clear c13b1
            try clear c15
            try clear c15b0
            try clear c15b1
            try clear p1
            try clear p12
            try clear p2
            try clear p6
            try clear p8
            try clear q1
            try clear q12
            try clear q6
            try clear q8
            obtain ⟨kq, x34_13, rfl, HA, HJ13, ⟨mc13, rfl⟩⟩ := hcut
            cases kq with
            | zero => exact absurd HA.out (by simp [spec_ExtInt.j2])
            | succ kj13 =>
              have H := HA.out
              clear HA
              simp only [spec_ExtInt.j2] at H
              by_cases c17 : x34_13 = true
              · subst c17
                have H1 : (some (0, false)) = some (r1, r2) := by rw [if_pos rfl] at H; exact H
                clear H
                have H := H1
                clear H1
                as_aux_lemma =>
                  simp only [Option.some.injEq, Prod.mk.injEq] at H
                  obtain ⟨rfl, rfl⟩ := H
                  go_wp2
                  go_ret2
                  exact ⟨by first | rfl | (simp; done) | (simp [*]; done), by repeat (first | exact Drawn0.refl _ | apply Drawn0.step)⟩
              · replace c17 := Bool.eq_false_iff.mpr c17
                subst c17
                have H1 : (if 0 ≤ (wrap64 (a1 - 1)) then (spec_ExtInt.l0 kj13 x0_8 x6_8 (shl .u64 1 (wrap64 (a1 - 1))) 0 0) else (none)) = some (r1, r2) := by rw [if_neg (show ¬ (false = true) by decide)] at H; exact H
                clear H
                have H := H1
                clear H1
                obtain ⟨ji18, hji18⟩ : ∃ j_ : Int, (wrap64 (a1 - 1)) = j_ := ⟨_, rfl⟩
                replace H : (if 0 ≤ (ji18) then (spec_ExtInt.l0 kj13 x0_8 x6_8 (shl .u64 1 (ji18)) 0 0) else (none)) = some (r1, r2) := by first | (rw [hji18] at H; exact H) | (simp only [hji18] at H ⊢; exact H)
                have hji18w : (IntKind.i64.wrap (a1 - 1)) = ji18 := (i64_w _).trans hji18
                by_cases c19 : 0 ≤ (ji18)
                · rw [if_pos c19] at H
                  have c19b0 := eq_true c19
                  have c19b1 : decide (0 ≤ (ji18)) = true := decide_eq_true c19
                  clear c19
                  obtain ⟨ji20, hji20⟩ : ∃ j_ : Int, (shl .u64 1 (ji18)) = j_ := ⟨_, rfl⟩
                  replace H : (spec_ExtInt.l0 kj13 x0_8 x6_8 ji20 0 0) = some (r1, r2) := by first | (rw [hji20] at H; exact H) | (simp only [hji20] at H ⊢; exact H)
                  have hji20_ : (IntKind.u64.wrap (1 * 2 ^ min (ji18).toNat 64)) = ji20 := hji20
                  have hji20z : (ji18) ≤ 64 → (IntKind.u64.wrap (1 * 2 ^ (ji18).toNat)) = ji20 := shl_small hji20
                  have hji20u : (IntKind.u64.wrap (2 ^ min (ji18).toNat 64)) = ji20 := by have h_ := hji20_; rw [Int.one_mul] at h_; exact h_
                  have hji20v : (ji18) ≤ 64 → (IntKind.u64.wrap (2 ^ (ji18).toNat)) = ji20 := fun hle_ => by have h_ := hji20z hle_; rw [Int.one_mul] at h_; exact h_
                  have H' := Aside0.mk H
                  clear H
                  go_wp2
                  go_loopg [8, 9] kj13 (fun kq v8 v9 w' => ∃ (x8_4 : Int) (x9_4 : Int), v8 = .int .u64 x8_4 ∧ v9 = .int .i64 x9_4 ∧ Aside0 (spec_ExtInt.l0 kq x0_8 x6_8 ji20 x8_4 x9_4 = some (r1, r2)) ∧ Aside0 (kq ≤ kj13) ∧ Drawn0 w w')
                  case atStart => exact ⟨(0), (0), (by first | rfl | (simp; done) | (simp [*]; done)), (by first | rfl | (simp; done) | (simp [*]; done)), H', ⟨Nat.le_refl _⟩, by repeat (first | exact Drawn0.refl _ | apply Drawn0.step)⟩
                  case round =>
                    clear H'
                    try clear c1
                    try clear p1
                    try clear q1
                    try clear hx1
                    try clear qi1
                    try clear c2
                    try clear p2
                    try clear c4
                    try clear c4b0
                    try clear c4b1
                    try clear c5
                    try clear c5b0
                    try clear c5b1
                    try clear p6
                    try clear q6
                    try clear hx6
                    try clear qi6
                    try clear c7
                    try clear c7b0
                    try clear c7b1
                    try clear c8
                    try clear p8
                    try clear q8
                    try clear hx8
                    try clear qi8
                    try clear c10
                    try clear c11
                    try clear c11b0
                    try clear c11b1
                    try clear p12
                    try clear q12
                    try clear hx12
                    try clear qi12
                    try clear c13
                    try clear c13b0
                    try clear c13b1
                    try clear c15
                    try clear c15b0
                    try clear c15b1
                    try clear c17
                    try clear c19
                    try clear c19b0
                    try clear c19b1
                    try clear p1
                    try clear p12
                    try clear p2
                    try clear p6
                    try clear p8
                    try clear q1
                    try clear q12
                    try clear q6
                    try clear q8
                    obtain ⟨x8_4, x9_4, rfl, rfl, HA, HK4, ⟨m4, rfl⟩⟩ := hrel
                    cases gk with
                    | zero => exact absurd HA.out (by simp [spec_ExtInt.l0])
                    | succ k4 =>
                      have H := HA.out
                      clear HA
                      simp only [spec_ExtInt.l0] at H
                      by_cases c21 : x9_4 < (x0_8.size : Int)
                      · rw [if_pos c21] at H
                        have c21b0 : decide (x9_4 < (x0_8.size : Int)) = true := decide_eq_true c21
                        clear c21
                        by_cases c22 : 0 ≤ x9_4
                        · rw [if_pos c22] at H
                          have c22b0 : decide (0 ≤ x9_4) = true := decide_eq_true c22
                          clear c22
                          by_cases c24 : x8_4 > (IntKind.u64.wrap (Int.tdiv (IntKind.u64.wrap (ji20 - (((bt x0_8 x9_4) - 48) % 256))) 10))
                          · rw [if_pos c24] at H
                            have c24b0 : decide ((IntKind.u64.wrap (Int.tdiv (IntKind.u64.wrap (ji20 - (((bt x0_8 x9_4) - 48) % 256))) 10)) < x8_4) = true := decide_eq_true c24
                            clear c24
                            as_aux_lemma =>
                              simp only [Option.some.injEq, Prod.mk.injEq] at H
                              obtain ⟨rfl, rfl⟩ := H
                              have p23 : 0 ≤ (x9_4 : Int) := of_decide_eq_true (by first | (with_reducible assumption) | assumption)
                              have q23 : x9_4 < (x0_8.size : Int) := of_decide_eq_true (by first | (with_reducible assumption) | assumption)
                              have hx23 := bt_at x0_8 x9_4
                              replace p23 := eq_true p23
                              replace q23 := eq_true q23
                              go_wp2
                              go_ret2
                              exact ⟨by first | rfl | (simp; done) | (simp only [← hji18, ← hji20] <;> (first | rfl | simp)) | (simp [*]; done), by repeat (first | exact Drawn0.refl _ | apply Drawn0.step)⟩
                          · rw [if_neg c24] at H
                            have c24b0 : decide ((IntKind.u64.wrap (Int.tdiv (IntKind.u64.wrap (ji20 - (((bt x0_8 x9_4) - 48) % 256))) 10)) < x8_4) = false := decide_eq_false c24
                            clear c24
                            as_aux_lemma =>
                              have H' := Aside0.mk H
                              clear H
                              have p23 : 0 ≤ (x9_4 : Int) := of_decide_eq_true (by first | (with_reducible assumption) | assumption)
                              have q23 : x9_4 < (x0_8.size : Int) := of_decide_eq_true (by first | (with_reducible assumption) | assumption)
                              have hx23 := bt_at x0_8 x9_4
                              replace p23 := eq_true p23
                              replace q23 := eq_true q23
                              go_wp2
                              go_roundg k4
                              case measure => have := HJ2.out; have := HJ8.out; have := HJ13.out; have := HK4.out; omega
                              case rel => exact ⟨(IntKind.u64.wrap ((IntKind.u64.wrap (x8_4 * 10)) + (((bt x0_8 x9_4) - 48) % 256))), (wrap64 (x9_4 + 1)), (by first | rfl | (simp; done) | (simp [*]; done)), (by first | rfl | (simp; done) | (simp [*]; done)), H', ⟨by have := HJ2.out; have := HJ8.out; have := HJ13.out; have := HK4.out; omega⟩, by repeat (first | exact Drawn0.refl _ | apply Drawn0.step)⟩
                        · rw [if_neg c22] at H
                          exact absurd H (by simp)
                      · rw [if_neg c21] at H
                        have c21b0 : decide (x9_4 < (x0_8.size : Int)) = false := decide_eq_false c21
                        clear c21
                        by_cases c25 : x6_8 = true
                        · subst c25
                          have H1 : (some (wrap64 ((wrap64 (-(wrap64 (IntKind.u64.wrap (x8_4 - 1))))) - 1), true)) = some (r1, r2) := by rw [if_pos rfl] at H; exact H
                          clear H
                          have H := H1
                          clear H1
                          as_aux_lemma =>
                            simp only [Option.some.injEq, Prod.mk.injEq] at H
                            obtain ⟨rfl, rfl⟩ := H
                            go_wp2
                            go_ret2
                            exact ⟨by first | rfl | (simp; done) | (simp only [← hji18, ← hji20] <;> (first | rfl | simp)) | (simp [*]; done), by repeat (first | exact Drawn0.refl _ | apply Drawn0.step)⟩
                        · replace c25 := Bool.eq_false_iff.mpr c25
                          subst c25
                          have H1 : (some (wrap64 (x8_4), decide (x8_4 < ji20))) = some (r1, r2) := by rw [if_neg (show ¬ (false = true) by decide)] at H; exact H
                          clear H
                          have H := H1
                          clear H1
                          as_aux_lemma =>
                            simp only [Option.some.injEq, Prod.mk.injEq] at H
                            obtain ⟨rfl, rfl⟩ := H
                            go_wp2
                            go_ret2
                            exact ⟨by first | rfl | (simp; done) | (simp only [← hji18, ← hji20] <;> (first | rfl | simp)) | (simp [*]; done), by repeat (first | exact Drawn0.refl _ | apply Drawn0.step)⟩
                · rw [if_neg c19] at H
                  exact absurd H (by simp)

-- NOT PRINTED: function 12 (errors_New)

end Go.Proofs.YtdcoingcpkhmiaaDoor.PEi
