/- Printed by a program of this session (a turned copy of the printer of the kit): contracts of functions of the translation, each with the Lean function that it computes. Conditions: as each theorem states them. -/
import Derived.Test.YthlpmeiihchdjaaPRx0
namespace Go.Proofs.Ythlpmeiihchdjaa.PR
open Go.RowKit Go.Proofs.YthlpmeiihchdjaaW.PrintWords Go.Proofs.YthlpmeiihchdjaaW.PrintLast Go.Proofs.YthlpmeiihchdjaaW.PrintMore
attribute [local go_sem] max2_int min2_int max_two min_two max_three min_three max_four min_four   -- for this text's walks alone
set_option linter.unusedVariables false
set_option linter.unusedSimpArgs false

/-! ### spec_extPair: function 41 -/
mutual
def spec_extPair.j0 : Nat → List ByteArray → List ByteArray → ByteArray → ByteArray → Bool → Option (ByteArray × ByteArray × Bool)
  | 0, _, _, _, _, _ => none
  | k + 1, x0, x1, x2, x3, x18 => if x18 = true then (some ((⟨#[]⟩ : ByteArray), (⟨#[]⟩ : ByteArray), false)) else (if 0 < (x0.length : Int) then (if (rdOf ByteArray.empty x0 0).toList = x2.toList then (if 1 < (x0.length : Int) then (spec_extPair.j1 k x0 x1 x2 x3 ((rdOf ByteArray.empty x0 1).toList == x3.toList)) else (none)) else (spec_extPair.j1 k x0 x1 x2 x3 false)) else (none))
def spec_extPair.j1 : Nat → List ByteArray → List ByteArray → ByteArray → ByteArray → Bool → Option (ByteArray × ByteArray × Bool)
  | 0, _, _, _, _, _ => none
  | k + 1, x0, x1, x2, x3, x19 => if x19 = true then (if 0 < (x1.length : Int) then (if 1 < (x1.length : Int) then (some (rdOf ByteArray.empty x1 0, rdOf ByteArray.empty x1 1, true)) else (none)) else (none)) else (if 0 < (x0.length : Int) then (if (rdOf ByteArray.empty x0 0).toList = x3.toList then (if 1 < (x0.length : Int) then (spec_extPair.j2 k x1 ((rdOf ByteArray.empty x0 1).toList == x2.toList)) else (none)) else (spec_extPair.j2 k x1 false)) else (none))
def spec_extPair.j2 : Nat → List ByteArray → Bool → Option (ByteArray × ByteArray × Bool)
  | 0, _, _ => none
  | k + 1, x1, x38 => if x38 = true then (if 1 < (x1.length : Int) then (if 0 < (x1.length : Int) then (some (rdOf ByteArray.empty x1 1, rdOf ByteArray.empty x1 0, true)) else (none)) else (none)) else (some ((⟨#[]⟩ : ByteArray), (⟨#[]⟩ : ByteArray), false))
end
def spec_extPair.f (k : Nat) (l0 : List ByteArray) (l1 : List ByteArray) (a2 : ByteArray) (a3 : ByteArray) : Option (ByteArray × ByteArray × Bool) := if (l0.length : Int) = 2 then (spec_extPair.j0 k l0 l1 a2 a3 ((l1.length : Int) != 2)) else (spec_extPair.j0 k l0 l1 a2 a3 true)
theorem spec_extPair.mono_l : ∀ k, (∀ y0 y1 y2 y3 y4, LeO (spec_extPair.j0 k y0 y1 y2 y3 y4) (spec_extPair.j0 (k + 1) y0 y1 y2 y3 y4)) ∧ (∀ y0 y1 y2 y3 y4, LeO (spec_extPair.j1 k y0 y1 y2 y3 y4) (spec_extPair.j1 (k + 1) y0 y1 y2 y3 y4)) ∧ (∀ y0 y1, LeO (spec_extPair.j2 k y0 y1) (spec_extPair.j2 (k + 1) y0 y1))
  | 0 => ⟨fun _ _ _ _ _ r h => by simp [spec_extPair.j0] at h, fun _ _ _ _ _ r h => by simp [spec_extPair.j1] at h, fun _ _ r h => by simp [spec_extPair.j2] at h⟩
  | k + 1 => by
    obtain ⟨ih0, ih1, ih2⟩ := spec_extPair.mono_l k
    refine ⟨?_, ?_, ?_⟩
    · intro y0 y1 y2 y3 y4
      unfold spec_extPair.j0
      repeat' first
      | (with_reducible exact ih0 _ _ _ _ _)
      | (with_reducible exact ih1 _ _ _ _ _)
      | (with_reducible exact ih2 _ _)
      | (with_reducible exact LeO.refl _)
      | (with_reducible exact LeO.none _)
      | (with_reducible refine LeO.ite ?_ ?_)
      | (with_reducible refine LeO.bind ?_ (fun _ => ?_))
      | exact ih0 _ _ _ _ _
      | exact ih1 _ _ _ _ _
      | exact ih2 _ _
      | exact LeO.none _
      | refine LeO.ite ?_ ?_
      | refine LeO.bind ?_ (fun _ => ?_)
    · intro y0 y1 y2 y3 y4
      unfold spec_extPair.j1
      repeat' first
      | (with_reducible exact ih0 _ _ _ _ _)
      | (with_reducible exact ih1 _ _ _ _ _)
      | (with_reducible exact ih2 _ _)
      | (with_reducible exact LeO.refl _)
      | (with_reducible exact LeO.none _)
      | (with_reducible refine LeO.ite ?_ ?_)
      | (with_reducible refine LeO.bind ?_ (fun _ => ?_))
      | exact ih0 _ _ _ _ _
      | exact ih1 _ _ _ _ _
      | exact ih2 _ _
      | exact LeO.none _
      | refine LeO.ite ?_ ?_
      | refine LeO.bind ?_ (fun _ => ?_)
    · intro y0 y1
      unfold spec_extPair.j2
      repeat' first
      | (with_reducible exact ih0 _ _ _ _ _)
      | (with_reducible exact ih1 _ _ _ _ _)
      | (with_reducible exact ih2 _ _)
      | (with_reducible exact LeO.refl _)
      | (with_reducible exact LeO.none _)
      | (with_reducible refine LeO.ite ?_ ?_)
      | (with_reducible refine LeO.bind ?_ (fun _ => ?_))
      | exact ih0 _ _ _ _ _
      | exact ih1 _ _ _ _ _
      | exact ih2 _ _
      | exact LeO.none _
      | refine LeO.ite ?_ ?_
      | refine LeO.bind ?_ (fun _ => ?_)
theorem spec_extPair.mono : ∀ a0 a1 a2 a3 k, LeO (spec_extPair.f k a0 a1 a2 a3) (spec_extPair.f (k + 1) a0 a1 a2 a3) := by
  intro a0 a1 a2 a3 k
  obtain ⟨ih0, ih1, ih2⟩ := spec_extPair.mono_l k
  unfold spec_extPair.f
  repeat' first
      | (with_reducible exact ih0 _ _ _ _ _)
      | (with_reducible exact ih1 _ _ _ _ _)
      | (with_reducible exact ih2 _ _)
      | (with_reducible exact LeO.refl _)
      | (with_reducible exact LeO.none _)
      | (with_reducible refine LeO.ite ?_ ?_)
      | (with_reducible refine LeO.bind ?_ (fun _ => ?_))
      | exact ih0 _ _ _ _ _
      | exact ih1 _ _ _ _ _
      | exact ih2 _ _
      | exact LeO.none _
      | refine LeO.ite ?_ ?_
      | refine LeO.bind ?_ (fun _ => ?_)
set_option maxHeartbeats 8000000 in
set_option maxRecDepth 100000 in
theorem spec_extPair.calls (k : Nat) (A0 : Option Addr) (c0 : Nat) (l0 : List ByteArray) (A1 : Option Addr) (c1 : Nat) (l1 : List ByteArray) (a2 : ByteArray) (a3 : ByteArray) (r1 : ByteArray) (r2 : ByteArray) (r3 : Bool) (w : World) (hr0 : Kd.C Kd.string w A0 l0.length l0) (hc0 : l0.length ≤ c0) (hr1 : Kd.C Kd.string w A1 l1.length l1) (hc1 : l1.length ≤ c1) (h : spec_extPair.f k l0 l1 a2 a3 = some (r1, r2, r3)) :
    Calls Try.prog 41 #[.slice A0 l0.length c0, .slice A1 l1.length c1, .string a2, .string a3] w fun e w' => e = .returned (.tuple #[.string r1, .string r2, .bool r3]) ∧ Drawn0 w w' := by
  have HR0 := Aside0.mk hr0
  have HC0 := Aside0.mk hc0
  clear hr0 hc0
  have HR1 := Aside0.mk hr1
  have HC1 := Aside0.mk hc1
  clear hr1 hc1
  have H : (if (l0.length : Int) = 2 then (spec_extPair.j0 k l0 l1 a2 a3 ((l1.length : Int) != 2)) else (spec_extPair.j0 k l0 l1 a2 a3 true)) = some (r1, r2, r3) := h
  clear h
  have HC5 := Aside0.mk H
  clear H
  go_enter Try.func41, Try.ntmps41
  go_upto_region 1 with (fail)
  repeat (go_quiet (fail); go_upto_region 1 with (fail))
  go_cut [18] (fun v18 wc => ∃ (kq : Nat) (x18_4 : Bool), v18 = .bool x18_4 ∧ Aside0 (spec_extPair.j0 kq l0 l1 a2 a3 x18_4 = some (r1, r2, r3)) ∧ Aside0 (kq ≤ k) ∧ Drawn0 w wc)
  case first =>
    have H := HC5.out
    clear HC5
    by_cases c6 : (l0.length : Int) = 2
    · rw [if_pos c6] at H
      have c6b0 : ((l0.length : Int) == 2) = true := beq_iff_eq.mpr c6
      have c6b1 : ((l0.length : Int) != 2) = false := bne_eq_false_iff_eq.mpr c6
      clear c6
      (first | rw [c6b0] | (simp only [i64_w, i32_w]; rw [c6b0]) | skip)
      as_aux_lemma =>
        have H' := Aside0.mk H
        clear H
        go_wp2
        repeat (go_quiet (fail); try go_wp2)
        go_meet
        case rel => exact ⟨_, (((l1.length : Int) != 2)), (by first | rfl | (simp; done) | (simp [*]; done)), H', ⟨by first | omega | exact Nat.le_refl _⟩, by repeat (first | exact Drawn0.refl _ | apply Drawn0.step)⟩
    · rw [if_neg c6] at H
      have c6b0 : ((l0.length : Int) == 2) = false := beq_eq_false_iff_ne.mpr c6
      have c6b1 : ((l0.length : Int) != 2) = true := bne_iff_ne.mpr c6
      (first | rw [c6b0] | (simp only [i64_w, i32_w]; rw [c6b0]) | skip)
      as_aux_lemma =>
        have H' := Aside0.mk H
        clear H
        go_wp2
        repeat (go_quiet (fail); try go_wp2)
        go_meet
        case rel => exact ⟨_, (true), (by first | rfl | (simp; done) | (simp [*]; done)), H', ⟨by first | omega | exact Nat.le_refl _⟩, by repeat (first | exact Drawn0.refl _ | apply Drawn0.step)⟩
  case rest =>
    clear HC5
    try clear c1
    try clear p2
    try clear c4
    try clear c6
    try clear c6b0
    try clear c6b1
    obtain ⟨kq, x18_4, rfl, HA, HJ4, ⟨mc4, rfl⟩⟩ := hcut
    cases kq with
    | zero => exact absurd HA.out (by simp [spec_extPair.j0])
    | succ kj4 =>
      have H := HA.out
      clear HA
      simp only [spec_extPair.j0] at H
      by_cases c7 : x18_4 = true
      · subst c7
        have H1 : (some ((⟨#[]⟩ : ByteArray), (⟨#[]⟩ : ByteArray), false)) = some (r1, r2, r3) := by rw [if_pos rfl] at H; exact H
        clear H
        have H := H1
        clear H1
        as_aux_lemma =>
          simp only [Option.some.injEq, Prod.mk.injEq] at H
          obtain ⟨rfl, rfl, rfl⟩ := H
          go_wp2
          repeat (go_quiet (fail); try go_wp2)
          go_ret3
          exact ⟨by first | rfl | (simp; done) | (simp [*]; done), by repeat (first | exact Drawn0.refl _ | apply Drawn0.step)⟩
      · replace c7 := Bool.eq_false_iff.mpr c7
        subst c7
        have H1 : (if 0 < (l0.length : Int) then (if (rdOf ByteArray.empty l0 0).toList = a2.toList then (if 1 < (l0.length : Int) then (spec_extPair.j1 kj4 l0 l1 a2 a3 ((rdOf ByteArray.empty l0 1).toList == a3.toList)) else (none)) else (spec_extPair.j1 kj4 l0 l1 a2 a3 false)) else (none)) = some (r1, r2, r3) := by rw [if_neg (show ¬ (false = true) by decide)] at H; exact H
        clear H
        have H := H1
        clear H1
        have HC8 := Aside0.mk H
        clear H
        go_upto_region 3 with (fail)
        repeat (go_quiet (fail); go_upto_region 3 with (fail))
        go_cut [19] (fun v19 wc => ∃ (kq : Nat) (x19_7 : Bool), v19 = .bool x19_7 ∧ Aside0 (spec_extPair.j1 kq l0 l1 a2 a3 x19_7 = some (r1, r2, r3)) ∧ Aside0 (kq ≤ kj4) ∧ Drawn0 w wc)
        case first =>
          have H := HC8.out
          clear HC8
          by_cases c9 : 0 < (l0.length : Int)
          · rw [if_pos c9] at H
            have c9b0 : decide (0 < (l0.length : Int)) = true := decide_eq_true c9
            have c9b1 : decide (0 < l0.length) = true := decide_eq_true (by omega)
            clear c9
            (first | rw [c9b0] | (simp only [i64_w, i32_w]; rw [c9b0]) | skip)
            by_cases c10 : (rdOf ByteArray.empty l0 0).toList = a2.toList
            · rw [if_pos c10] at H
              have c10b0 : ((rdOf ByteArray.empty l0 0).toList == a2.toList) = true := beq_iff_eq.mpr c10
              have c10b1 : ((rdOf ByteArray.empty l0 0).toList != a2.toList) = false := bne_eq_false_iff_eq.mpr c10
              clear c10
              by_cases c11 : 1 < (l0.length : Int)
              · rw [if_pos c11] at H
                have c11b0 : decide (1 < (l0.length : Int)) = true := decide_eq_true c11
                have c11b1 : decide (1 < l0.length) = true := decide_eq_true (by omega)
                clear c11
                as_aux_lemma =>
                  have H' := Aside0.mk H
                  clear H
                  have p104 : 0 ≤ (0 : Int) := (by omega)
                  have q104 : 0 < (l0.length : Int) := of_decide_eq_true (by first | (with_reducible assumption) | assumption)
                  obtain ⟨ad104, e104, hx104_0⟩ := Kd.at_string HR0.out 0 p104 q104
                  cases e104
                  have qi104 : (0 < l0.length) = True := eq_true (by omega)
                  (try rw [show ((0 : Int)).toNat = 0 from rfl] at hx104_0)
                  (try rw [Addr.add_zero'] at hx104_0)
                  replace p104 := eq_true p104
                  replace q104 := eq_true q104
                  have p105 : 0 ≤ (1 : Int) := (by omega)
                  have q105 : 1 < (l0.length : Int) := of_decide_eq_true (by first | (with_reducible assumption) | assumption)
                  obtain ⟨ad105, e105, hx105_0⟩ := Kd.at_string HR0.out 1 p105 q105
                  obtain rfl : ad104 = ad105 := (by injection e105)
                  (try simp only [show (1 : Int).toNat = 1 from rfl, Nat.reduceMul, Nat.reduceEqDiff, Go.Addr.add, ↓reduceIte] at hx105_0)
                  have qi105 : (1 < l0.length) = True := eq_true (by omega)
                  (try rw [show ((1 : Int)).toNat = 1 from rfl] at hx105_0)
                  replace p105 := eq_true p105
                  replace q105 := eq_true q105
                  go_wp2
                  repeat (go_quiet (fail); try go_wp2)
                  go_meet
                  case rel => exact ⟨_, (((rdOf ByteArray.empty l0 1).toList == a3.toList)), (by first | rfl | (simp; done) | (simp [*]; done)), H', ⟨by have := HJ4.out; first | omega | exact Nat.le_refl _⟩, by repeat (first | exact Drawn0.refl _ | apply Drawn0.step)⟩
              · rw [if_neg c11] at H
                exact absurd H (by simp)
            · rw [if_neg c10] at H
              have c10b0 : ((rdOf ByteArray.empty l0 0).toList == a2.toList) = false := beq_eq_false_iff_ne.mpr c10
              have c10b1 : ((rdOf ByteArray.empty l0 0).toList != a2.toList) = true := bne_iff_ne.mpr c10
              as_aux_lemma =>
                have H' := Aside0.mk H
                clear H
                have p104 : 0 ≤ (0 : Int) := (by omega)
                have q104 : 0 < (l0.length : Int) := of_decide_eq_true (by first | (with_reducible assumption) | assumption)
                obtain ⟨ad104, e104, hx104_0⟩ := Kd.at_string HR0.out 0 p104 q104
                cases e104
                have qi104 : (0 < l0.length) = True := eq_true (by omega)
                (try rw [show ((0 : Int)).toNat = 0 from rfl] at hx104_0)
                (try rw [Addr.add_zero'] at hx104_0)
                replace p104 := eq_true p104
                replace q104 := eq_true q104
                go_wp2
                repeat (go_quiet (fail); try go_wp2)
                go_meet
                case rel => exact ⟨_, (false), (by first | rfl | (simp; done) | (simp [*]; done)), H', ⟨by have := HJ4.out; first | omega | exact Nat.le_refl _⟩, by repeat (first | exact Drawn0.refl _ | apply Drawn0.step)⟩
          · rw [if_neg c9] at H
            exact absurd H (by simp)
        case rest =>
          clear HC8
          try clear c1
          try clear p1
          try clear q1
          try clear hx1
          try clear qi1
          try clear p2
          try clear c4
          try clear c6
          try clear c6b0
          try clear c6b1
          try clear c7
          try clear c9
          try clear c9b0
          try clear c9b1
          try clear c10
          try clear c10b0
          try clear c10b1
          try clear p10
          try clear q10
          try clear hx10
          try clear qi10
          try clear c11
          try clear c11b0
          try clear c11b1
          try clear hx104_0
          try clear hx105_0
          try clear p104
          try clear p105
          try clear p2
          try clear q104
          try clear q105
          obtain ⟨kq, x19_7, rfl, HA, HJ7, ⟨mc7, rfl⟩⟩ := hcut
          cases kq with
          | zero => exact absurd HA.out (by simp [spec_extPair.j1])
          | succ kj7 =>
            have H := HA.out
            clear HA
            simp only [spec_extPair.j1] at H
            by_cases c12 : x19_7 = true
            · subst c12
              have H1 : (if 0 < (l1.length : Int) then (if 1 < (l1.length : Int) then (some (rdOf ByteArray.empty l1 0, rdOf ByteArray.empty l1 1, true)) else (none)) else (none)) = some (r1, r2, r3) := by rw [if_pos rfl] at H; exact H
              clear H
              have H := H1
              clear H1
              by_cases c13 : 0 < (l1.length : Int)
              · rw [if_pos c13] at H
                have c13b0 : decide (0 < (l1.length : Int)) = true := decide_eq_true c13
                have c13b1 : decide (0 < l1.length) = true := decide_eq_true (by omega)
                clear c13
                by_cases c14 : 1 < (l1.length : Int)
                · rw [if_pos c14] at H
                  have c14b0 : decide (1 < (l1.length : Int)) = true := decide_eq_true c14
                  have c14b1 : decide (1 < l1.length) = true := decide_eq_true (by omega)
                  clear c14
                  as_aux_lemma =>
                    simp only [Option.some.injEq, Prod.mk.injEq] at H
                    obtain ⟨rfl, rfl, rfl⟩ := H
                    have p106 : 0 ≤ (0 : Int) := (by omega)
                    have q106 : 0 < (l1.length : Int) := of_decide_eq_true (by first | (with_reducible assumption) | assumption)
                    obtain ⟨ad106, e106, hx106_0⟩ := Kd.at_string HR1.out 0 p106 q106
                    cases e106
                    have qi106 : (0 < l1.length) = True := eq_true (by omega)
                    (try rw [show ((0 : Int)).toNat = 0 from rfl] at hx106_0)
                    (try rw [Addr.add_zero'] at hx106_0)
                    replace p106 := eq_true p106
                    replace q106 := eq_true q106
                    have p107 : 0 ≤ (1 : Int) := (by omega)
                    have q107 : 1 < (l1.length : Int) := of_decide_eq_true (by first | (with_reducible assumption) | assumption)
                    obtain ⟨ad107, e107, hx107_0⟩ := Kd.at_string HR1.out 1 p107 q107
                    obtain rfl : ad106 = ad107 := (by injection e107)
                    (try simp only [show (1 : Int).toNat = 1 from rfl, Nat.reduceMul, Nat.reduceEqDiff, Go.Addr.add, ↓reduceIte] at hx107_0)
                    have qi107 : (1 < l1.length) = True := eq_true (by omega)
                    (try rw [show ((1 : Int)).toNat = 1 from rfl] at hx107_0)
                    replace p107 := eq_true p107
                    replace q107 := eq_true q107
                    go_wp2
                    repeat (go_quiet (fail); try go_wp2)
                    go_ret3
                    exact ⟨by first | rfl | (simp; done) | (simp [*]; done), by repeat (first | exact Drawn0.refl _ | apply Drawn0.step)⟩
                · rw [if_neg c14] at H
                  exact absurd H (by simp)
              · rw [if_neg c13] at H
                exact absurd H (by simp)
            · replace c12 := Bool.eq_false_iff.mpr c12
              subst c12
              have H1 : (if 0 < (l0.length : Int) then (if (rdOf ByteArray.empty l0 0).toList = a3.toList then (if 1 < (l0.length : Int) then (spec_extPair.j2 kj7 l1 ((rdOf ByteArray.empty l0 1).toList == a2.toList)) else (none)) else (spec_extPair.j2 kj7 l1 false)) else (none)) = some (r1, r2, r3) := by rw [if_neg (show ¬ (false = true) by decide)] at H; exact H
              clear H
              have H := H1
              clear H1
              have HC15 := Aside0.mk H
              clear H
              go_upto_region 5 with (fail)
              repeat (go_quiet (fail); go_upto_region 5 with (fail))
              go_cut [38] (fun v38 wc => ∃ (kq : Nat) (x38_14 : Bool), v38 = .bool x38_14 ∧ Aside0 (spec_extPair.j2 kq l1 x38_14 = some (r1, r2, r3)) ∧ Aside0 (kq ≤ kj7) ∧ Drawn0 w wc)
              case first =>
                have H := HC15.out
                clear HC15
                by_cases c16 : 0 < (l0.length : Int)
                · rw [if_pos c16] at H
                  have c16b0 : decide (0 < (l0.length : Int)) = true := decide_eq_true c16
                  have c16b1 : decide (0 < l0.length) = true := decide_eq_true (by omega)
                  clear c16
                  (first | rw [c16b0] | (simp only [i64_w, i32_w]; rw [c16b0]) | skip)
                  by_cases c17 : (rdOf ByteArray.empty l0 0).toList = a3.toList
                  · rw [if_pos c17] at H
                    have c17b0 : ((rdOf ByteArray.empty l0 0).toList == a3.toList) = true := beq_iff_eq.mpr c17
                    have c17b1 : ((rdOf ByteArray.empty l0 0).toList != a3.toList) = false := bne_eq_false_iff_eq.mpr c17
                    clear c17
                    by_cases c18 : 1 < (l0.length : Int)
                    · rw [if_pos c18] at H
                      have c18b0 : decide (1 < (l0.length : Int)) = true := decide_eq_true c18
                      have c18b1 : decide (1 < l0.length) = true := decide_eq_true (by omega)
                      clear c18
                      as_aux_lemma =>
                        have H' := Aside0.mk H
                        clear H
                        have p108 : 0 ≤ (0 : Int) := (by omega)
                        have q108 : 0 < (l0.length : Int) := of_decide_eq_true (by first | (with_reducible assumption) | assumption)
                        obtain ⟨ad108, e108, hx108_0⟩ := Kd.at_string HR0.out 0 p108 q108
                        cases e108
                        have qi108 : (0 < l0.length) = True := eq_true (by omega)
                        (try rw [show ((0 : Int)).toNat = 0 from rfl] at hx108_0)
                        (try rw [Addr.add_zero'] at hx108_0)
                        replace p108 := eq_true p108
                        replace q108 := eq_true q108
                        have p109 : 0 ≤ (1 : Int) := (by omega)
                        have q109 : 1 < (l0.length : Int) := of_decide_eq_true (by first | (with_reducible assumption) | assumption)
                        obtain ⟨ad109, e109, hx109_0⟩ := Kd.at_string HR0.out 1 p109 q109
                        obtain rfl : ad108 = ad109 := (by injection e109)
                        (try simp only [show (1 : Int).toNat = 1 from rfl, Nat.reduceMul, Nat.reduceEqDiff, Go.Addr.add, ↓reduceIte] at hx109_0)
                        have qi109 : (1 < l0.length) = True := eq_true (by omega)
                        (try rw [show ((1 : Int)).toNat = 1 from rfl] at hx109_0)
                        replace p109 := eq_true p109
                        replace q109 := eq_true q109
                        go_wp2
                        repeat (go_quiet (fail); try go_wp2)
                        go_meet
                        case rel => exact ⟨_, (((rdOf ByteArray.empty l0 1).toList == a2.toList)), (by first | rfl | (simp; done) | (simp [*]; done)), H', ⟨by have := HJ4.out; have := HJ7.out; first | omega | exact Nat.le_refl _⟩, by repeat (first | exact Drawn0.refl _ | apply Drawn0.step)⟩
                    · rw [if_neg c18] at H
                      exact absurd H (by simp)
                  · rw [if_neg c17] at H
                    have c17b0 : ((rdOf ByteArray.empty l0 0).toList == a3.toList) = false := beq_eq_false_iff_ne.mpr c17
                    have c17b1 : ((rdOf ByteArray.empty l0 0).toList != a3.toList) = true := bne_iff_ne.mpr c17
                    as_aux_lemma =>
                      have H' := Aside0.mk H
                      clear H
                      have p108 : 0 ≤ (0 : Int) := (by omega)
                      have q108 : 0 < (l0.length : Int) := of_decide_eq_true (by first | (with_reducible assumption) | assumption)
                      obtain ⟨ad108, e108, hx108_0⟩ := Kd.at_string HR0.out 0 p108 q108
                      cases e108
                      have qi108 : (0 < l0.length) = True := eq_true (by omega)
                      (try rw [show ((0 : Int)).toNat = 0 from rfl] at hx108_0)
                      (try rw [Addr.add_zero'] at hx108_0)
                      replace p108 := eq_true p108
                      replace q108 := eq_true q108
                      go_wp2
                      repeat (go_quiet (fail); try go_wp2)
                      go_meet
                      case rel => exact ⟨_, (false), (by first | rfl | (simp; done) | (simp [*]; done)), H', ⟨by have := HJ4.out; have := HJ7.out; first | omega | exact Nat.le_refl _⟩, by repeat (first | exact Drawn0.refl _ | apply Drawn0.step)⟩
                · rw [if_neg c16] at H
                  exact absurd H (by simp)
              case rest =>
                clear HC15
                try clear c1
                try clear p1
                try clear q1
                try clear hx1
                try clear qi1
                try clear p2
                try clear c4
                try clear c6
                try clear c6b0
                try clear c6b1
                try clear c7
                try clear c9
                try clear c9b0
                try clear c9b1
                try clear c10
                try clear c10b0
                try clear c10b1
                try clear p10
                try clear q10
                try clear hx10
                try clear qi10
                try clear c11
                try clear c11b0
                try clear c11b1
                try clear c12
                try clear c13
                try clear c13b0
                try clear c13b1
                try clear c14
                try clear c14b0
                try clear c14b1
                try clear c16
                try clear c16b0
                try clear c16b1
                try clear c17
                try clear c17b0
                try clear c17b1
                try clear c18
                try clear c18b0
                try clear c18b1
                try clear hx104_0
                try clear hx105_0
                try clear hx106_0
                try clear hx107_0
                try clear hx108_0
                try clear hx109_0
                try clear p1
                try clear p10
                try clear p104
                try clear p105
                try clear p106
                try clear p107
                try clear p108
                try clear p109
                try clear p2
                try clear q1
                try clear q10
                try clear q104
                try clear q105
                try clear q106
                try clear q107
                try clear q108
                try clear q109
                obtain ⟨kq, x38_14, rfl, HA, HJ14, ⟨mc14, rfl⟩⟩ := hcut
                cases kq with
                | zero => exact absurd HA.out (by simp [spec_extPair.j2])
                | succ kj14 =>
                  have H := HA.out
                  clear HA
                  simp only [spec_extPair.j2] at H
                  by_cases c19 : x38_14 = true
                  · subst c19
                    have H1 : (if 1 < (l1.length : Int) then (if 0 < (l1.length : Int) then (some (rdOf ByteArray.empty l1 1, rdOf ByteArray.empty l1 0, true)) else (none)) else (none)) = some (r1, r2, r3) := by rw [if_pos rfl] at H; exact H
                    clear H
                    have H := H1
                    clear H1
                    by_cases c20 : 1 < (l1.length : Int)
                    · rw [if_pos c20] at H
                      have c20b0 : decide (1 < (l1.length : Int)) = true := decide_eq_true c20
                      have c20b1 : decide (1 < l1.length) = true := decide_eq_true (by omega)
                      clear c20
                      by_cases c21 : 0 < (l1.length : Int)
                      · rw [if_pos c21] at H
                        have c21b0 : decide (0 < (l1.length : Int)) = true := decide_eq_true c21
                        have c21b1 : decide (0 < l1.length) = true := decide_eq_true (by omega)
                        clear c21
                        as_aux_lemma =>
                          simp only [Option.some.injEq, Prod.mk.injEq] at H
                          obtain ⟨rfl, rfl, rfl⟩ := H
                          have p110 : 0 ≤ (1 : Int) := (by omega)
                          have q110 : 1 < (l1.length : Int) := of_decide_eq_true (by first | (with_reducible assumption) | assumption)
                          obtain ⟨ad110, e110, hx110_0⟩ := Kd.at_string HR1.out 1 p110 q110
                          cases e110
                          (try simp only [show (1 : Int).toNat = 1 from rfl, Nat.reduceMul, Nat.reduceEqDiff, Go.Addr.add, ↓reduceIte] at hx110_0)
                          have qi110 : (1 < l1.length) = True := eq_true (by omega)
                          (try rw [show ((1 : Int)).toNat = 1 from rfl] at hx110_0)
                          replace p110 := eq_true p110
                          replace q110 := eq_true q110
                          have p111 : 0 ≤ (0 : Int) := (by omega)
                          have q111 : 0 < (l1.length : Int) := of_decide_eq_true (by first | (with_reducible assumption) | assumption)
                          obtain ⟨ad111, e111, hx111_0⟩ := Kd.at_string HR1.out 0 p111 q111
                          obtain rfl : ad110 = ad111 := (by injection e111)
                          have qi111 : (0 < l1.length) = True := eq_true (by omega)
                          (try rw [show ((0 : Int)).toNat = 0 from rfl] at hx111_0)
                          (try rw [Addr.add_zero'] at hx111_0)
                          replace p111 := eq_true p111
                          replace q111 := eq_true q111
                          go_wp2
                          repeat (go_quiet (fail); try go_wp2)
                          go_ret3
                          exact ⟨by first | rfl | (simp; done) | (simp [*]; done), by repeat (first | exact Drawn0.refl _ | apply Drawn0.step)⟩
                      · rw [if_neg c21] at H
                        exact absurd H (by simp)
                    · rw [if_neg c20] at H
                      exact absurd H (by simp)
                  · replace c19 := Bool.eq_false_iff.mpr c19
                    subst c19
                    have H1 : (some ((⟨#[]⟩ : ByteArray), (⟨#[]⟩ : ByteArray), false)) = some (r1, r2, r3) := by rw [if_neg (show ¬ (false = true) by decide)] at H; exact H
                    clear H
                    have H := H1
                    clear H1
                    as_aux_lemma =>
                      simp only [Option.some.injEq, Prod.mk.injEq] at H
                      obtain ⟨rfl, rfl, rfl⟩ := H
                      go_wp2
                      repeat (go_quiet (fail); try go_wp2)
                      go_ret3
                      exact ⟨by first | rfl | (simp; done) | (simp [*]; done), by repeat (first | exact Drawn0.refl _ | apply Drawn0.step)⟩

/-! ### spec_ExtRegexOf: function 19 -/
set_option maxHeartbeats 4000000 in
set_option maxRecDepth 100000 in
theorem spec_ExtRegexOf.any (k : Nat) (A0 : Option Addr) (c0 : Nat) (l0 : List ByteArray) (A1 : Option Addr) (c1 : Nat) (l1 : List ByteArray) (a b : ByteArray) (ok : Bool) (w : World) (hr0 : Kd.C Kd.string w A0 l0.length l0) (hc0 : l0.length ≤ c0) (hr1 : Kd.C Kd.string w A1 l1.length l1) (hc1 : l1.length ≤ c1) (h : spec_extPair.f k l0 l1 (⟨#[112, 97, 116, 116, 101, 114, 110]⟩ : ByteArray) (⟨#[111, 112, 116, 105, 111, 110, 115]⟩ : ByteArray) = some (a, b, ok)) :
    Calls Try.prog 19 #[.slice A0 l0.length c0, .slice A1 l1.length c1] w fun e w' => e = .returned (.tuple #[.agg #[.int .i64 11, .string a, .string b, .int .i64 0, .int .u64 0, .int .u64 0, .slice none 0 0, .slice none 0 0], .bool ok]) ∧ Below w.heap.size w w' := by
  have HR0 := Aside0.mk hr0
  have HC0 := Aside0.mk hc0
  have HR1 := Aside0.mk hr1
  have HC1 := Aside0.mk hc1
  have A3 := Aside0.mk h
  have B0 : ∀ o, Below w.heap.size w (w.alloc o) := fun o => (Below.refl _ w).alloc (Nat.le_refl _) o
  clear hr0 hc0 hr1 hc1 h
  go_enter Try.func19, Try.ntmps19
  go_wp2_with (first | (go_at_call 41; refine (spec_extPair.calls k _ _ l0 _ _ l1 _ _ a b ok _ (Kd.C_below HR0.out (B0 _)) HC0.out (Kd.C_below HR1.out (B0 _)) HC1.out A3.out).mono ?_; rintro e w2 ⟨rfl, hD⟩; have hB2 := hD.below; have hz := blk_below (blk_new w _) hB2; have HB2 := Aside0.mk hB2; have HZ := Aside0.mk hz; have y0 := (blk_cell HZ.out 0).trans rfl; have y1 := (blk_cell HZ.out 1).trans rfl; have y2 := (blk_cell HZ.out 2).trans rfl; have y3 := (blk_cell HZ.out 3).trans rfl; have y4 := (blk_cell HZ.out 4).trans rfl; have y5 := (blk_cell HZ.out 5).trans rfl; have y6 := (blk_cell HZ.out 6).trans rfl; have y7 := (blk_cell HZ.out 7).trans rfl; have f0 := blk_frozen HZ.out 0; have f1 := blk_frozen HZ.out 1; have f2 := blk_frozen HZ.out 2; have f3 := blk_frozen HZ.out 3; have f4 := blk_frozen HZ.out 4; have f5 := blk_frozen HZ.out 5; have f6 := blk_frozen HZ.out 6; have f7 := blk_frozen HZ.out 7; clear hD hB2 hz))
  refine bodyPost_ret (v := .tuple #[.agg #[.int .i64 11, .string a, .string b, .int .i64 0, .int .u64 0, .int .u64 0, .slice none 0 0, .slice none 0 0], .bool ok]) ?_ rfl ?_
  · simp [results, Try.results19, go_sem, y0, y1, y2, y3, y4, y5, y6, y7]
  · refine ⟨rfl, ?_⟩
    exact ((((((((((B0 _).trans (HB2.out.mono (by simp))).setCell (p := ⟨w.heap.size, 0, none⟩) (Nat.le_refl _) (.int .i64 11)).setCell (p := ⟨w.heap.size, 1, none⟩) (Nat.le_refl _) (.string a)).setCell (p := ⟨w.heap.size, 2, none⟩) (Nat.le_refl _) (.string b)).setCell (p := ⟨w.heap.size, 3, none⟩) (Nat.le_refl _) (.int .i64 0)).setCell (p := ⟨w.heap.size, 4, none⟩) (Nat.le_refl _) (.int .u64 0)).setCell (p := ⟨w.heap.size, 5, none⟩) (Nat.le_refl _) (.int .u64 0)).setCell (p := ⟨w.heap.size, 6, none⟩) (Nat.le_refl _) (.slice none 0 0)).setCell (p := ⟨w.heap.size, 7, none⟩) (Nat.le_refl _) (.slice none 0 0))

-- NOT PRINTED: function 61 (bson_zzObject)

-- NOT PRINTED: function 58 (errors_New)

-- NOT PRINTED: function 62 (bson_extJSONValue_parseRegex)

-- NOT PRINTED: function 42 (bson_ZzRegex)

-- NOT PRINTED: function 20 (impl_ExtRegex)

/-! ### laws_extPart: function 21 -/
def laws_extPart.f (a0_0 : Int) (a0_1 : ByteArray) (a0_2 : ByteArray) (a0_3 : Int) (a0_4 : Int) (a0_5 : Int) (l0_6 : List Int) (l0_7 : List (S98)) (a1 : Bool) (a2_0 : Int) (a2_1 : ByteArray) (a2_2 : ByteArray) (a2_3 : Int) (a2_4 : Int) (a2_5 : Int) (l2_6 : List Int) (l2_7 : List (S98)) (a3 : Bool) : Option (Bool) := if (a1 == a3) = true then (if a3 = true then (if a0_0 = a2_0 then (if a0_1.toList = a2_1.toList then (if a0_2.toList = a2_2.toList then (if a0_3 = a2_3 then (if a0_4 = a2_4 then (some ((strOfNums l0_6).toList == (strOfNums l2_6).toList)) else (some false)) else (some false)) else (some false)) else (some false)) else (some false)) else (some true)) else (some false)
set_option maxHeartbeats 8000000 in
set_option maxRecDepth 100000 in
theorem laws_extPart.calls (a0_0 : Int) (a0_1 : ByteArray) (a0_2 : ByteArray) (a0_3 : Int) (a0_4 : Int) (a0_5 : Int) (A0_6 : Option Addr) (c0_6 : Nat) (l0_6 : List Int) (A0_7 : Option Addr) (c0_7 : Nat) (l0_7 : List (S98)) (a1 : Bool) (a2_0 : Int) (a2_1 : ByteArray) (a2_2 : ByteArray) (a2_3 : Int) (a2_4 : Int) (a2_5 : Int) (A2_6 : Option Addr) (c2_6 : Nat) (l2_6 : List Int) (A2_7 : Option Addr) (c2_7 : Nat) (l2_7 : List (S98)) (a3 : Bool) (r : Bool) (w : World) (hr0_6 : Kd.C (Kd.int .u8) w A0_6 l0_6.length l0_6) (hc0_6 : l0_6.length ≤ c0_6) (hr0_7 : Kd.C k98 w A0_7 l0_7.length l0_7) (hc0_7 : l0_7.length ≤ c0_7) (hr2_6 : Kd.C (Kd.int .u8) w A2_6 l2_6.length l2_6) (hc2_6 : l2_6.length ≤ c2_6) (hr2_7 : Kd.C k98 w A2_7 l2_7.length l2_7) (hc2_7 : l2_7.length ≤ c2_7) (h : laws_extPart.f a0_0 a0_1 a0_2 a0_3 a0_4 a0_5 l0_6 l0_7 a1 a2_0 a2_1 a2_2 a2_3 a2_4 a2_5 l2_6 l2_7 a3 = some r) :
    Calls Try.prog 21 #[.agg #[.int .i64 a0_0, .string a0_1, .string a0_2, .int .i64 a0_3, .int .u64 a0_4, .int .u64 a0_5, .slice A0_6 l0_6.length c0_6, .slice A0_7 l0_7.length c0_7], .bool a1, .agg #[.int .i64 a2_0, .string a2_1, .string a2_2, .int .i64 a2_3, .int .u64 a2_4, .int .u64 a2_5, .slice A2_6 l2_6.length c2_6, .slice A2_7 l2_7.length c2_7], .bool a3] w fun e w' => e = .returned (.bool r) ∧ Below w.heap.size w w' := by
  have hu37 := Try.underlying37
  have HR0_6 := Aside0.mk hr0_6
  have HC0_6 := Aside0.mk hc0_6
  clear hr0_6 hc0_6
  have HR0_7 := Aside0.mk hr0_7
  have HC0_7 := Aside0.mk hc0_7
  clear hr0_7 hc0_7
  have HR2_6 := Aside0.mk hr2_6
  have HC2_6 := Aside0.mk hc2_6
  clear hr2_6 hc2_6
  have HR2_7 := Aside0.mk hr2_7
  have HC2_7 := Aside0.mk hc2_7
  clear hr2_7 hc2_7
  have HB := Aside0.mk (Below.refl w.heap.size w)
  have H : (if (a1 == a3) = true then (if a3 = true then (if a0_0 = a2_0 then (if a0_1.toList = a2_1.toList then (if a0_2.toList = a2_2.toList then (if a0_3 = a2_3 then (if a0_4 = a2_4 then (some ((strOfNums l0_6).toList == (strOfNums l2_6).toList)) else (some false)) else (some false)) else (some false)) else (some false)) else (some false)) else (some true)) else (some false)) = some r := h
  clear h
  by_cases c5 : (a1 == a3) = true
  · rw [if_pos c5] at H
    have c5b0 : (a1 == a3) = true := c5
    (try (have c5b1 : decide (a1 = a3) = true := by simpa using c5))
    (try (have c5b2 : (a1 == a3) = true := by simpa using c5))
    clear c5
    by_cases c6 : a3 = true
    · subst c6
      have H1 : (if a0_0 = a2_0 then (if a0_1.toList = a2_1.toList then (if a0_2.toList = a2_2.toList then (if a0_3 = a2_3 then (if a0_4 = a2_4 then (some ((strOfNums l0_6).toList == (strOfNums l2_6).toList)) else (some false)) else (some false)) else (some false)) else (some false)) else (some false)) = some r := by rw [if_pos rfl] at H; exact H
      clear H
      have H := H1
      clear H1
      by_cases c7 : a0_0 = a2_0
      · rw [if_pos c7] at H
        have c7b0 : (a0_0 == a2_0) = true := beq_iff_eq.mpr c7
        have c7b1 : (a0_0 != a2_0) = false := bne_eq_false_iff_eq.mpr c7
        clear c7
        by_cases c8 : a0_1.toList = a2_1.toList
        · rw [if_pos c8] at H
          have c8b0 : (a0_1.toList == a2_1.toList) = true := beq_iff_eq.mpr c8
          have c8b1 : (a0_1.toList != a2_1.toList) = false := bne_eq_false_iff_eq.mpr c8
          clear c8
          by_cases c9 : a0_2.toList = a2_2.toList
          · rw [if_pos c9] at H
            have c9b0 : (a0_2.toList == a2_2.toList) = true := beq_iff_eq.mpr c9
            have c9b1 : (a0_2.toList != a2_2.toList) = false := bne_eq_false_iff_eq.mpr c9
            clear c9
            by_cases c10 : a0_3 = a2_3
            · rw [if_pos c10] at H
              have c10b0 : (a0_3 == a2_3) = true := beq_iff_eq.mpr c10
              have c10b1 : (a0_3 != a2_3) = false := bne_eq_false_iff_eq.mpr c10
              clear c10
              by_cases c11 : a0_4 = a2_4
              · rw [if_pos c11] at H
                have c11b0 : (a0_4 == a2_4) = true := beq_iff_eq.mpr c11
                have c11b1 : (a0_4 != a2_4) = false := bne_eq_false_iff_eq.mpr c11
                clear c11
                as_aux_lemma =>
                  obtain rfl := Option.some.inj H
                  go_enter Try.func21, Try.ntmps21
                  go_wp2_with (first | ((with_reducible refine gate_dst (N := 4) rfl ?_); refine box_event ?hg (N := 4) ?hd (cs := #[.int .i64 a0_0, .string a0_1, .string a0_2, .int .i64 a0_3, .int .u64 a0_4, .int .u64 a0_5, .slice A0_6 l0_6.length c0_6, .slice A0_7 l0_7.length c0_7]) (t := 37) ?hr ?_; (case hd => rfl); (case hg => rfl); (case hr => first | (go_simp; done) | (go_simp; rfl)); intro gb114 hg w12 hbox hb; have n0_ := Aside0.mk (below_step (by repeat (first | (with_reducible first | exact HB.out | apply below_alloc | apply pw_below_drewN | apply below_drew1) | exact HB.out)) hb); have n1_ := Aside0.mk (hbox); have n2_ := Aside0.mk ((by rw [hg]; exact (below_size (by repeat (first | (with_reducible first | exact HB.out | apply below_alloc | apply pw_below_drewN | apply below_drew1) | exact HB.out))) : w.heap.size ≤ gb114)); have n3_ := Aside0.mk ((by rw [hg]; exact (below_size (by repeat (first | (with_reducible first | exact HB.out | apply below_alloc | apply pw_below_drewN | apply below_drew1) | exact HB.out))) : w.heap.size ≤ gb114)); clear HB; have HB := n0_; have BK114 := n1_; have GW114 := n2_; have GE114 := n3_; clear n0_ n1_ n2_ n3_; clear hb hbox hg) | ((with_reducible refine gate_dst (N := 6) rfl ?_); refine box_event ?hg (N := 6) ?hd (cs := #[.int .i64 a2_0, .string a2_1, .string a2_2, .int .i64 a2_3, .int .u64 a2_4, .int .u64 a2_5, .slice A2_6 l2_6.length c2_6, .slice A2_7 l2_7.length c2_7]) (t := 37) ?hr ?_; (case hd => rfl); (case hg => rfl); (case hr => first | (go_simp; done) | (go_simp; rfl)); intro gb115 hg w13 hbox hb; have n0_ := Aside0.mk (blk_below (g := gb114) (o := .cells #[.int .i64 a0_0, .string a0_1, .string a0_2, .int .i64 a0_3, .int .u64 a0_4, .int .u64 a0_5, .slice A0_6 l0_6.length c0_6, .slice A0_7 l0_7.length c0_7] 37 (0, 0)) (by (with_reducible repeat (first | refine blk_drewN ?_ _ | refine blk_drew ?_ | refine blk_alloc ?_ _)); exact BK114.out) hb); have n1_ := Aside0.mk (below_step (by repeat (first | (with_reducible first | exact HB.out | apply below_alloc | apply pw_below_drewN | apply below_drew1 | refine below_set ?_ GE114.out) | exact HB.out)) hb); have n2_ := Aside0.mk (hbox); have n3_ := Aside0.mk ((by rw [hg]; exact (below_size (by repeat (first | (with_reducible first | exact HB.out | apply below_alloc | apply pw_below_drewN | apply below_drew1 | refine below_set ?_ GE114.out) | exact HB.out))) : w.heap.size ≤ gb115)); have n4_ := Aside0.mk ((by rw [hg]; exact (below_size (by repeat (first | (with_reducible first | exact HB.out | apply below_alloc | apply pw_below_drewN | apply below_drew1 | refine below_set ?_ GE114.out) | exact HB.out))) : w.heap.size ≤ gb115)); have n5_ := Aside0.mk ((by rw [hg]; exact Nat.ne_of_lt (blk_lt (g := gb114) (o := .cells #[.int .i64 a0_0, .string a0_1, .string a0_2, .int .i64 a0_3, .int .u64 a0_4, .int .u64 a0_5, .slice A0_6 l0_6.length c0_6, .slice A0_7 l0_7.length c0_7] 37 (0, 0)) (by (with_reducible repeat (first | refine blk_drewN ?_ _ | refine blk_drew ?_ | refine blk_alloc ?_ _)); exact BK114.out)) : gb114 ≠ gb115)); have n6_ := Aside0.mk ((by rw [hg]; exact Nat.ne_of_gt (blk_lt (g := gb114) (o := .cells #[.int .i64 a0_0, .string a0_1, .string a0_2, .int .i64 a0_3, .int .u64 a0_4, .int .u64 a0_5, .slice A0_6 l0_6.length c0_6, .slice A0_7 l0_7.length c0_7] 37 (0, 0)) (by (with_reducible repeat (first | refine blk_drewN ?_ _ | refine blk_drew ?_ | refine blk_alloc ?_ _)); exact BK114.out)) : gb115 ≠ gb114)); clear BK114; clear HB; have BK114 := n0_; have HB := n1_; have BK115 := n2_; have GW115 := n3_; have GE115 := n4_; have NB114_115 := n5_; have NB115_114 := n6_; clear n0_ n1_ n2_ n3_ n4_ n5_ n6_; clear hb hbox hg; have hnb14 := NB114_115.out; have hnc14 := NB115_114.out; have hcz15_0 : w13.cell? ⟨gb114, 0, none⟩ = some (.int .i64 a0_0) := (blk_cell BK114.out 0).trans rfl; have hcz15_1 : w13.cell? ⟨gb114, 1, none⟩ = some (.string a0_1) := (blk_cell BK114.out 1).trans rfl; have hcz15_2 : w13.cell? ⟨gb114, 2, none⟩ = some (.string a0_2) := (blk_cell BK114.out 2).trans rfl; have hcz15_3 : w13.cell? ⟨gb114, 3, none⟩ = some (.int .i64 a0_3) := (blk_cell BK114.out 3).trans rfl; have hcz15_4 : w13.cell? ⟨gb114, 4, none⟩ = some (.int .u64 a0_4) := (blk_cell BK114.out 4).trans rfl; have hcz15_5 : w13.cell? ⟨gb114, 5, none⟩ = some (.int .u64 a0_5) := (blk_cell BK114.out 5).trans rfl; have hcz15_6 : w13.cell? ⟨gb114, 6, none⟩ = some (.slice A0_6 l0_6.length c0_6) := (blk_cell BK114.out 6).trans rfl; have hcz15_7 : w13.cell? ⟨gb114, 7, none⟩ = some (.slice A0_7 l0_7.length c0_7) := (blk_cell BK114.out 7).trans rfl; have hfz15_0 := blk_frozen BK114.out 0; have hfz15_1 := blk_frozen BK114.out 1; have hfz15_2 := blk_frozen BK114.out 2; have hfz15_3 := blk_frozen BK114.out 3; have hfz15_4 := blk_frozen BK114.out 4; have hfz15_5 := blk_frozen BK114.out 5; have hfz15_6 := blk_frozen BK114.out 6; have hfz15_7 := blk_frozen BK114.out 7; have hcz16_0 : w13.cell? ⟨gb115, 0, none⟩ = some (.int .i64 a2_0) := (blk_cell BK115.out 0).trans rfl; have hcz16_1 : w13.cell? ⟨gb115, 1, none⟩ = some (.string a2_1) := (blk_cell BK115.out 1).trans rfl; have hcz16_2 : w13.cell? ⟨gb115, 2, none⟩ = some (.string a2_2) := (blk_cell BK115.out 2).trans rfl; have hcz16_3 : w13.cell? ⟨gb115, 3, none⟩ = some (.int .i64 a2_3) := (blk_cell BK115.out 3).trans rfl; have hcz16_4 : w13.cell? ⟨gb115, 4, none⟩ = some (.int .u64 a2_4) := (blk_cell BK115.out 4).trans rfl; have hcz16_5 : w13.cell? ⟨gb115, 5, none⟩ = some (.int .u64 a2_5) := (blk_cell BK115.out 5).trans rfl; have hcz16_6 : w13.cell? ⟨gb115, 6, none⟩ = some (.slice A2_6 l2_6.length c2_6) := (blk_cell BK115.out 6).trans rfl; have hcz16_7 : w13.cell? ⟨gb115, 7, none⟩ = some (.slice A2_7 l2_7.length c2_7) := (blk_cell BK115.out 7).trans rfl; have hfz16_0 := blk_frozen BK115.out 0; have hfz16_1 := blk_frozen BK115.out 1; have hfz16_2 := blk_frozen BK115.out 2; have hfz16_3 := blk_frozen BK115.out 3; have hfz16_4 := blk_frozen BK115.out 4; have hfz16_5 := blk_frozen BK115.out 5; have hfz16_6 := blk_frozen BK115.out 6; have hfz16_7 := blk_frozen BK115.out 7; have hcv17 := Kd.C_string (P := Try.prog) (A := A0_6) (c := c0_6) Try.underlying24 Try.underlying5 Try.underlying9 (Kd.C_below HR0_6.out HB.out); have hcv18 := Kd.C_string (P := Try.prog) (A := A2_6) (c := c2_6) Try.underlying24 Try.underlying5 Try.underlying9 (Kd.C_below HR2_6.out HB.out)))
                  go_ret
                  exact ⟨by first | rfl | (simp [errW_none, errW_some] <;> rfl) | (simp [*, errW_none, errW_some] <;> rfl), by repeat (first | (with_reducible first | exact HB.out | apply below_alloc | apply pw_below_drewN | apply below_drew1 | refine below_set ?_ GE114.out | refine below_set ?_ GE115.out) | exact HB.out)⟩
              · rw [if_neg c11] at H
                have c11b0 : (a0_4 == a2_4) = false := beq_eq_false_iff_ne.mpr c11
                have c11b1 : (a0_4 != a2_4) = true := bne_iff_ne.mpr c11
                as_aux_lemma =>
                  obtain rfl := Option.some.inj H
                  go_enter Try.func21, Try.ntmps21
                  go_wp2_with (first | ((with_reducible refine gate_dst (N := 4) rfl ?_); refine box_event ?hg (N := 4) ?hd (cs := #[.int .i64 a0_0, .string a0_1, .string a0_2, .int .i64 a0_3, .int .u64 a0_4, .int .u64 a0_5, .slice A0_6 l0_6.length c0_6, .slice A0_7 l0_7.length c0_7]) (t := 37) ?hr ?_; (case hd => rfl); (case hg => rfl); (case hr => first | (go_simp; done) | (go_simp; rfl)); intro gb114 hg w19 hbox hb; have n0_ := Aside0.mk (below_step (by repeat (first | (with_reducible first | exact HB.out | apply below_alloc | apply pw_below_drewN | apply below_drew1) | exact HB.out)) hb); have n1_ := Aside0.mk (hbox); have n2_ := Aside0.mk ((by rw [hg]; exact (below_size (by repeat (first | (with_reducible first | exact HB.out | apply below_alloc | apply pw_below_drewN | apply below_drew1) | exact HB.out))) : w.heap.size ≤ gb114)); have n3_ := Aside0.mk ((by rw [hg]; exact (below_size (by repeat (first | (with_reducible first | exact HB.out | apply below_alloc | apply pw_below_drewN | apply below_drew1) | exact HB.out))) : w.heap.size ≤ gb114)); clear HB; have HB := n0_; have BK114 := n1_; have GW114 := n2_; have GE114 := n3_; clear n0_ n1_ n2_ n3_; clear hb hbox hg) | ((with_reducible refine gate_dst (N := 6) rfl ?_); refine box_event ?hg (N := 6) ?hd (cs := #[.int .i64 a2_0, .string a2_1, .string a2_2, .int .i64 a2_3, .int .u64 a2_4, .int .u64 a2_5, .slice A2_6 l2_6.length c2_6, .slice A2_7 l2_7.length c2_7]) (t := 37) ?hr ?_; (case hd => rfl); (case hg => rfl); (case hr => first | (go_simp; done) | (go_simp; rfl)); intro gb115 hg w20 hbox hb; have n0_ := Aside0.mk (blk_below (g := gb114) (o := .cells #[.int .i64 a0_0, .string a0_1, .string a0_2, .int .i64 a0_3, .int .u64 a0_4, .int .u64 a0_5, .slice A0_6 l0_6.length c0_6, .slice A0_7 l0_7.length c0_7] 37 (0, 0)) (by (with_reducible repeat (first | refine blk_drewN ?_ _ | refine blk_drew ?_ | refine blk_alloc ?_ _)); exact BK114.out) hb); have n1_ := Aside0.mk (below_step (by repeat (first | (with_reducible first | exact HB.out | apply below_alloc | apply pw_below_drewN | apply below_drew1 | refine below_set ?_ GE114.out) | exact HB.out)) hb); have n2_ := Aside0.mk (hbox); have n3_ := Aside0.mk ((by rw [hg]; exact (below_size (by repeat (first | (with_reducible first | exact HB.out | apply below_alloc | apply pw_below_drewN | apply below_drew1 | refine below_set ?_ GE114.out) | exact HB.out))) : w.heap.size ≤ gb115)); have n4_ := Aside0.mk ((by rw [hg]; exact (below_size (by repeat (first | (with_reducible first | exact HB.out | apply below_alloc | apply pw_below_drewN | apply below_drew1 | refine below_set ?_ GE114.out) | exact HB.out))) : w.heap.size ≤ gb115)); have n5_ := Aside0.mk ((by rw [hg]; exact Nat.ne_of_lt (blk_lt (g := gb114) (o := .cells #[.int .i64 a0_0, .string a0_1, .string a0_2, .int .i64 a0_3, .int .u64 a0_4, .int .u64 a0_5, .slice A0_6 l0_6.length c0_6, .slice A0_7 l0_7.length c0_7] 37 (0, 0)) (by (with_reducible repeat (first | refine blk_drewN ?_ _ | refine blk_drew ?_ | refine blk_alloc ?_ _)); exact BK114.out)) : gb114 ≠ gb115)); have n6_ := Aside0.mk ((by rw [hg]; exact Nat.ne_of_gt (blk_lt (g := gb114) (o := .cells #[.int .i64 a0_0, .string a0_1, .string a0_2, .int .i64 a0_3, .int .u64 a0_4, .int .u64 a0_5, .slice A0_6 l0_6.length c0_6, .slice A0_7 l0_7.length c0_7] 37 (0, 0)) (by (with_reducible repeat (first | refine blk_drewN ?_ _ | refine blk_drew ?_ | refine blk_alloc ?_ _)); exact BK114.out)) : gb115 ≠ gb114)); clear BK114; clear HB; have BK114 := n0_; have HB := n1_; have BK115 := n2_; have GW115 := n3_; have GE115 := n4_; have NB114_115 := n5_; have NB115_114 := n6_; clear n0_ n1_ n2_ n3_ n4_ n5_ n6_; clear hb hbox hg; have hnb21 := NB114_115.out; have hnc21 := NB115_114.out; have hcz22_0 : w20.cell? ⟨gb114, 0, none⟩ = some (.int .i64 a0_0) := (blk_cell BK114.out 0).trans rfl; have hcz22_1 : w20.cell? ⟨gb114, 1, none⟩ = some (.string a0_1) := (blk_cell BK114.out 1).trans rfl; have hcz22_2 : w20.cell? ⟨gb114, 2, none⟩ = some (.string a0_2) := (blk_cell BK114.out 2).trans rfl; have hcz22_3 : w20.cell? ⟨gb114, 3, none⟩ = some (.int .i64 a0_3) := (blk_cell BK114.out 3).trans rfl; have hcz22_4 : w20.cell? ⟨gb114, 4, none⟩ = some (.int .u64 a0_4) := (blk_cell BK114.out 4).trans rfl; have hcz22_5 : w20.cell? ⟨gb114, 5, none⟩ = some (.int .u64 a0_5) := (blk_cell BK114.out 5).trans rfl; have hcz22_6 : w20.cell? ⟨gb114, 6, none⟩ = some (.slice A0_6 l0_6.length c0_6) := (blk_cell BK114.out 6).trans rfl; have hcz22_7 : w20.cell? ⟨gb114, 7, none⟩ = some (.slice A0_7 l0_7.length c0_7) := (blk_cell BK114.out 7).trans rfl; have hfz22_0 := blk_frozen BK114.out 0; have hfz22_1 := blk_frozen BK114.out 1; have hfz22_2 := blk_frozen BK114.out 2; have hfz22_3 := blk_frozen BK114.out 3; have hfz22_4 := blk_frozen BK114.out 4; have hfz22_5 := blk_frozen BK114.out 5; have hfz22_6 := blk_frozen BK114.out 6; have hfz22_7 := blk_frozen BK114.out 7; have hcz23_0 : w20.cell? ⟨gb115, 0, none⟩ = some (.int .i64 a2_0) := (blk_cell BK115.out 0).trans rfl; have hcz23_1 : w20.cell? ⟨gb115, 1, none⟩ = some (.string a2_1) := (blk_cell BK115.out 1).trans rfl; have hcz23_2 : w20.cell? ⟨gb115, 2, none⟩ = some (.string a2_2) := (blk_cell BK115.out 2).trans rfl; have hcz23_3 : w20.cell? ⟨gb115, 3, none⟩ = some (.int .i64 a2_3) := (blk_cell BK115.out 3).trans rfl; have hcz23_4 : w20.cell? ⟨gb115, 4, none⟩ = some (.int .u64 a2_4) := (blk_cell BK115.out 4).trans rfl; have hcz23_5 : w20.cell? ⟨gb115, 5, none⟩ = some (.int .u64 a2_5) := (blk_cell BK115.out 5).trans rfl; have hcz23_6 : w20.cell? ⟨gb115, 6, none⟩ = some (.slice A2_6 l2_6.length c2_6) := (blk_cell BK115.out 6).trans rfl; have hcz23_7 : w20.cell? ⟨gb115, 7, none⟩ = some (.slice A2_7 l2_7.length c2_7) := (blk_cell BK115.out 7).trans rfl; have hfz23_0 := blk_frozen BK115.out 0; have hfz23_1 := blk_frozen BK115.out 1; have hfz23_2 := blk_frozen BK115.out 2; have hfz23_3 := blk_frozen BK115.out 3; have hfz23_4 := blk_frozen BK115.out 4; have hfz23_5 := blk_frozen BK115.out 5; have hfz23_6 := blk_frozen BK115.out 6; have hfz23_7 := blk_frozen BK115.out 7))
                  go_ret
                  exact ⟨by first | rfl | (simp [errW_none, errW_some] <;> rfl) | (simp [*, errW_none, errW_some] <;> rfl), by repeat (first | (with_reducible first | exact HB.out | apply below_alloc | apply pw_below_drewN | apply below_drew1 | refine below_set ?_ GE114.out | refine below_set ?_ GE115.out) | exact HB.out)⟩
            · rw [if_neg c10] at H
              have c10b0 : (a0_3 == a2_3) = false := beq_eq_false_iff_ne.mpr c10
              have c10b1 : (a0_3 != a2_3) = true := bne_iff_ne.mpr c10
              as_aux_lemma =>
                obtain rfl := Option.some.inj H
                go_enter Try.func21, Try.ntmps21
                go_wp2_with (first | ((with_reducible refine gate_dst (N := 4) rfl ?_); refine box_event ?hg (N := 4) ?hd (cs := #[.int .i64 a0_0, .string a0_1, .string a0_2, .int .i64 a0_3, .int .u64 a0_4, .int .u64 a0_5, .slice A0_6 l0_6.length c0_6, .slice A0_7 l0_7.length c0_7]) (t := 37) ?hr ?_; (case hd => rfl); (case hg => rfl); (case hr => first | (go_simp; done) | (go_simp; rfl)); intro gb114 hg w24 hbox hb; have n0_ := Aside0.mk (below_step (by repeat (first | (with_reducible first | exact HB.out | apply below_alloc | apply pw_below_drewN | apply below_drew1) | exact HB.out)) hb); have n1_ := Aside0.mk (hbox); have n2_ := Aside0.mk ((by rw [hg]; exact (below_size (by repeat (first | (with_reducible first | exact HB.out | apply below_alloc | apply pw_below_drewN | apply below_drew1) | exact HB.out))) : w.heap.size ≤ gb114)); have n3_ := Aside0.mk ((by rw [hg]; exact (below_size (by repeat (first | (with_reducible first | exact HB.out | apply below_alloc | apply pw_below_drewN | apply below_drew1) | exact HB.out))) : w.heap.size ≤ gb114)); clear HB; have HB := n0_; have BK114 := n1_; have GW114 := n2_; have GE114 := n3_; clear n0_ n1_ n2_ n3_; clear hb hbox hg) | ((with_reducible refine gate_dst (N := 6) rfl ?_); refine box_event ?hg (N := 6) ?hd (cs := #[.int .i64 a2_0, .string a2_1, .string a2_2, .int .i64 a2_3, .int .u64 a2_4, .int .u64 a2_5, .slice A2_6 l2_6.length c2_6, .slice A2_7 l2_7.length c2_7]) (t := 37) ?hr ?_; (case hd => rfl); (case hg => rfl); (case hr => first | (go_simp; done) | (go_simp; rfl)); intro gb115 hg w25 hbox hb; have n0_ := Aside0.mk (blk_below (g := gb114) (o := .cells #[.int .i64 a0_0, .string a0_1, .string a0_2, .int .i64 a0_3, .int .u64 a0_4, .int .u64 a0_5, .slice A0_6 l0_6.length c0_6, .slice A0_7 l0_7.length c0_7] 37 (0, 0)) (by (with_reducible repeat (first | refine blk_drewN ?_ _ | refine blk_drew ?_ | refine blk_alloc ?_ _)); exact BK114.out) hb); have n1_ := Aside0.mk (below_step (by repeat (first | (with_reducible first | exact HB.out | apply below_alloc | apply pw_below_drewN | apply below_drew1 | refine below_set ?_ GE114.out) | exact HB.out)) hb); have n2_ := Aside0.mk (hbox); have n3_ := Aside0.mk ((by rw [hg]; exact (below_size (by repeat (first | (with_reducible first | exact HB.out | apply below_alloc | apply pw_below_drewN | apply below_drew1 | refine below_set ?_ GE114.out) | exact HB.out))) : w.heap.size ≤ gb115)); have n4_ := Aside0.mk ((by rw [hg]; exact (below_size (by repeat (first | (with_reducible first | exact HB.out | apply below_alloc | apply pw_below_drewN | apply below_drew1 | refine below_set ?_ GE114.out) | exact HB.out))) : w.heap.size ≤ gb115)); have n5_ := Aside0.mk ((by rw [hg]; exact Nat.ne_of_lt (blk_lt (g := gb114) (o := .cells #[.int .i64 a0_0, .string a0_1, .string a0_2, .int .i64 a0_3, .int .u64 a0_4, .int .u64 a0_5, .slice A0_6 l0_6.length c0_6, .slice A0_7 l0_7.length c0_7] 37 (0, 0)) (by (with_reducible repeat (first | refine blk_drewN ?_ _ | refine blk_drew ?_ | refine blk_alloc ?_ _)); exact BK114.out)) : gb114 ≠ gb115)); have n6_ := Aside0.mk ((by rw [hg]; exact Nat.ne_of_gt (blk_lt (g := gb114) (o := .cells #[.int .i64 a0_0, .string a0_1, .string a0_2, .int .i64 a0_3, .int .u64 a0_4, .int .u64 a0_5, .slice A0_6 l0_6.length c0_6, .slice A0_7 l0_7.length c0_7] 37 (0, 0)) (by (with_reducible repeat (first | refine blk_drewN ?_ _ | refine blk_drew ?_ | refine blk_alloc ?_ _)); exact BK114.out)) : gb115 ≠ gb114)); clear BK114; clear HB; have BK114 := n0_; have HB := n1_; have BK115 := n2_; have GW115 := n3_; have GE115 := n4_; have NB114_115 := n5_; have NB115_114 := n6_; clear n0_ n1_ n2_ n3_ n4_ n5_ n6_; clear hb hbox hg; have hnb26 := NB114_115.out; have hnc26 := NB115_114.out; have hcz27_0 : w25.cell? ⟨gb114, 0, none⟩ = some (.int .i64 a0_0) := (blk_cell BK114.out 0).trans rfl; have hcz27_1 : w25.cell? ⟨gb114, 1, none⟩ = some (.string a0_1) := (blk_cell BK114.out 1).trans rfl; have hcz27_2 : w25.cell? ⟨gb114, 2, none⟩ = some (.string a0_2) := (blk_cell BK114.out 2).trans rfl; have hcz27_3 : w25.cell? ⟨gb114, 3, none⟩ = some (.int .i64 a0_3) := (blk_cell BK114.out 3).trans rfl; have hcz27_4 : w25.cell? ⟨gb114, 4, none⟩ = some (.int .u64 a0_4) := (blk_cell BK114.out 4).trans rfl; have hcz27_5 : w25.cell? ⟨gb114, 5, none⟩ = some (.int .u64 a0_5) := (blk_cell BK114.out 5).trans rfl; have hcz27_6 : w25.cell? ⟨gb114, 6, none⟩ = some (.slice A0_6 l0_6.length c0_6) := (blk_cell BK114.out 6).trans rfl; have hcz27_7 : w25.cell? ⟨gb114, 7, none⟩ = some (.slice A0_7 l0_7.length c0_7) := (blk_cell BK114.out 7).trans rfl; have hfz27_0 := blk_frozen BK114.out 0; have hfz27_1 := blk_frozen BK114.out 1; have hfz27_2 := blk_frozen BK114.out 2; have hfz27_3 := blk_frozen BK114.out 3; have hfz27_4 := blk_frozen BK114.out 4; have hfz27_5 := blk_frozen BK114.out 5; have hfz27_6 := blk_frozen BK114.out 6; have hfz27_7 := blk_frozen BK114.out 7; have hcz28_0 : w25.cell? ⟨gb115, 0, none⟩ = some (.int .i64 a2_0) := (blk_cell BK115.out 0).trans rfl; have hcz28_1 : w25.cell? ⟨gb115, 1, none⟩ = some (.string a2_1) := (blk_cell BK115.out 1).trans rfl; have hcz28_2 : w25.cell? ⟨gb115, 2, none⟩ = some (.string a2_2) := (blk_cell BK115.out 2).trans rfl; have hcz28_3 : w25.cell? ⟨gb115, 3, none⟩ = some (.int .i64 a2_3) := (blk_cell BK115.out 3).trans rfl; have hcz28_4 : w25.cell? ⟨gb115, 4, none⟩ = some (.int .u64 a2_4) := (blk_cell BK115.out 4).trans rfl; have hcz28_5 : w25.cell? ⟨gb115, 5, none⟩ = some (.int .u64 a2_5) := (blk_cell BK115.out 5).trans rfl; have hcz28_6 : w25.cell? ⟨gb115, 6, none⟩ = some (.slice A2_6 l2_6.length c2_6) := (blk_cell BK115.out 6).trans rfl; have hcz28_7 : w25.cell? ⟨gb115, 7, none⟩ = some (.slice A2_7 l2_7.length c2_7) := (blk_cell BK115.out 7).trans rfl; have hfz28_0 := blk_frozen BK115.out 0; have hfz28_1 := blk_frozen BK115.out 1; have hfz28_2 := blk_frozen BK115.out 2; have hfz28_3 := blk_frozen BK115.out 3; have hfz28_4 := blk_frozen BK115.out 4; have hfz28_5 := blk_frozen BK115.out 5; have hfz28_6 := blk_frozen BK115.out 6; have hfz28_7 := blk_frozen BK115.out 7))
                go_ret
                exact ⟨by first | rfl | (simp [errW_none, errW_some] <;> rfl) | (simp [*, errW_none, errW_some] <;> rfl), by repeat (first | (with_reducible first | exact HB.out | apply below_alloc | apply pw_below_drewN | apply below_drew1 | refine below_set ?_ GE114.out | refine below_set ?_ GE115.out) | exact HB.out)⟩
          · rw [if_neg c9] at H
            have c9b0 : (a0_2.toList == a2_2.toList) = false := beq_eq_false_iff_ne.mpr c9
            have c9b1 : (a0_2.toList != a2_2.toList) = true := bne_iff_ne.mpr c9
            as_aux_lemma =>
              obtain rfl := Option.some.inj H
              go_enter Try.func21, Try.ntmps21
              go_wp2_with (first | ((with_reducible refine gate_dst (N := 4) rfl ?_); refine box_event ?hg (N := 4) ?hd (cs := #[.int .i64 a0_0, .string a0_1, .string a0_2, .int .i64 a0_3, .int .u64 a0_4, .int .u64 a0_5, .slice A0_6 l0_6.length c0_6, .slice A0_7 l0_7.length c0_7]) (t := 37) ?hr ?_; (case hd => rfl); (case hg => rfl); (case hr => first | (go_simp; done) | (go_simp; rfl)); intro gb114 hg w29 hbox hb; have n0_ := Aside0.mk (below_step (by repeat (first | (with_reducible first | exact HB.out | apply below_alloc | apply pw_below_drewN | apply below_drew1) | exact HB.out)) hb); have n1_ := Aside0.mk (hbox); have n2_ := Aside0.mk ((by rw [hg]; exact (below_size (by repeat (first | (with_reducible first | exact HB.out | apply below_alloc | apply pw_below_drewN | apply below_drew1) | exact HB.out))) : w.heap.size ≤ gb114)); have n3_ := Aside0.mk ((by rw [hg]; exact (below_size (by repeat (first | (with_reducible first | exact HB.out | apply below_alloc | apply pw_below_drewN | apply below_drew1) | exact HB.out))) : w.heap.size ≤ gb114)); clear HB; have HB := n0_; have BK114 := n1_; have GW114 := n2_; have GE114 := n3_; clear n0_ n1_ n2_ n3_; clear hb hbox hg) | ((with_reducible refine gate_dst (N := 6) rfl ?_); refine box_event ?hg (N := 6) ?hd (cs := #[.int .i64 a2_0, .string a2_1, .string a2_2, .int .i64 a2_3, .int .u64 a2_4, .int .u64 a2_5, .slice A2_6 l2_6.length c2_6, .slice A2_7 l2_7.length c2_7]) (t := 37) ?hr ?_; (case hd => rfl); (case hg => rfl); (case hr => first | (go_simp; done) | (go_simp; rfl)); intro gb115 hg w30 hbox hb; have n0_ := Aside0.mk (blk_below (g := gb114) (o := .cells #[.int .i64 a0_0, .string a0_1, .string a0_2, .int .i64 a0_3, .int .u64 a0_4, .int .u64 a0_5, .slice A0_6 l0_6.length c0_6, .slice A0_7 l0_7.length c0_7] 37 (0, 0)) (by (with_reducible repeat (first | refine blk_drewN ?_ _ | refine blk_drew ?_ | refine blk_alloc ?_ _)); exact BK114.out) hb); have n1_ := Aside0.mk (below_step (by repeat (first | (with_reducible first | exact HB.out | apply below_alloc | apply pw_below_drewN | apply below_drew1 | refine below_set ?_ GE114.out) | exact HB.out)) hb); have n2_ := Aside0.mk (hbox); have n3_ := Aside0.mk ((by rw [hg]; exact (below_size (by repeat (first | (with_reducible first | exact HB.out | apply below_alloc | apply pw_below_drewN | apply below_drew1 | refine below_set ?_ GE114.out) | exact HB.out))) : w.heap.size ≤ gb115)); have n4_ := Aside0.mk ((by rw [hg]; exact (below_size (by repeat (first | (with_reducible first | exact HB.out | apply below_alloc | apply pw_below_drewN | apply below_drew1 | refine below_set ?_ GE114.out) | exact HB.out))) : w.heap.size ≤ gb115)); have n5_ := Aside0.mk ((by rw [hg]; exact Nat.ne_of_lt (blk_lt (g := gb114) (o := .cells #[.int .i64 a0_0, .string a0_1, .string a0_2, .int .i64 a0_3, .int .u64 a0_4, .int .u64 a0_5, .slice A0_6 l0_6.length c0_6, .slice A0_7 l0_7.length c0_7] 37 (0, 0)) (by (with_reducible repeat (first | refine blk_drewN ?_ _ | refine blk_drew ?_ | refine blk_alloc ?_ _)); exact BK114.out)) : gb114 ≠ gb115)); have n6_ := Aside0.mk ((by rw [hg]; exact Nat.ne_of_gt (blk_lt (g := gb114) (o := .cells #[.int .i64 a0_0, .string a0_1, .string a0_2, .int .i64 a0_3, .int .u64 a0_4, .int .u64 a0_5, .slice A0_6 l0_6.length c0_6, .slice A0_7 l0_7.length c0_7] 37 (0, 0)) (by (with_reducible repeat (first | refine blk_drewN ?_ _ | refine blk_drew ?_ | refine blk_alloc ?_ _)); exact BK114.out)) : gb115 ≠ gb114)); clear BK114; clear HB; have BK114 := n0_; have HB := n1_; have BK115 := n2_; have GW115 := n3_; have GE115 := n4_; have NB114_115 := n5_; have NB115_114 := n6_; clear n0_ n1_ n2_ n3_ n4_ n5_ n6_; clear hb hbox hg; have hnb31 := NB114_115.out; have hnc31 := NB115_114.out; have hcz32_0 : w30.cell? ⟨gb114, 0, none⟩ = some (.int .i64 a0_0) := (blk_cell BK114.out 0).trans rfl; have hcz32_1 : w30.cell? ⟨gb114, 1, none⟩ = some (.string a0_1) := (blk_cell BK114.out 1).trans rfl; have hcz32_2 : w30.cell? ⟨gb114, 2, none⟩ = some (.string a0_2) := (blk_cell BK114.out 2).trans rfl; have hcz32_3 : w30.cell? ⟨gb114, 3, none⟩ = some (.int .i64 a0_3) := (blk_cell BK114.out 3).trans rfl; have hcz32_4 : w30.cell? ⟨gb114, 4, none⟩ = some (.int .u64 a0_4) := (blk_cell BK114.out 4).trans rfl; have hcz32_5 : w30.cell? ⟨gb114, 5, none⟩ = some (.int .u64 a0_5) := (blk_cell BK114.out 5).trans rfl; have hcz32_6 : w30.cell? ⟨gb114, 6, none⟩ = some (.slice A0_6 l0_6.length c0_6) := (blk_cell BK114.out 6).trans rfl; have hcz32_7 : w30.cell? ⟨gb114, 7, none⟩ = some (.slice A0_7 l0_7.length c0_7) := (blk_cell BK114.out 7).trans rfl; have hfz32_0 := blk_frozen BK114.out 0; have hfz32_1 := blk_frozen BK114.out 1; have hfz32_2 := blk_frozen BK114.out 2; have hfz32_3 := blk_frozen BK114.out 3; have hfz32_4 := blk_frozen BK114.out 4; have hfz32_5 := blk_frozen BK114.out 5; have hfz32_6 := blk_frozen BK114.out 6; have hfz32_7 := blk_frozen BK114.out 7; have hcz33_0 : w30.cell? ⟨gb115, 0, none⟩ = some (.int .i64 a2_0) := (blk_cell BK115.out 0).trans rfl; have hcz33_1 : w30.cell? ⟨gb115, 1, none⟩ = some (.string a2_1) := (blk_cell BK115.out 1).trans rfl; have hcz33_2 : w30.cell? ⟨gb115, 2, none⟩ = some (.string a2_2) := (blk_cell BK115.out 2).trans rfl; have hcz33_3 : w30.cell? ⟨gb115, 3, none⟩ = some (.int .i64 a2_3) := (blk_cell BK115.out 3).trans rfl; have hcz33_4 : w30.cell? ⟨gb115, 4, none⟩ = some (.int .u64 a2_4) := (blk_cell BK115.out 4).trans rfl; have hcz33_5 : w30.cell? ⟨gb115, 5, none⟩ = some (.int .u64 a2_5) := (blk_cell BK115.out 5).trans rfl; have hcz33_6 : w30.cell? ⟨gb115, 6, none⟩ = some (.slice A2_6 l2_6.length c2_6) := (blk_cell BK115.out 6).trans rfl; have hcz33_7 : w30.cell? ⟨gb115, 7, none⟩ = some (.slice A2_7 l2_7.length c2_7) := (blk_cell BK115.out 7).trans rfl; have hfz33_0 := blk_frozen BK115.out 0; have hfz33_1 := blk_frozen BK115.out 1; have hfz33_2 := blk_frozen BK115.out 2; have hfz33_3 := blk_frozen BK115.out 3; have hfz33_4 := blk_frozen BK115.out 4; have hfz33_5 := blk_frozen BK115.out 5; have hfz33_6 := blk_frozen BK115.out 6; have hfz33_7 := blk_frozen BK115.out 7))
              go_ret
              exact ⟨by first | rfl | (simp [errW_none, errW_some] <;> rfl) | (simp [*, errW_none, errW_some] <;> rfl), by repeat (first | (with_reducible first | exact HB.out | apply below_alloc | apply pw_below_drewN | apply below_drew1 | refine below_set ?_ GE114.out | refine below_set ?_ GE115.out) | exact HB.out)⟩
        · rw [if_neg c8] at H
          have c8b0 : (a0_1.toList == a2_1.toList) = false := beq_eq_false_iff_ne.mpr c8
          have c8b1 : (a0_1.toList != a2_1.toList) = true := bne_iff_ne.mpr c8
          as_aux_lemma =>
            obtain rfl := Option.some.inj H
            go_enter Try.func21, Try.ntmps21
            go_wp2_with (first | ((with_reducible refine gate_dst (N := 4) rfl ?_); refine box_event ?hg (N := 4) ?hd (cs := #[.int .i64 a0_0, .string a0_1, .string a0_2, .int .i64 a0_3, .int .u64 a0_4, .int .u64 a0_5, .slice A0_6 l0_6.length c0_6, .slice A0_7 l0_7.length c0_7]) (t := 37) ?hr ?_; (case hd => rfl); (case hg => rfl); (case hr => first | (go_simp; done) | (go_simp; rfl)); intro gb114 hg w34 hbox hb; have n0_ := Aside0.mk (below_step (by repeat (first | (with_reducible first | exact HB.out | apply below_alloc | apply pw_below_drewN | apply below_drew1) | exact HB.out)) hb); have n1_ := Aside0.mk (hbox); have n2_ := Aside0.mk ((by rw [hg]; exact (below_size (by repeat (first | (with_reducible first | exact HB.out | apply below_alloc | apply pw_below_drewN | apply below_drew1) | exact HB.out))) : w.heap.size ≤ gb114)); have n3_ := Aside0.mk ((by rw [hg]; exact (below_size (by repeat (first | (with_reducible first | exact HB.out | apply below_alloc | apply pw_below_drewN | apply below_drew1) | exact HB.out))) : w.heap.size ≤ gb114)); clear HB; have HB := n0_; have BK114 := n1_; have GW114 := n2_; have GE114 := n3_; clear n0_ n1_ n2_ n3_; clear hb hbox hg) | ((with_reducible refine gate_dst (N := 6) rfl ?_); refine box_event ?hg (N := 6) ?hd (cs := #[.int .i64 a2_0, .string a2_1, .string a2_2, .int .i64 a2_3, .int .u64 a2_4, .int .u64 a2_5, .slice A2_6 l2_6.length c2_6, .slice A2_7 l2_7.length c2_7]) (t := 37) ?hr ?_; (case hd => rfl); (case hg => rfl); (case hr => first | (go_simp; done) | (go_simp; rfl)); intro gb115 hg w35 hbox hb; have n0_ := Aside0.mk (blk_below (g := gb114) (o := .cells #[.int .i64 a0_0, .string a0_1, .string a0_2, .int .i64 a0_3, .int .u64 a0_4, .int .u64 a0_5, .slice A0_6 l0_6.length c0_6, .slice A0_7 l0_7.length c0_7] 37 (0, 0)) (by (with_reducible repeat (first | refine blk_drewN ?_ _ | refine blk_drew ?_ | refine blk_alloc ?_ _)); exact BK114.out) hb); have n1_ := Aside0.mk (below_step (by repeat (first | (with_reducible first | exact HB.out | apply below_alloc | apply pw_below_drewN | apply below_drew1 | refine below_set ?_ GE114.out) | exact HB.out)) hb); have n2_ := Aside0.mk (hbox); have n3_ := Aside0.mk ((by rw [hg]; exact (below_size (by repeat (first | (with_reducible first | exact HB.out | apply below_alloc | apply pw_below_drewN | apply below_drew1 | refine below_set ?_ GE114.out) | exact HB.out))) : w.heap.size ≤ gb115)); have n4_ := Aside0.mk ((by rw [hg]; exact (below_size (by repeat (first | (with_reducible first | exact HB.out | apply below_alloc | apply pw_below_drewN | apply below_drew1 | refine below_set ?_ GE114.out) | exact HB.out))) : w.heap.size ≤ gb115)); have n5_ := Aside0.mk ((by rw [hg]; exact Nat.ne_of_lt (blk_lt (g := gb114) (o := .cells #[.int .i64 a0_0, .string a0_1, .string a0_2, .int .i64 a0_3, .int .u64 a0_4, .int .u64 a0_5, .slice A0_6 l0_6.length c0_6, .slice A0_7 l0_7.length c0_7] 37 (0, 0)) (by (with_reducible repeat (first | refine blk_drewN ?_ _ | refine blk_drew ?_ | refine blk_alloc ?_ _)); exact BK114.out)) : gb114 ≠ gb115)); have n6_ := Aside0.mk ((by rw [hg]; exact Nat.ne_of_gt (blk_lt (g := gb114) (o := .cells #[.int .i64 a0_0, .string a0_1, .string a0_2, .int .i64 a0_3, .int .u64 a0_4, .int .u64 a0_5, .slice A0_6 l0_6.length c0_6, .slice A0_7 l0_7.length c0_7] 37 (0, 0)) (by (with_reducible repeat (first | refine blk_drewN ?_ _ | refine blk_drew ?_ | refine blk_alloc ?_ _)); exact BK114.out)) : gb115 ≠ gb114)); clear BK114; clear HB; have BK114 := n0_; have HB := n1_; have BK115 := n2_; have GW115 := n3_; have GE115 := n4_; have NB114_115 := n5_; have NB115_114 := n6_; clear n0_ n1_ n2_ n3_ n4_ n5_ n6_; clear hb hbox hg; have hnb36 := NB114_115.out; have hnc36 := NB115_114.out; have hcz37_0 : w35.cell? ⟨gb114, 0, none⟩ = some (.int .i64 a0_0) := (blk_cell BK114.out 0).trans rfl; have hcz37_1 : w35.cell? ⟨gb114, 1, none⟩ = some (.string a0_1) := (blk_cell BK114.out 1).trans rfl; have hcz37_2 : w35.cell? ⟨gb114, 2, none⟩ = some (.string a0_2) := (blk_cell BK114.out 2).trans rfl; have hcz37_3 : w35.cell? ⟨gb114, 3, none⟩ = some (.int .i64 a0_3) := (blk_cell BK114.out 3).trans rfl; have hcz37_4 : w35.cell? ⟨gb114, 4, none⟩ = some (.int .u64 a0_4) := (blk_cell BK114.out 4).trans rfl; have hcz37_5 : w35.cell? ⟨gb114, 5, none⟩ = some (.int .u64 a0_5) := (blk_cell BK114.out 5).trans rfl; have hcz37_6 : w35.cell? ⟨gb114, 6, none⟩ = some (.slice A0_6 l0_6.length c0_6) := (blk_cell BK114.out 6).trans rfl; have hcz37_7 : w35.cell? ⟨gb114, 7, none⟩ = some (.slice A0_7 l0_7.length c0_7) := (blk_cell BK114.out 7).trans rfl; have hfz37_0 := blk_frozen BK114.out 0; have hfz37_1 := blk_frozen BK114.out 1; have hfz37_2 := blk_frozen BK114.out 2; have hfz37_3 := blk_frozen BK114.out 3; have hfz37_4 := blk_frozen BK114.out 4; have hfz37_5 := blk_frozen BK114.out 5; have hfz37_6 := blk_frozen BK114.out 6; have hfz37_7 := blk_frozen BK114.out 7; have hcz38_0 : w35.cell? ⟨gb115, 0, none⟩ = some (.int .i64 a2_0) := (blk_cell BK115.out 0).trans rfl; have hcz38_1 : w35.cell? ⟨gb115, 1, none⟩ = some (.string a2_1) := (blk_cell BK115.out 1).trans rfl; have hcz38_2 : w35.cell? ⟨gb115, 2, none⟩ = some (.string a2_2) := (blk_cell BK115.out 2).trans rfl; have hcz38_3 : w35.cell? ⟨gb115, 3, none⟩ = some (.int .i64 a2_3) := (blk_cell BK115.out 3).trans rfl; have hcz38_4 : w35.cell? ⟨gb115, 4, none⟩ = some (.int .u64 a2_4) := (blk_cell BK115.out 4).trans rfl; have hcz38_5 : w35.cell? ⟨gb115, 5, none⟩ = some (.int .u64 a2_5) := (blk_cell BK115.out 5).trans rfl; have hcz38_6 : w35.cell? ⟨gb115, 6, none⟩ = some (.slice A2_6 l2_6.length c2_6) := (blk_cell BK115.out 6).trans rfl; have hcz38_7 : w35.cell? ⟨gb115, 7, none⟩ = some (.slice A2_7 l2_7.length c2_7) := (blk_cell BK115.out 7).trans rfl; have hfz38_0 := blk_frozen BK115.out 0; have hfz38_1 := blk_frozen BK115.out 1; have hfz38_2 := blk_frozen BK115.out 2; have hfz38_3 := blk_frozen BK115.out 3; have hfz38_4 := blk_frozen BK115.out 4; have hfz38_5 := blk_frozen BK115.out 5; have hfz38_6 := blk_frozen BK115.out 6; have hfz38_7 := blk_frozen BK115.out 7))
            go_ret
            exact ⟨by first | rfl | (simp [errW_none, errW_some] <;> rfl) | (simp [*, errW_none, errW_some] <;> rfl), by repeat (first | (with_reducible first | exact HB.out | apply below_alloc | apply pw_below_drewN | apply below_drew1 | refine below_set ?_ GE114.out | refine below_set ?_ GE115.out) | exact HB.out)⟩
      · rw [if_neg c7] at H
        have c7b0 : (a0_0 == a2_0) = false := beq_eq_false_iff_ne.mpr c7
        have c7b1 : (a0_0 != a2_0) = true := bne_iff_ne.mpr c7
        as_aux_lemma =>
          obtain rfl := Option.some.inj H
          go_enter Try.func21, Try.ntmps21
          go_wp2_with (first | ((with_reducible refine gate_dst (N := 4) rfl ?_); refine box_event ?hg (N := 4) ?hd (cs := #[.int .i64 a0_0, .string a0_1, .string a0_2, .int .i64 a0_3, .int .u64 a0_4, .int .u64 a0_5, .slice A0_6 l0_6.length c0_6, .slice A0_7 l0_7.length c0_7]) (t := 37) ?hr ?_; (case hd => rfl); (case hg => rfl); (case hr => first | (go_simp; done) | (go_simp; rfl)); intro gb114 hg w39 hbox hb; have n0_ := Aside0.mk (below_step (by repeat (first | (with_reducible first | exact HB.out | apply below_alloc | apply pw_below_drewN | apply below_drew1) | exact HB.out)) hb); have n1_ := Aside0.mk (hbox); have n2_ := Aside0.mk ((by rw [hg]; exact (below_size (by repeat (first | (with_reducible first | exact HB.out | apply below_alloc | apply pw_below_drewN | apply below_drew1) | exact HB.out))) : w.heap.size ≤ gb114)); have n3_ := Aside0.mk ((by rw [hg]; exact (below_size (by repeat (first | (with_reducible first | exact HB.out | apply below_alloc | apply pw_below_drewN | apply below_drew1) | exact HB.out))) : w.heap.size ≤ gb114)); clear HB; have HB := n0_; have BK114 := n1_; have GW114 := n2_; have GE114 := n3_; clear n0_ n1_ n2_ n3_; clear hb hbox hg) | ((with_reducible refine gate_dst (N := 6) rfl ?_); refine box_event ?hg (N := 6) ?hd (cs := #[.int .i64 a2_0, .string a2_1, .string a2_2, .int .i64 a2_3, .int .u64 a2_4, .int .u64 a2_5, .slice A2_6 l2_6.length c2_6, .slice A2_7 l2_7.length c2_7]) (t := 37) ?hr ?_; (case hd => rfl); (case hg => rfl); (case hr => first | (go_simp; done) | (go_simp; rfl)); intro gb115 hg w40 hbox hb; have n0_ := Aside0.mk (blk_below (g := gb114) (o := .cells #[.int .i64 a0_0, .string a0_1, .string a0_2, .int .i64 a0_3, .int .u64 a0_4, .int .u64 a0_5, .slice A0_6 l0_6.length c0_6, .slice A0_7 l0_7.length c0_7] 37 (0, 0)) (by (with_reducible repeat (first | refine blk_drewN ?_ _ | refine blk_drew ?_ | refine blk_alloc ?_ _)); exact BK114.out) hb); have n1_ := Aside0.mk (below_step (by repeat (first | (with_reducible first | exact HB.out | apply below_alloc | apply pw_below_drewN | apply below_drew1 | refine below_set ?_ GE114.out) | exact HB.out)) hb); have n2_ := Aside0.mk (hbox); have n3_ := Aside0.mk ((by rw [hg]; exact (below_size (by repeat (first | (with_reducible first | exact HB.out | apply below_alloc | apply pw_below_drewN | apply below_drew1 | refine below_set ?_ GE114.out) | exact HB.out))) : w.heap.size ≤ gb115)); have n4_ := Aside0.mk ((by rw [hg]; exact (below_size (by repeat (first | (with_reducible first | exact HB.out | apply below_alloc | apply pw_below_drewN | apply below_drew1 | refine below_set ?_ GE114.out) | exact HB.out))) : w.heap.size ≤ gb115)); have n5_ := Aside0.mk ((by rw [hg]; exact Nat.ne_of_lt (blk_lt (g := gb114) (o := .cells #[.int .i64 a0_0, .string a0_1, .string a0_2, .int .i64 a0_3, .int .u64 a0_4, .int .u64 a0_5, .slice A0_6 l0_6.length c0_6, .slice A0_7 l0_7.length c0_7] 37 (0, 0)) (by (with_reducible repeat (first | refine blk_drewN ?_ _ | refine blk_drew ?_ | refine blk_alloc ?_ _)); exact BK114.out)) : gb114 ≠ gb115)); have n6_ := Aside0.mk ((by rw [hg]; exact Nat.ne_of_gt (blk_lt (g := gb114) (o := .cells #[.int .i64 a0_0, .string a0_1, .string a0_2, .int .i64 a0_3, .int .u64 a0_4, .int .u64 a0_5, .slice A0_6 l0_6.length c0_6, .slice A0_7 l0_7.length c0_7] 37 (0, 0)) (by (with_reducible repeat (first | refine blk_drewN ?_ _ | refine blk_drew ?_ | refine blk_alloc ?_ _)); exact BK114.out)) : gb115 ≠ gb114)); clear BK114; clear HB; have BK114 := n0_; have HB := n1_; have BK115 := n2_; have GW115 := n3_; have GE115 := n4_; have NB114_115 := n5_; have NB115_114 := n6_; clear n0_ n1_ n2_ n3_ n4_ n5_ n6_; clear hb hbox hg; have hnb41 := NB114_115.out; have hnc41 := NB115_114.out; have hcz42_0 : w40.cell? ⟨gb114, 0, none⟩ = some (.int .i64 a0_0) := (blk_cell BK114.out 0).trans rfl; have hcz42_1 : w40.cell? ⟨gb114, 1, none⟩ = some (.string a0_1) := (blk_cell BK114.out 1).trans rfl; have hcz42_2 : w40.cell? ⟨gb114, 2, none⟩ = some (.string a0_2) := (blk_cell BK114.out 2).trans rfl; have hcz42_3 : w40.cell? ⟨gb114, 3, none⟩ = some (.int .i64 a0_3) := (blk_cell BK114.out 3).trans rfl; have hcz42_4 : w40.cell? ⟨gb114, 4, none⟩ = some (.int .u64 a0_4) := (blk_cell BK114.out 4).trans rfl; have hcz42_5 : w40.cell? ⟨gb114, 5, none⟩ = some (.int .u64 a0_5) := (blk_cell BK114.out 5).trans rfl; have hcz42_6 : w40.cell? ⟨gb114, 6, none⟩ = some (.slice A0_6 l0_6.length c0_6) := (blk_cell BK114.out 6).trans rfl; have hcz42_7 : w40.cell? ⟨gb114, 7, none⟩ = some (.slice A0_7 l0_7.length c0_7) := (blk_cell BK114.out 7).trans rfl; have hfz42_0 := blk_frozen BK114.out 0; have hfz42_1 := blk_frozen BK114.out 1; have hfz42_2 := blk_frozen BK114.out 2; have hfz42_3 := blk_frozen BK114.out 3; have hfz42_4 := blk_frozen BK114.out 4; have hfz42_5 := blk_frozen BK114.out 5; have hfz42_6 := blk_frozen BK114.out 6; have hfz42_7 := blk_frozen BK114.out 7; have hcz43_0 : w40.cell? ⟨gb115, 0, none⟩ = some (.int .i64 a2_0) := (blk_cell BK115.out 0).trans rfl; have hcz43_1 : w40.cell? ⟨gb115, 1, none⟩ = some (.string a2_1) := (blk_cell BK115.out 1).trans rfl; have hcz43_2 : w40.cell? ⟨gb115, 2, none⟩ = some (.string a2_2) := (blk_cell BK115.out 2).trans rfl; have hcz43_3 : w40.cell? ⟨gb115, 3, none⟩ = some (.int .i64 a2_3) := (blk_cell BK115.out 3).trans rfl; have hcz43_4 : w40.cell? ⟨gb115, 4, none⟩ = some (.int .u64 a2_4) := (blk_cell BK115.out 4).trans rfl; have hcz43_5 : w40.cell? ⟨gb115, 5, none⟩ = some (.int .u64 a2_5) := (blk_cell BK115.out 5).trans rfl; have hcz43_6 : w40.cell? ⟨gb115, 6, none⟩ = some (.slice A2_6 l2_6.length c2_6) := (blk_cell BK115.out 6).trans rfl; have hcz43_7 : w40.cell? ⟨gb115, 7, none⟩ = some (.slice A2_7 l2_7.length c2_7) := (blk_cell BK115.out 7).trans rfl; have hfz43_0 := blk_frozen BK115.out 0; have hfz43_1 := blk_frozen BK115.out 1; have hfz43_2 := blk_frozen BK115.out 2; have hfz43_3 := blk_frozen BK115.out 3; have hfz43_4 := blk_frozen BK115.out 4; have hfz43_5 := blk_frozen BK115.out 5; have hfz43_6 := blk_frozen BK115.out 6; have hfz43_7 := blk_frozen BK115.out 7))
          go_ret
          exact ⟨by first | rfl | (simp [errW_none, errW_some] <;> rfl) | (simp [*, errW_none, errW_some] <;> rfl), by repeat (first | (with_reducible first | exact HB.out | apply below_alloc | apply pw_below_drewN | apply below_drew1 | refine below_set ?_ GE114.out | refine below_set ?_ GE115.out) | exact HB.out)⟩
    · replace c6 := Bool.eq_false_iff.mpr c6
      subst c6
      have H1 : (some true) = some r := by rw [if_neg (show ¬ (false = true) by decide)] at H; exact H
      clear H
      have H := H1
      clear H1
      as_aux_lemma =>
        obtain rfl := Option.some.inj H
        go_enter Try.func21, Try.ntmps21
        go_wp2_with (first | ((with_reducible refine gate_dst (N := 4) rfl ?_); refine box_event ?hg (N := 4) ?hd (cs := #[.int .i64 a0_0, .string a0_1, .string a0_2, .int .i64 a0_3, .int .u64 a0_4, .int .u64 a0_5, .slice A0_6 l0_6.length c0_6, .slice A0_7 l0_7.length c0_7]) (t := 37) ?hr ?_; (case hd => rfl); (case hg => rfl); (case hr => first | (go_simp; done) | (go_simp; rfl)); intro gb114 hg w44 hbox hb; have n0_ := Aside0.mk (below_step (by repeat (first | (with_reducible first | exact HB.out | apply below_alloc | apply pw_below_drewN | apply below_drew1) | exact HB.out)) hb); have n1_ := Aside0.mk (hbox); have n2_ := Aside0.mk ((by rw [hg]; exact (below_size (by repeat (first | (with_reducible first | exact HB.out | apply below_alloc | apply pw_below_drewN | apply below_drew1) | exact HB.out))) : w.heap.size ≤ gb114)); have n3_ := Aside0.mk ((by rw [hg]; exact (below_size (by repeat (first | (with_reducible first | exact HB.out | apply below_alloc | apply pw_below_drewN | apply below_drew1) | exact HB.out))) : w.heap.size ≤ gb114)); clear HB; have HB := n0_; have BK114 := n1_; have GW114 := n2_; have GE114 := n3_; clear n0_ n1_ n2_ n3_; clear hb hbox hg) | ((with_reducible refine gate_dst (N := 6) rfl ?_); refine box_event ?hg (N := 6) ?hd (cs := #[.int .i64 a2_0, .string a2_1, .string a2_2, .int .i64 a2_3, .int .u64 a2_4, .int .u64 a2_5, .slice A2_6 l2_6.length c2_6, .slice A2_7 l2_7.length c2_7]) (t := 37) ?hr ?_; (case hd => rfl); (case hg => rfl); (case hr => first | (go_simp; done) | (go_simp; rfl)); intro gb115 hg w45 hbox hb; have n0_ := Aside0.mk (blk_below (g := gb114) (o := .cells #[.int .i64 a0_0, .string a0_1, .string a0_2, .int .i64 a0_3, .int .u64 a0_4, .int .u64 a0_5, .slice A0_6 l0_6.length c0_6, .slice A0_7 l0_7.length c0_7] 37 (0, 0)) (by (with_reducible repeat (first | refine blk_drewN ?_ _ | refine blk_drew ?_ | refine blk_alloc ?_ _)); exact BK114.out) hb); have n1_ := Aside0.mk (below_step (by repeat (first | (with_reducible first | exact HB.out | apply below_alloc | apply pw_below_drewN | apply below_drew1 | refine below_set ?_ GE114.out) | exact HB.out)) hb); have n2_ := Aside0.mk (hbox); have n3_ := Aside0.mk ((by rw [hg]; exact (below_size (by repeat (first | (with_reducible first | exact HB.out | apply below_alloc | apply pw_below_drewN | apply below_drew1 | refine below_set ?_ GE114.out) | exact HB.out))) : w.heap.size ≤ gb115)); have n4_ := Aside0.mk ((by rw [hg]; exact (below_size (by repeat (first | (with_reducible first | exact HB.out | apply below_alloc | apply pw_below_drewN | apply below_drew1 | refine below_set ?_ GE114.out) | exact HB.out))) : w.heap.size ≤ gb115)); have n5_ := Aside0.mk ((by rw [hg]; exact Nat.ne_of_lt (blk_lt (g := gb114) (o := .cells #[.int .i64 a0_0, .string a0_1, .string a0_2, .int .i64 a0_3, .int .u64 a0_4, .int .u64 a0_5, .slice A0_6 l0_6.length c0_6, .slice A0_7 l0_7.length c0_7] 37 (0, 0)) (by (with_reducible repeat (first | refine blk_drewN ?_ _ | refine blk_drew ?_ | refine blk_alloc ?_ _)); exact BK114.out)) : gb114 ≠ gb115)); have n6_ := Aside0.mk ((by rw [hg]; exact Nat.ne_of_gt (blk_lt (g := gb114) (o := .cells #[.int .i64 a0_0, .string a0_1, .string a0_2, .int .i64 a0_3, .int .u64 a0_4, .int .u64 a0_5, .slice A0_6 l0_6.length c0_6, .slice A0_7 l0_7.length c0_7] 37 (0, 0)) (by (with_reducible repeat (first | refine blk_drewN ?_ _ | refine blk_drew ?_ | refine blk_alloc ?_ _)); exact BK114.out)) : gb115 ≠ gb114)); clear BK114; clear HB; have BK114 := n0_; have HB := n1_; have BK115 := n2_; have GW115 := n3_; have GE115 := n4_; have NB114_115 := n5_; have NB115_114 := n6_; clear n0_ n1_ n2_ n3_ n4_ n5_ n6_; clear hb hbox hg))
        go_ret
        exact ⟨by first | rfl | (simp [errW_none, errW_some] <;> rfl) | (simp [*, errW_none, errW_some] <;> rfl), by repeat (first | (with_reducible first | exact HB.out | apply below_alloc | apply pw_below_drewN | apply below_drew1 | refine below_set ?_ GE114.out | refine below_set ?_ GE115.out) | exact HB.out)⟩
  · rw [if_neg c5] at H
    have c5b0 : (a1 == a3) = false := by simpa using c5
    (try (have c5b1 : decide (a1 = a3) = false := by simpa using c5))
    (try (have c5b2 : (a1 == a3) = false := by simpa using c5))
    (try (have c5b3 : ¬ (a1 = a3) := by simpa using c5))
    clear c5
    as_aux_lemma =>
      obtain rfl := Option.some.inj H
      go_enter Try.func21, Try.ntmps21
      go_wp2_with (first | ((with_reducible refine gate_dst (N := 4) rfl ?_); refine box_event ?hg (N := 4) ?hd (cs := #[.int .i64 a0_0, .string a0_1, .string a0_2, .int .i64 a0_3, .int .u64 a0_4, .int .u64 a0_5, .slice A0_6 l0_6.length c0_6, .slice A0_7 l0_7.length c0_7]) (t := 37) ?hr ?_; (case hd => rfl); (case hg => rfl); (case hr => first | (go_simp; done) | (go_simp; rfl)); intro gb114 hg w46 hbox hb; have n0_ := Aside0.mk (below_step (by repeat (first | (with_reducible first | exact HB.out | apply below_alloc | apply pw_below_drewN | apply below_drew1) | exact HB.out)) hb); have n1_ := Aside0.mk (hbox); have n2_ := Aside0.mk ((by rw [hg]; exact (below_size (by repeat (first | (with_reducible first | exact HB.out | apply below_alloc | apply pw_below_drewN | apply below_drew1) | exact HB.out))) : w.heap.size ≤ gb114)); have n3_ := Aside0.mk ((by rw [hg]; exact (below_size (by repeat (first | (with_reducible first | exact HB.out | apply below_alloc | apply pw_below_drewN | apply below_drew1) | exact HB.out))) : w.heap.size ≤ gb114)); clear HB; have HB := n0_; have BK114 := n1_; have GW114 := n2_; have GE114 := n3_; clear n0_ n1_ n2_ n3_; clear hb hbox hg) | ((with_reducible refine gate_dst (N := 6) rfl ?_); refine box_event ?hg (N := 6) ?hd (cs := #[.int .i64 a2_0, .string a2_1, .string a2_2, .int .i64 a2_3, .int .u64 a2_4, .int .u64 a2_5, .slice A2_6 l2_6.length c2_6, .slice A2_7 l2_7.length c2_7]) (t := 37) ?hr ?_; (case hd => rfl); (case hg => rfl); (case hr => first | (go_simp; done) | (go_simp; rfl)); intro gb115 hg w47 hbox hb; have n0_ := Aside0.mk (blk_below (g := gb114) (o := .cells #[.int .i64 a0_0, .string a0_1, .string a0_2, .int .i64 a0_3, .int .u64 a0_4, .int .u64 a0_5, .slice A0_6 l0_6.length c0_6, .slice A0_7 l0_7.length c0_7] 37 (0, 0)) (by (with_reducible repeat (first | refine blk_drewN ?_ _ | refine blk_drew ?_ | refine blk_alloc ?_ _)); exact BK114.out) hb); have n1_ := Aside0.mk (below_step (by repeat (first | (with_reducible first | exact HB.out | apply below_alloc | apply pw_below_drewN | apply below_drew1 | refine below_set ?_ GE114.out) | exact HB.out)) hb); have n2_ := Aside0.mk (hbox); have n3_ := Aside0.mk ((by rw [hg]; exact (below_size (by repeat (first | (with_reducible first | exact HB.out | apply below_alloc | apply pw_below_drewN | apply below_drew1 | refine below_set ?_ GE114.out) | exact HB.out))) : w.heap.size ≤ gb115)); have n4_ := Aside0.mk ((by rw [hg]; exact (below_size (by repeat (first | (with_reducible first | exact HB.out | apply below_alloc | apply pw_below_drewN | apply below_drew1 | refine below_set ?_ GE114.out) | exact HB.out))) : w.heap.size ≤ gb115)); have n5_ := Aside0.mk ((by rw [hg]; exact Nat.ne_of_lt (blk_lt (g := gb114) (o := .cells #[.int .i64 a0_0, .string a0_1, .string a0_2, .int .i64 a0_3, .int .u64 a0_4, .int .u64 a0_5, .slice A0_6 l0_6.length c0_6, .slice A0_7 l0_7.length c0_7] 37 (0, 0)) (by (with_reducible repeat (first | refine blk_drewN ?_ _ | refine blk_drew ?_ | refine blk_alloc ?_ _)); exact BK114.out)) : gb114 ≠ gb115)); have n6_ := Aside0.mk ((by rw [hg]; exact Nat.ne_of_gt (blk_lt (g := gb114) (o := .cells #[.int .i64 a0_0, .string a0_1, .string a0_2, .int .i64 a0_3, .int .u64 a0_4, .int .u64 a0_5, .slice A0_6 l0_6.length c0_6, .slice A0_7 l0_7.length c0_7] 37 (0, 0)) (by (with_reducible repeat (first | refine blk_drewN ?_ _ | refine blk_drew ?_ | refine blk_alloc ?_ _)); exact BK114.out)) : gb115 ≠ gb114)); clear BK114; clear HB; have BK114 := n0_; have HB := n1_; have BK115 := n2_; have GW115 := n3_; have GE115 := n4_; have NB114_115 := n5_; have NB115_114 := n6_; clear n0_ n1_ n2_ n3_ n4_ n5_ n6_; clear hb hbox hg))
      go_ret
      exact ⟨by first | rfl | (simp [errW_none, errW_some] <;> rfl) | (simp [*, errW_none, errW_some] <;> rfl), by repeat (first | (with_reducible first | exact HB.out | apply below_alloc | apply pw_below_drewN | apply below_drew1 | refine below_set ?_ GE114.out | refine below_set ?_ GE115.out) | exact HB.out)⟩

-- NOT PRINTED: function 6 (laws_FnExtRegexes)

end Go.Proofs.Ythlpmeiihchdjaa.PR
