/- Printed by a program of this session (a turned copy of the printer of the kit): contracts of functions of the translation, each with the Lean function that it computes. Conditions: as each theorem states them. -/
import Derived.Test.YthlpmeiihchdjaaDoorPZx0
namespace Go.Proofs.YthlpmeiihchdjaaDoor.PZ
open Go.RowKit Go.Proofs.YthlpmeiihchdjaaDoorW.PrintWords Go.Proofs.YthlpmeiihchdjaaDoorW.PrintLast Go.Proofs.YthlpmeiihchdjaaDoorW.PrintMore
attribute [local go_sem] max2_int min2_int max_two min_two max_three min_three max_four min_four   -- for this text's walks alone
set_option linter.unusedVariables false
set_option linter.unusedSimpArgs false

/-! ### spec_extNibble: function 15 -/
mutual
def spec_extNibble.j0 : Nat → Int → Bool → Option (Int × Bool)
  | 0, _, _ => none
  | k + 1, x0, x4 => if x4 = true then (some ((x0 - 48) % 256, true)) else (if x0 ≥ 97 then (spec_extNibble.j1 k x0 (decide (x0 ≤ 102))) else (spec_extNibble.j1 k x0 false))
def spec_extNibble.j1 : Nat → Int → Bool → Option (Int × Bool)
  | 0, _, _ => none
  | k + 1, x0, x14 => if x14 = true then (some (((x0 - 97) % 256) + 10, true)) else (if x0 ≥ 65 then (spec_extNibble.j2 k x0 (decide (x0 ≤ 70))) else (spec_extNibble.j2 k x0 false))
def spec_extNibble.j2 : Nat → Int → Bool → Option (Int × Bool)
  | 0, _, _ => none
  | k + 1, x0, x25 => if x25 = true then (some (((x0 - 65) % 256) + 10, true)) else (some (0, false))
end
def spec_extNibble.f (k : Nat) (a0 : Int) : Option (Int × Bool) := if a0 ≥ 48 then (spec_extNibble.j0 k a0 (decide (a0 ≤ 57))) else (spec_extNibble.j0 k a0 false)
theorem spec_extNibble.mono_l : ∀ k, (∀ y0 y1, LeO (spec_extNibble.j0 k y0 y1) (spec_extNibble.j0 (k + 1) y0 y1)) ∧ (∀ y0 y1, LeO (spec_extNibble.j1 k y0 y1) (spec_extNibble.j1 (k + 1) y0 y1)) ∧ (∀ y0 y1, LeO (spec_extNibble.j2 k y0 y1) (spec_extNibble.j2 (k + 1) y0 y1))
  | 0 => ⟨fun _ _ r h => by simp [spec_extNibble.j0] at h, fun _ _ r h => by simp [spec_extNibble.j1] at h, fun _ _ r h => by simp [spec_extNibble.j2] at h⟩
  | k + 1 => by
    obtain ⟨ih0, ih1, ih2⟩ := spec_extNibble.mono_l k
    refine ⟨?_, ?_, ?_⟩
    · intro y0 y1
      unfold spec_extNibble.j0
      repeat' first
      | (with_reducible exact ih0 _ _)
      | (with_reducible exact ih1 _ _)
      | (with_reducible exact ih2 _ _)
      | (with_reducible exact LeO.refl _)
      | (with_reducible exact LeO.none _)
      | (with_reducible refine LeO.ite ?_ ?_)
      | (with_reducible refine LeO.bind ?_ (fun _ => ?_))
      | exact ih0 _ _
      | exact ih1 _ _
      | exact ih2 _ _
      | exact LeO.none _
      | refine LeO.ite ?_ ?_
      | refine LeO.bind ?_ (fun _ => ?_)
    · intro y0 y1
      unfold spec_extNibble.j1
      repeat' first
      | (with_reducible exact ih0 _ _)
      | (with_reducible exact ih1 _ _)
      | (with_reducible exact ih2 _ _)
      | (with_reducible exact LeO.refl _)
      | (with_reducible exact LeO.none _)
      | (with_reducible refine LeO.ite ?_ ?_)
      | (with_reducible refine LeO.bind ?_ (fun _ => ?_))
      | exact ih0 _ _
      | exact ih1 _ _
      | exact ih2 _ _
      | exact LeO.none _
      | refine LeO.ite ?_ ?_
      | refine LeO.bind ?_ (fun _ => ?_)
    · intro y0 y1
      unfold spec_extNibble.j2
      repeat' first
      | (with_reducible exact ih0 _ _)
      | (with_reducible exact ih1 _ _)
      | (with_reducible exact ih2 _ _)
      | (with_reducible exact LeO.refl _)
      | (with_reducible exact LeO.none _)
      | (with_reducible refine LeO.ite ?_ ?_)
      | (with_reducible refine LeO.bind ?_ (fun _ => ?_))
      | exact ih0 _ _
      | exact ih1 _ _
      | exact ih2 _ _
      | exact LeO.none _
      | refine LeO.ite ?_ ?_
      | refine LeO.bind ?_ (fun _ => ?_)
theorem spec_extNibble.mono : ∀ a0 k, LeO (spec_extNibble.f k a0) (spec_extNibble.f (k + 1) a0) := by
  intro a0 k
  obtain ⟨ih0, ih1, ih2⟩ := spec_extNibble.mono_l k
  unfold spec_extNibble.f
  repeat' first
      | (with_reducible exact ih0 _ _)
      | (with_reducible exact ih1 _ _)
      | (with_reducible exact ih2 _ _)
      | (with_reducible exact LeO.refl _)
      | (with_reducible exact LeO.none _)
      | (with_reducible refine LeO.ite ?_ ?_)
      | (with_reducible refine LeO.bind ?_ (fun _ => ?_))
      | exact ih0 _ _
      | exact ih1 _ _
      | exact ih2 _ _
      | exact LeO.none _
      | refine LeO.ite ?_ ?_
      | refine LeO.bind ?_ (fun _ => ?_)
set_option maxHeartbeats 8000000 in
set_option maxRecDepth 100000 in
theorem spec_extNibble.calls (k : Nat) (a0 : Int) (r1 : Int) (r2 : Bool) (w : World) (h : spec_extNibble.f k a0 = some (r1, r2)) :
    Calls Tryd.prog 15 #[.int .u8 a0] w fun e w' => e = .returned (.tuple #[.int .i64 r1, .bool r2]) ∧ Drawn0 w w' := by
  have H : (if a0 ≥ 48 then (spec_extNibble.j0 k a0 (decide (a0 ≤ 57))) else (spec_extNibble.j0 k a0 false)) = some (r1, r2) := h
  clear h
  have HC2 := Aside0.mk H
  clear H
  go_enter Tryd.func15, Tryd.ntmps15
  go_upto_region 1 with (fail)
  go_cut [4] (fun v4 wc => ∃ (kq : Nat) (x4_1 : Bool), v4 = .bool x4_1 ∧ Aside0 (spec_extNibble.j0 kq a0 x4_1 = some (r1, r2)) ∧ Aside0 (kq ≤ k) ∧ Drawn0 w wc)
  case first =>
    have H := HC2.out
    clear HC2
    by_cases c3 : a0 ≥ 48
    · rw [if_pos c3] at H
      have c3b0 : decide (48 ≤ a0) = true := decide_eq_true c3
      clear c3
      (first | rw [c3b0] | (simp only [i64_w, i32_w]; rw [c3b0]) | skip)
      as_aux_lemma =>
        have H' := Aside0.mk H
        clear H
        go_wp2
        go_meet
        case rel => exact ⟨_, (decide (a0 ≤ 57)), (by first | rfl | (simp; done) | (simp [*]; done)), H', ⟨by first | omega | exact Nat.le_refl _⟩, by repeat (first | exact Drawn0.refl _ | apply Drawn0.step)⟩
    · rw [if_neg c3] at H
      have c3b0 : decide (48 ≤ a0) = false := decide_eq_false c3
      clear c3
      (first | rw [c3b0] | (simp only [i64_w, i32_w]; rw [c3b0]) | skip)
      as_aux_lemma =>
        have H' := Aside0.mk H
        clear H
        go_wp2
        go_meet
        case rel => exact ⟨_, (false), (by first | rfl | (simp; done) | (simp [*]; done)), H', ⟨by first | omega | exact Nat.le_refl _⟩, by repeat (first | exact Drawn0.refl _ | apply Drawn0.step)⟩
  case rest =>
    clear HC2
    try clear c1
    try clear p2
    try clear c3
    try clear c3b0
    obtain ⟨kq, x4_1, rfl, HA, HJ1, ⟨mc1, rfl⟩⟩ := hcut
    cases kq with
    | zero => exact absurd HA.out (by simp [spec_extNibble.j0])
    | succ kj1 =>
      have H := HA.out
      clear HA
      simp only [spec_extNibble.j0] at H
      by_cases c4 : x4_1 = true
      · subst c4
        have H1 : (some ((a0 - 48) % 256, true)) = some (r1, r2) := by rw [if_pos rfl] at H; exact H
        clear H
        have H := H1
        clear H1
        as_aux_lemma =>
          simp only [Option.some.injEq, Prod.mk.injEq] at H
          obtain ⟨rfl, rfl⟩ := H
          go_wp2
          go_ret2
          exact ⟨by first | rfl | (simp; done) | (simp [*]; done), by repeat (first | exact Drawn0.refl _ | apply Drawn0.step)⟩
      · replace c4 := Bool.eq_false_iff.mpr c4
        subst c4
        have H1 : (if a0 ≥ 97 then (spec_extNibble.j1 kj1 a0 (decide (a0 ≤ 102))) else (spec_extNibble.j1 kj1 a0 false)) = some (r1, r2) := by rw [if_neg (show ¬ (false = true) by decide)] at H; exact H
        clear H
        have H := H1
        clear H1
        have HC5 := Aside0.mk H
        clear H
        go_upto_region 3 with (fail)
        go_cut [14] (fun v14 wc => ∃ (kq : Nat) (x14_4 : Bool), v14 = .bool x14_4 ∧ Aside0 (spec_extNibble.j1 kq a0 x14_4 = some (r1, r2)) ∧ Aside0 (kq ≤ kj1) ∧ Drawn0 w wc)
        case first =>
          have H := HC5.out
          clear HC5
          by_cases c6 : a0 ≥ 97
          · rw [if_pos c6] at H
            have c6b0 : decide (97 ≤ a0) = true := decide_eq_true c6
            clear c6
            (first | rw [c6b0] | (simp only [i64_w, i32_w]; rw [c6b0]) | skip)
            as_aux_lemma =>
              have H' := Aside0.mk H
              clear H
              go_wp2
              go_meet
              case rel => exact ⟨_, (decide (a0 ≤ 102)), (by first | rfl | (simp; done) | (simp [*]; done)), H', ⟨by have := HJ1.out; first | omega | exact Nat.le_refl _⟩, by repeat (first | exact Drawn0.refl _ | apply Drawn0.step)⟩
          · rw [if_neg c6] at H
            have c6b0 : decide (97 ≤ a0) = false := decide_eq_false c6
            clear c6
            (first | rw [c6b0] | (simp only [i64_w, i32_w]; rw [c6b0]) | skip)
            as_aux_lemma =>
              have H' := Aside0.mk H
              clear H
              go_wp2
              go_meet
              case rel => exact ⟨_, (false), (by first | rfl | (simp; done) | (simp [*]; done)), H', ⟨by have := HJ1.out; first | omega | exact Nat.le_refl _⟩, by repeat (first | exact Drawn0.refl _ | apply Drawn0.step)⟩
        case rest =>
          clear HC5
          try clear c1
          try clear p2
          try clear c3
          try clear c3b0
          try clear c4
          try clear c6
          try clear c6b0
          try clear p2
          obtain ⟨kq, x14_4, rfl, HA, HJ4, ⟨mc4, rfl⟩⟩ := hcut
          cases kq with
          | zero => exact absurd HA.out (by simp [spec_extNibble.j1])
          | succ kj4 =>
            have H := HA.out
            clear HA
            simp only [spec_extNibble.j1] at H
            by_cases c7 : x14_4 = true
            · subst c7
              have H1 : (some (((a0 - 97) % 256) + 10, true)) = some (r1, r2) := by rw [if_pos rfl] at H; exact H
              clear H
              have H := H1
              clear H1
              as_aux_lemma =>
                simp only [Option.some.injEq, Prod.mk.injEq] at H
                obtain ⟨rfl, rfl⟩ := H
                go_wp2
                go_ret2
                exact ⟨by first | rfl | (simp; done) | (simp [*]; done), by repeat (first | exact Drawn0.refl _ | apply Drawn0.step)⟩
            · replace c7 := Bool.eq_false_iff.mpr c7
              subst c7
              have H1 : (if a0 ≥ 65 then (spec_extNibble.j2 kj4 a0 (decide (a0 ≤ 70))) else (spec_extNibble.j2 kj4 a0 false)) = some (r1, r2) := by rw [if_neg (show ¬ (false = true) by decide)] at H; exact H
              clear H
              have H := H1
              clear H1
              have HC8 := Aside0.mk H
              clear H
              go_upto_region 5 with (fail)
              go_cut [25] (fun v25 wc => ∃ (kq : Nat) (x25_7 : Bool), v25 = .bool x25_7 ∧ Aside0 (spec_extNibble.j2 kq a0 x25_7 = some (r1, r2)) ∧ Aside0 (kq ≤ kj4) ∧ Drawn0 w wc)
              case first =>
                have H := HC8.out
                clear HC8
                by_cases c9 : a0 ≥ 65
                · rw [if_pos c9] at H
                  have c9b0 : decide (65 ≤ a0) = true := decide_eq_true c9
                  clear c9
                  (first | rw [c9b0] | (simp only [i64_w, i32_w]; rw [c9b0]) | skip)
                  as_aux_lemma =>
                    have H' := Aside0.mk H
                    clear H
                    go_wp2
                    go_meet
                    case rel => exact ⟨_, (decide (a0 ≤ 70)), (by first | rfl | (simp; done) | (simp [*]; done)), H', ⟨by have := HJ1.out; have := HJ4.out; first | omega | exact Nat.le_refl _⟩, by repeat (first | exact Drawn0.refl _ | apply Drawn0.step)⟩
                · rw [if_neg c9] at H
                  have c9b0 : decide (65 ≤ a0) = false := decide_eq_false c9
                  clear c9
                  (first | rw [c9b0] | (simp only [i64_w, i32_w]; rw [c9b0]) | skip)
                  as_aux_lemma =>
                    have H' := Aside0.mk H
                    clear H
                    go_wp2
                    go_meet
                    case rel => exact ⟨_, (false), (by first | rfl | (simp; done) | (simp [*]; done)), H', ⟨by have := HJ1.out; have := HJ4.out; first | omega | exact Nat.le_refl _⟩, by repeat (first | exact Drawn0.refl _ | apply Drawn0.step)⟩
              case rest =>
                clear HC8
                try clear c1
                try clear p2
                try clear c3
                try clear c3b0
                try clear c4
                try clear c6
                try clear c6b0
                try clear c7
                try clear c9
                try clear c9b0
                try clear p2
                obtain ⟨kq, x25_7, rfl, HA, HJ7, ⟨mc7, rfl⟩⟩ := hcut
                cases kq with
                | zero => exact absurd HA.out (by simp [spec_extNibble.j2])
                | succ kj7 =>
                  have H := HA.out
                  clear HA
                  simp only [spec_extNibble.j2] at H
                  by_cases c10 : x25_7 = true
                  · subst c10
                    have H1 : (some (((a0 - 65) % 256) + 10, true)) = some (r1, r2) := by rw [if_pos rfl] at H; exact H
                    clear H
                    have H := H1
                    clear H1
                    as_aux_lemma =>
                      simp only [Option.some.injEq, Prod.mk.injEq] at H
                      obtain ⟨rfl, rfl⟩ := H
                      go_wp2
                      go_ret2
                      exact ⟨by first | rfl | (simp; done) | (simp [*]; done), by repeat (first | exact Drawn0.refl _ | apply Drawn0.step)⟩
                  · replace c10 := Bool.eq_false_iff.mpr c10
                    subst c10
                    have H1 : (some (0, false)) = some (r1, r2) := by rw [if_neg (show ¬ (false = true) by decide)] at H; exact H
                    clear H
                    have H := H1
                    clear H1
                    as_aux_lemma =>
                      simp only [Option.some.injEq, Prod.mk.injEq] at H
                      obtain ⟨rfl, rfl⟩ := H
                      go_wp2
                      go_ret2
                      exact ⟨by first | rfl | (simp; done) | (simp [*]; done), by repeat (first | exact Drawn0.refl _ | apply Drawn0.step)⟩

/-! ### spec_ExtIDOf: function 6 -/
mutual
def spec_ExtIDOf.l0 : Nat → ByteArray → List Int → Int → Option (List Int × Bool)
  | 0, _, _, _ => none
  | k + 1, x0, x4, x5 => if x5 < 24 then (if 0 ≤ x5 then (if x5 < (x0.size : Int) then ((spec_extNibble.f k (bt x0 x5)).bind fun bt101 => (if 0 ≤ (wrap64 (x5 + 1)) then (if (wrap64 (x5 + 1)) < (x0.size : Int) then ((spec_extNibble.f k (bt x0 (wrap64 (x5 + 1)))).bind fun bt103 => (if bt101.2 = true then (spec_ExtIDOf.j1 k x0 x4 x5 bt101.1 bt103.1 (!bt103.2)) else (spec_ExtIDOf.j1 k x0 x4 x5 bt101.1 bt103.1 true))) else (none)) else (none))) else (none)) else (none)) else (some (x4, true))
def spec_ExtIDOf.j1 : Nat → ByteArray → List Int → Int → Int → Int → Bool → Option (List Int × Bool)
  | 0, _, _, _, _, _, _ => none
  | k + 1, x0, x4, x5, x6, x8, x37 => if x37 = true then (some (([] : List Int), false)) else (if x4.length < 140737488355328 then (spec_ExtIDOf.l0 k x0 (x4 ++ [(Go.bits .or .i64 (wrap64 (x6 * 16)) x8) % 256]) (wrap64 (x5 + 2))) else (none))
end
def spec_ExtIDOf.f (k : Nat) (a0 : ByteArray) : Option (List Int × Bool) := if (a0.size : Int) = 24 then (spec_ExtIDOf.l0 k a0 ([] : List Int) 0) else (some (([] : List Int), false))
theorem spec_ExtIDOf.mono_l : ∀ k, (∀ y0 y1 y2, LeO (spec_ExtIDOf.l0 k y0 y1 y2) (spec_ExtIDOf.l0 (k + 1) y0 y1 y2)) ∧ (∀ y0 y1 y2 y3 y4 y5, LeO (spec_ExtIDOf.j1 k y0 y1 y2 y3 y4 y5) (spec_ExtIDOf.j1 (k + 1) y0 y1 y2 y3 y4 y5))
  | 0 => ⟨fun _ _ _ r h => by simp [spec_ExtIDOf.l0] at h, fun _ _ _ _ _ _ r h => by simp [spec_ExtIDOf.j1] at h⟩
  | k + 1 => by
    obtain ⟨ih0, ih1⟩ := spec_ExtIDOf.mono_l k
    refine ⟨?_, ?_⟩
    · intro y0 y1 y2
      unfold spec_ExtIDOf.l0
      repeat' first
      | (with_reducible exact ih0 _ _ _)
      | (with_reducible exact ih1 _ _ _ _ _ _)
      | (with_reducible exact spec_extNibble.mono _ _)
      | (with_reducible exact LeO.refl _)
      | (with_reducible exact LeO.none _)
      | (with_reducible refine LeO.ite ?_ ?_)
      | (with_reducible refine LeO.bind ?_ (fun _ => ?_))
      | exact ih0 _ _ _
      | exact ih1 _ _ _ _ _ _
      | exact spec_extNibble.mono _ _
      | exact LeO.none _
      | refine LeO.ite ?_ ?_
      | refine LeO.bind ?_ (fun _ => ?_)
    · intro y0 y1 y2 y3 y4 y5
      unfold spec_ExtIDOf.j1
      repeat' first
      | (with_reducible exact ih0 _ _ _)
      | (with_reducible exact ih1 _ _ _ _ _ _)
      | (with_reducible exact spec_extNibble.mono _ _)
      | (with_reducible exact LeO.refl _)
      | (with_reducible exact LeO.none _)
      | (with_reducible refine LeO.ite ?_ ?_)
      | (with_reducible refine LeO.bind ?_ (fun _ => ?_))
      | exact ih0 _ _ _
      | exact ih1 _ _ _ _ _ _
      | exact spec_extNibble.mono _ _
      | exact LeO.none _
      | refine LeO.ite ?_ ?_
      | refine LeO.bind ?_ (fun _ => ?_)
theorem spec_ExtIDOf.mono : ∀ a0 k, LeO (spec_ExtIDOf.f k a0) (spec_ExtIDOf.f (k + 1) a0) := by
  intro a0 k
  obtain ⟨ih0, ih1⟩ := spec_ExtIDOf.mono_l k
  unfold spec_ExtIDOf.f
  repeat' first
      | (with_reducible exact ih0 _ _ _)
      | (with_reducible exact ih1 _ _ _ _ _ _)
      | (with_reducible exact spec_extNibble.mono _ _)
      | (with_reducible exact LeO.refl _)
      | (with_reducible exact LeO.none _)
      | (with_reducible refine LeO.ite ?_ ?_)
      | (with_reducible refine LeO.bind ?_ (fun _ => ?_))
      | exact ih0 _ _ _
      | exact ih1 _ _ _ _ _ _
      | exact spec_extNibble.mono _ _
      | exact LeO.none _
      | refine LeO.ite ?_ ?_
      | refine LeO.bind ?_ (fun _ => ?_)
set_option maxHeartbeats 8000000 in
set_option maxRecDepth 100000 in
theorem spec_ExtIDOf.calls (k : Nat) (a0 : ByteArray) (r1 : List Int) (r2 : Bool) (w : World) (h : spec_ExtIDOf.f k a0 = some (r1, r2)) :
    Calls Tryd.prog 6 #[.string a0] w fun e w' => ∃ v0_ : Value, e = .returned (.tuple #[v0_, .bool r2]) ∧ Kd.R (Kd.int .u8) 5 w' w.heap.size (fun _ => True) v0_ r1 ∧ Below w.heap.size w w' := by
  have HB := Aside0.mk (Below.refl w.heap.size w)
  have H : (if (a0.size : Int) = 24 then (spec_ExtIDOf.l0 k a0 ([] : List Int) 0) else (some (([] : List Int), false))) = some (r1, r2) := h
  clear h
  by_cases c2 : (a0.size : Int) = 24
  · rw [if_pos c2] at H
    have c2b0 : ((a0.size : Int) == 24) = true := beq_iff_eq.mpr c2
    have c2b1 : ((a0.size : Int) != 24) = false := bne_eq_false_iff_eq.mpr c2
    clear c2
    have H' := Aside0.mk H
    clear H
    go_enter Tryd.func6, Tryd.ntmps6
    go_wp2
    go_loopg [4, 5] k (fun kq v4 v5 w' => ∃ (x4_1 : List Int) (x5_1 : Int), v5 = .int .i64 x5_1 ∧ Aside0 (spec_ExtIDOf.l0 kq a0 x4_1 x5_1 = some (r1, r2)) ∧ Aside0 (kq ≤ k) ∧ Aside0 (Kd.R (Kd.int .u8) 5 w' w.heap.size (fun _ => True) v4 x4_1) ∧ Aside0 (Below w.heap.size w w'))
    case atStart => exact ⟨(([] : List Int)), (0), (by first | rfl | (simp; done) | (simp [*]; done)), H', ⟨Nat.le_refl _⟩, ⟨by first | exact Kd.R_nil _ _ _ _ _ | exact Kd.N_nil _ _ _ _ _ | exact Kd.V_nil _ _ _ _ _ | exact Kd.Q_nil _ _ _ _ _ | exact Kd.S_nil _ _ _ _ _⟩, ⟨by repeat (first | (with_reducible first | exact HB.out | apply below_alloc | apply pw_below_drewN | apply below_drew1) | exact HB.out)⟩⟩
    case round =>
      clear H'
      try clear c2
      try clear c2b0
      try clear c2b1
      try clear p2
      obtain ⟨x4_1, x5_1, rfl, HA, HK1, HO_4, HB⟩ := hrel
      cases gk with
      | zero => exact absurd HA.out (by simp [spec_ExtIDOf.l0])
      | succ k1 =>
        have H := HA.out
        clear HA
        simp only [spec_ExtIDOf.l0] at H
        by_cases c3 : x5_1 < 24
        · rw [if_pos c3] at H
          have c3b0 : decide (x5_1 < 24) = true := decide_eq_true c3
          clear c3
          by_cases c4 : 0 ≤ x5_1
          · rw [if_pos c4] at H
            have c4b0 : decide (0 ≤ x5_1) = true := decide_eq_true c4
            clear c4
            by_cases c5 : x5_1 < (a0.size : Int)
            · rw [if_pos c5] at H
              have c5b0 : decide (x5_1 < (a0.size : Int)) = true := decide_eq_true c5
              clear c5
              replace H := Option.bind_eq_some_iff.mp H
              obtain ⟨⟨t101, t102⟩, A70, H⟩ := H
              replace H : (if 0 ≤ (wrap64 (x5_1 + 1)) then (if (wrap64 (x5_1 + 1)) < (a0.size : Int) then ((spec_extNibble.f k1 (bt a0 (wrap64 (x5_1 + 1)))).bind fun bt103 => (if t102 = true then (spec_ExtIDOf.j1 k1 a0 x4_1 x5_1 t101 bt103.1 (!bt103.2)) else (spec_ExtIDOf.j1 k1 a0 x4_1 x5_1 t101 bt103.1 true))) else (none)) else (none)) = some (r1, r2) := H
              have A7 := Aside0.mk A70
              clear A70
              obtain ⟨ji8, hji8⟩ : ∃ j_ : Int, (wrap64 (x5_1 + 1)) = j_ := ⟨_, rfl⟩
              replace H : (if 0 ≤ (ji8) then (if (ji8) < (a0.size : Int) then ((spec_extNibble.f k1 (bt a0 (ji8))).bind fun bt103 => (if t102 = true then (spec_ExtIDOf.j1 k1 a0 x4_1 x5_1 t101 bt103.1 (!bt103.2)) else (spec_ExtIDOf.j1 k1 a0 x4_1 x5_1 t101 bt103.1 true))) else (none)) else (none)) = some (r1, r2) := by first | (rw [hji8] at H; exact H) | (simp only [hji8] at H ⊢; exact H)
              (try rw [hji8] at A7)
              have hji8w : (IntKind.i64.wrap (x5_1 + 1)) = ji8 := (i64_w _).trans hji8
              by_cases c9 : 0 ≤ (ji8)
              · rw [if_pos c9] at H
                have c9b0 : decide (0 ≤ (ji8)) = true := decide_eq_true c9
                clear c9
                by_cases c10 : (ji8) < (a0.size : Int)
                · rw [if_pos c10] at H
                  have c10b0 : decide ((ji8) < (a0.size : Int)) = true := decide_eq_true c10
                  clear c10
                  replace H := Option.bind_eq_some_iff.mp H
                  obtain ⟨⟨t103, t104⟩, A120, H⟩ := H
                  replace H : (if t102 = true then (spec_ExtIDOf.j1 k1 a0 x4_1 x5_1 t101 t103 (!t104)) else (spec_ExtIDOf.j1 k1 a0 x4_1 x5_1 t101 t103 true)) = some (r1, r2) := H
                  have A12 := Aside0.mk A120
                  clear A120
                  have HC13 := Aside0.mk H
                  clear H
                  have p6 : 0 ≤ (x5_1 : Int) := of_decide_eq_true (by first | (with_reducible assumption) | assumption)
                  have q6 : x5_1 < (a0.size : Int) := of_decide_eq_true (by first | (with_reducible assumption) | assumption)
                  have hx6 := bt_at a0 x5_1
                  replace p6 := eq_true p6
                  replace q6 := eq_true q6
                  go_upto_region 9 with (first | ((with_reducible refine gate_callee (f := 15) rfl ?_); refine goesL_ (some 21) rfl rfl Tryd.func15 (by kernel_rfl) rfl #[.int .u8 (bt a0 x5_1)] rfl (by (try simp only [List.map_toArray, List.map_cons, List.map_nil]); first | done | rfl | (simp only [List.length_drop, List.length_take]; rfl)) ?_; (with_reducible refine (spec_extNibble.calls k1 (bt a0 x5_1) t101 t102 _ A7.out).mono ?_); rintro e w' ⟨rfl, ⟨nd, rfl⟩⟩; refine ⟨_, rfl, ?_⟩; have p11 : 0 ≤ ((ji8) : Int) := of_decide_eq_true (by first | (with_reducible assumption) | assumption); have q11 : (ji8) < (a0.size : Int) := of_decide_eq_true (by first | (with_reducible assumption) | assumption); have hx11 := bt_at a0 (ji8); replace p11 := eq_true p11; replace q11 := eq_true q11) | ((with_reducible refine gate_callee (f := 15) rfl ?_); refine goesL_ (some 29) rfl rfl Tryd.func15 (by kernel_rfl) rfl #[.int .u8 (bt a0 (ji8))] rfl (by (try simp only [List.map_toArray, List.map_cons, List.map_nil]); first | done | (simp only [hji8]; rfl) | rfl | (simp only [List.length_drop, List.length_take]; rfl)) ?_; (with_reducible refine (spec_extNibble.calls k1 (bt a0 (ji8)) t103 t104 _ A12.out).mono ?_); rintro e w' ⟨rfl, ⟨nd, rfl⟩⟩; refine ⟨_, rfl, ?_⟩))
                  (try simp only [Act.put, List.setIfInBounds_toArray, List.set_cons_zero, List.set_cons_succ])
                  go_cut [37] (fun v37 wc => ∃ (kq : Nat) (x37_12 : Bool), v37 = .bool x37_12 ∧ Aside0 (spec_ExtIDOf.j1 kq a0 x4_1 x5_1 t101 t103 x37_12 = some (r1, r2)) ∧ Aside0 (kq ≤ k1) ∧ Aside0 (Kd.R (Kd.int .u8) 5 wc w.heap.size (fun _ => True) u4 x4_1) ∧ Aside0 (Below w.heap.size w wc))
                  case first =>
                    have H := HC13.out
                    clear HC13
                    by_cases c14 : t102 = true
                    · subst c14
                      have H1 : (spec_ExtIDOf.j1 k1 a0 x4_1 x5_1 t101 t103 (!t104)) = some (r1, r2) := by rw [if_pos rfl] at H; exact H
                      clear H
                      have H := H1
                      clear H1
                      as_aux_lemma =>
                        have H' := Aside0.mk H
                        clear H
                        go_wp2
                        go_meet
                        case rel => exact ⟨_, (!t104), (by first | rfl | (simp; done) | (simp [*]; done)), H', ⟨by have := HK1.out; first | omega | exact Nat.le_refl _⟩, ⟨by (with_reducible repeat (first | apply Kd.R_alloc | apply Kd.R_drewN | apply Kd.R_drew)); exact HO_4.out⟩, ⟨by repeat (first | (with_reducible first | exact HB.out | apply below_alloc | apply pw_below_drewN | apply below_drew1) | exact HB.out)⟩⟩
                    · replace c14 := Bool.eq_false_iff.mpr c14
                      subst c14
                      have H1 : (spec_ExtIDOf.j1 k1 a0 x4_1 x5_1 t101 t103 true) = some (r1, r2) := by rw [if_neg (show ¬ (false = true) by decide)] at H; exact H
                      clear H
                      have H := H1
                      clear H1
                      as_aux_lemma =>
                        have H' := Aside0.mk H
                        clear H
                        go_wp2
                        go_meet
                        case rel => exact ⟨_, (true), (by first | rfl | (simp; done) | (simp [*]; done)), H', ⟨by have := HK1.out; first | omega | exact Nat.le_refl _⟩, ⟨by (with_reducible repeat (first | apply Kd.R_alloc | apply Kd.R_drewN | apply Kd.R_drew)); exact HO_4.out⟩, ⟨by repeat (first | (with_reducible first | exact HB.out | apply below_alloc | apply pw_below_drewN | apply below_drew1) | exact HB.out)⟩⟩
                  case rest =>
                    clear HC13
                    try clear c1
                    try clear p1
                    try clear q1
                    try clear hx1
                    try clear c2
                    try clear c2b0
                    try clear c2b1
                    try clear p2
                    try clear c3
                    try clear c3b0
                    try clear c4
                    try clear c4b0
                    try clear c5
                    try clear c5b0
                    try clear c6
                    try clear p6
                    try clear q6
                    try clear hx6
                    try clear c9
                    try clear c9b0
                    try clear c10
                    try clear c10b0
                    try clear p11
                    try clear q11
                    try clear hx11
                    try clear c14
                    try clear p11
                    try clear p2
                    try clear p6
                    try clear q11
                    try clear q6
                    obtain ⟨kq, x37_12, rfl, HA, HJ12, HO_4, HB⟩ := hcut
                    cases kq with
                    | zero => exact absurd HA.out (by simp [spec_ExtIDOf.j1])
                    | succ kj12 =>
                      have H := HA.out
                      clear HA
                      simp only [spec_ExtIDOf.j1] at H
                      by_cases c15 : x37_12 = true
                      · subst c15
                        have H1 : (some (([] : List Int), false)) = some (r1, r2) := by rw [if_pos rfl] at H; exact H
                        clear H
                        have H := H1
                        clear H1
                        as_aux_lemma =>
                          simp only [Option.some.injEq, Prod.mk.injEq] at H
                          obtain ⟨rfl, rfl⟩ := H
                          go_wp2
                          go_ret2
                          exact ⟨_, by first | rfl | (simp [errW_none, errW_some] <;> rfl) | (simp only [← hji8]; first | rfl | (simp [errW_none, errW_some] <;> rfl)) | (simp [*, errW_none, errW_some] <;> rfl), by first | exact Kd.R_nil _ _ _ _ _ | exact Kd.N_nil _ _ _ _ _ | exact Kd.V_nil _ _ _ _ _ | exact Kd.Q_nil _ _ _ _ _ | exact Kd.S_nil _ _ _ _ _, by repeat (first | (with_reducible first | exact HB.out | apply below_alloc | apply pw_below_drewN | apply below_drew1) | exact HB.out)⟩
                      · replace c15 := Bool.eq_false_iff.mpr c15
                        subst c15
                        have H1 : (if x4_1.length < 140737488355328 then (spec_ExtIDOf.l0 kj12 a0 (x4_1 ++ [(Go.bits .or .i64 (wrap64 (t101 * 16)) t103) % 256]) (wrap64 (x5_1 + 2))) else (none)) = some (r1, r2) := by rw [if_neg (show ¬ (false = true) by decide)] at H; exact H
                        clear H
                        have H := H1
                        clear H1
                        by_cases c16 : x4_1.length < 140737488355328
                        · rw [if_pos c16] at H
                          have LMc16 := Aside0.mk c16
                          clear c16
                          obtain ⟨y105, hy105⟩ : ∃ y_ : List Int, y_ = (x4_1 ++ [(Go.bits .or .i64 (wrap64 (t101 * 16)) t103) % 256]) := ⟨_, rfl⟩
                          replace H : (spec_ExtIDOf.l0 kj12 a0 y105 (wrap64 (x5_1 + 2))) = some (r1, r2) := by first | (rw [hy105]; with_reducible exact H) | (have H2_ := (Option.bind_some _ _).symm.trans H; rw [hy105]; with_reducible exact H2_) | (have H2_ := (Option.bind_some _ _).symm.trans H; with_reducible exact H2_) | with_reducible exact H | (rw [hy105]; exact H) | exact H
                          have Ny105 := Aside0.mk hy105
                          clear hy105
                          as_aux_lemma =>
                            have H' := Aside0.mk H
                            clear H
                            go_wp2_with (first | ((with_reducible refine gate_builtin (b := .append) (xs := #[.tmp 38, .tmp 44]) rfl ?_); at_builtin; refine Kd.R_append (Kd.int .u8) (w0 := w) w.heap.size rfl (.tmp 38) (.tmp 44) 22 5 (.int .u8 0) 1 rfl Tryd.underlying22 info5 rfl (by decide) (by omega) u4 x4_1 ((Go.bits .or .i64 (wrap64 (t101 * 16)) t103) % 256) [.int .u8 ((Go.bits .or .i64 (wrap64 (t101 * 16)) t103) % 256)] (fun _ => True) (fun _ => False) rfl rfl ?aP (fun _ hk => hk.elim) ?aF ?aO ?aB ?aS ?aL ?_; (case aP => exact rfl); (case aB => exact (by repeat (first | (with_reducible first | exact HB.out | apply below_alloc | apply pw_below_drewN | apply below_drew1) | exact HB.out))); (case aF => exact (fun _ _ => trivial)); (case aO => exact (by (with_reducible repeat (first | apply Kd.R_alloc | apply Kd.R_drewN | apply Kd.R_drew)); exact HO_4.out)); (case aS => exact (below_size (by repeat (first | (with_reducible first | exact HB.out | apply below_alloc | apply pw_below_drewN | apply below_drew1) | exact HB.out)))); (case aL => have := LMc16.out; omega); intro v106 w17 ho hb hg hat; rw [← Ny105.out] at ho; have n0_ := Aside0.mk (hb); have n1_ := Aside0.mk (ho); clear HB; clear HO_4; have HB := n0_; have HO107 := n1_; clear n0_ n1_; clear ho hb hg hat))
                            go_roundg kj12
                            case measure => have := HK1.out; have := HJ12.out; omega
                            case rel => exact ⟨(y105), (wrap64 (x5_1 + 2)), (by first | rfl | (simp; done) | (simp [*]; done)), H', ⟨by have := HK1.out; have := HJ12.out; omega⟩, ⟨by (with_reducible repeat (first | apply Kd.R_alloc | apply Kd.R_drewN | apply Kd.R_drew)); exact HO107.out⟩, ⟨by repeat (first | (with_reducible first | exact HB.out | apply below_alloc | apply pw_below_drewN | apply below_drew1) | exact HB.out)⟩⟩
                        · rw [if_neg c16] at H
                          exact absurd H (by simp)
                · rw [if_neg c10] at H
                  exact absurd H (by simp)
              · rw [if_neg c9] at H
                exact absurd H (by simp)
            · rw [if_neg c5] at H
              exact absurd H (by simp)
          · rw [if_neg c4] at H
            exact absurd H (by simp)
        · rw [if_neg c3] at H
          have c3b0 : decide (x5_1 < 24) = false := decide_eq_false c3
          clear c3
          as_aux_lemma =>
            simp only [Option.some.injEq, Prod.mk.injEq] at H
            obtain ⟨rfl, rfl⟩ := H
            go_wp2
            go_ret2
            exact ⟨_, by first | rfl | (simp [errW_none, errW_some] <;> rfl) | (simp [*, errW_none, errW_some] <;> rfl), by (with_reducible repeat (first | apply Kd.R_alloc | apply Kd.R_drewN | apply Kd.R_drew)); exact HO_4.out, by repeat (first | (with_reducible first | exact HB.out | apply below_alloc | apply pw_below_drewN | apply below_drew1) | exact HB.out)⟩
  · rw [if_neg c2] at H
    have c2b0 : ((a0.size : Int) == 24) = false := beq_eq_false_iff_ne.mpr c2
    have c2b1 : ((a0.size : Int) != 24) = true := bne_iff_ne.mpr c2
    as_aux_lemma =>
      simp only [Option.some.injEq, Prod.mk.injEq] at H
      obtain ⟨rfl, rfl⟩ := H
      go_enter Tryd.func6, Tryd.ntmps6
      go_wp2
      go_ret2
      exact ⟨_, by first | rfl | (simp [errW_none, errW_some] <;> rfl) | (simp [*, errW_none, errW_some] <;> rfl), by first | exact Kd.R_nil _ _ _ _ _ | exact Kd.N_nil _ _ _ _ _ | exact Kd.V_nil _ _ _ _ _ | exact Kd.Q_nil _ _ _ _ _ | exact Kd.S_nil _ _ _ _ _, by repeat (first | (with_reducible first | exact HB.out | apply below_alloc | apply pw_below_drewN | apply below_drew1) | exact HB.out)⟩

-- NOT PRINTED: function 42 (hex_Decode)

-- NOT PRINTED: function 30 (bson_ObjectIDFromHex)

-- NOT PRINTED: function 38 (errors_New)

-- NOT PRINTED: function 29 (bson_extJSONValue_parseObjectID)

-- NOT PRINTED: function 16 (bson_ZzID)

/-! ### impl_own: function 17 -/
def impl_own.f (l0 : List Int) : Option (List Int) := if ([] : List Int).length + l0.length < 140737488355328 then (some (([] : List Int) ++ l0)) else (none)
set_option maxHeartbeats 8000000 in
set_option maxRecDepth 100000 in
theorem impl_own.calls (A0 : Option Addr) (c0 : Nat) (l0 : List Int) (r : List Int) (w : World) (hr0 : Kd.C (Kd.int .u8) w A0 l0.length l0) (hc0 : l0.length ≤ c0) (h : impl_own.f l0 = some r) :
    Calls Tryd.prog 17 #[.slice A0 l0.length c0] w fun e w' => ∃ v0_ : Value, e = .returned (v0_) ∧ Kd.R (Kd.int .u8) 5 w' w.heap.size (fun _ => True) v0_ r ∧ Below w.heap.size w w' := by
  have HR0 := Aside0.mk hr0
  have HC0 := Aside0.mk hc0
  clear hr0 hc0
  have HB := Aside0.mk (Below.refl w.heap.size w)
  have H : (if ([] : List Int).length + l0.length < 140737488355328 then (some (([] : List Int) ++ l0)) else (none)) = some r := h
  clear h
  by_cases c2 : ([] : List Int).length + l0.length < 140737488355328
  · rw [if_pos c2] at H
    have LMc2 := Aside0.mk c2
    clear c2
    obtain ⟨y111, hy111⟩ : ∃ y_ : List Int, y_ = (([] : List Int) ++ l0) := ⟨_, rfl⟩
    replace H : (some y111) = some r := by first | (rw [hy111]; with_reducible exact H) | (have H2_ := (Option.bind_some _ _).symm.trans H; rw [hy111]; with_reducible exact H2_) | (have H2_ := (Option.bind_some _ _).symm.trans H; with_reducible exact H2_) | with_reducible exact H | (rw [hy111]; exact H) | exact H
    have Ny111 := Aside0.mk hy111
    clear hy111
    as_aux_lemma =>
      obtain rfl := Option.some.inj H
      go_enter Tryd.func17, Tryd.ntmps17
      go_wp2_with (first | ((with_reducible refine gate_builtin (b := .append) (xs := #[.const (.slice none 0 0), .tmp 3]) rfl ?_); at_builtin; refine Kd.R_append_rows (Kd.int .u8) (w0 := w) w.heap.size rfl (.const (.slice none 0 0)) (.tmp 3) 22 5 (.int .u8 0) 1 rfl Tryd.underlying22 info5 rfl (by decide) (by omega) (.slice none 0 0) ([] : List Int) l0 _ _ _ (fun _ => True) (fun _ => False) rfl rfl ?aO ?aR (fun _ _ h => h) (fun _ h => h.elim) ?aF ?aB ?aS ?aL ?_; (case aR => repeat (first | exact HR0.out | (with_reducible refine Kd.C_alloc ?_ _) | (with_reducible refine Kd.C_drewN ?_ _) | (with_reducible refine Kd.C_drew ?_))); (case aB => exact (by repeat (first | (with_reducible first | exact HB.out | apply below_alloc | apply pw_below_drewN | apply below_drew1) | exact HB.out))); (case aF => exact (fun _ _ => trivial)); (case aO => exact ((Kd.R_nil _ _ _ _ (fun _ => True)))); (case aS => exact (below_size (by repeat (first | (with_reducible first | exact HB.out | apply below_alloc | apply pw_below_drewN | apply below_drew1) | exact HB.out)))); (case aL => have := LMc2.out; omega); intro v112 w3 ho hb hg hat; rw [← Ny111.out] at ho; have n0_ := Aside0.mk (hb); have n1_ := Aside0.mk (ho); clear HB; have HB := n0_; have HO113 := n1_; clear n0_ n1_; clear ho hb hg hat))
      go_ret
      exact ⟨_, by first | rfl | (simp [errW_none, errW_some] <;> rfl) | (simp [*, errW_none, errW_some] <;> rfl), by (with_reducible repeat (first | apply Kd.R_alloc | apply Kd.R_drewN | apply Kd.R_drew)); exact HO113.out, by repeat (first | (with_reducible first | exact HB.out | apply below_alloc | apply pw_below_drewN | apply below_drew1) | exact HB.out)⟩
  · rw [if_neg c2] at H
    exact absurd H (by simp)

-- NOT PRINTED: function 7 (impl_ExtID)

-- NOT PRINTED: function 3 (laws_FnExtIDs)

-- NOT PRINTED: function 18 (impl_id)

-- NOT PRINTED: function 19 (bson_ObjectID_UnmarshalText)

-- NOT PRINTED: function 8 (impl_IDFromText)

/-! ### spec_bindDigit: function 31 -/
mutual
def spec_bindDigit.j0 : Nat → Int → Bool → Option (Int)
  | 0, _, _ => none
  | k + 1, x0, x3 => if x3 = true then (some ((x0 - 48) % 256)) else (if x0 ≥ 97 then (spec_bindDigit.j1 k x0 (decide (x0 ≤ 102))) else (spec_bindDigit.j1 k x0 false))
def spec_bindDigit.j1 : Nat → Int → Bool → Option (Int)
  | 0, _, _ => none
  | k + 1, x0, x13 => if x13 = true then (some (((x0 - 97) % 256) + 10)) else (if x0 ≥ 65 then (spec_bindDigit.j2 k x0 (decide (x0 ≤ 70))) else (spec_bindDigit.j2 k x0 false))
def spec_bindDigit.j2 : Nat → Int → Bool → Option (Int)
  | 0, _, _ => none
  | k + 1, x0, x24 => if x24 = true then (some (((x0 - 65) % 256) + 10)) else (some (-1))
end
def spec_bindDigit.f (k : Nat) (a0 : Int) : Option (Int) := if a0 ≥ 48 then (spec_bindDigit.j0 k a0 (decide (a0 ≤ 57))) else (spec_bindDigit.j0 k a0 false)
theorem spec_bindDigit.mono_l : ∀ k, (∀ y0 y1, LeO (spec_bindDigit.j0 k y0 y1) (spec_bindDigit.j0 (k + 1) y0 y1)) ∧ (∀ y0 y1, LeO (spec_bindDigit.j1 k y0 y1) (spec_bindDigit.j1 (k + 1) y0 y1)) ∧ (∀ y0 y1, LeO (spec_bindDigit.j2 k y0 y1) (spec_bindDigit.j2 (k + 1) y0 y1))
  | 0 => ⟨fun _ _ r h => by simp [spec_bindDigit.j0] at h, fun _ _ r h => by simp [spec_bindDigit.j1] at h, fun _ _ r h => by simp [spec_bindDigit.j2] at h⟩
  | k + 1 => by
    obtain ⟨ih0, ih1, ih2⟩ := spec_bindDigit.mono_l k
    refine ⟨?_, ?_, ?_⟩
    · intro y0 y1
      unfold spec_bindDigit.j0
      repeat' first
      | (with_reducible exact ih0 _ _)
      | (with_reducible exact ih1 _ _)
      | (with_reducible exact ih2 _ _)
      | (with_reducible exact LeO.refl _)
      | (with_reducible exact LeO.none _)
      | (with_reducible refine LeO.ite ?_ ?_)
      | (with_reducible refine LeO.bind ?_ (fun _ => ?_))
      | exact ih0 _ _
      | exact ih1 _ _
      | exact ih2 _ _
      | exact LeO.none _
      | refine LeO.ite ?_ ?_
      | refine LeO.bind ?_ (fun _ => ?_)
    · intro y0 y1
      unfold spec_bindDigit.j1
      repeat' first
      | (with_reducible exact ih0 _ _)
      | (with_reducible exact ih1 _ _)
      | (with_reducible exact ih2 _ _)
      | (with_reducible exact LeO.refl _)
      | (with_reducible exact LeO.none _)
      | (with_reducible refine LeO.ite ?_ ?_)
      | (with_reducible refine LeO.bind ?_ (fun _ => ?_))
      | exact ih0 _ _
      | exact ih1 _ _
      | exact ih2 _ _
      | exact LeO.none _
      | refine LeO.ite ?_ ?_
      | refine LeO.bind ?_ (fun _ => ?_)
    · intro y0 y1
      unfold spec_bindDigit.j2
      repeat' first
      | (with_reducible exact ih0 _ _)
      | (with_reducible exact ih1 _ _)
      | (with_reducible exact ih2 _ _)
      | (with_reducible exact LeO.refl _)
      | (with_reducible exact LeO.none _)
      | (with_reducible refine LeO.ite ?_ ?_)
      | (with_reducible refine LeO.bind ?_ (fun _ => ?_))
      | exact ih0 _ _
      | exact ih1 _ _
      | exact ih2 _ _
      | exact LeO.none _
      | refine LeO.ite ?_ ?_
      | refine LeO.bind ?_ (fun _ => ?_)
theorem spec_bindDigit.mono : ∀ a0 k, LeO (spec_bindDigit.f k a0) (spec_bindDigit.f (k + 1) a0) := by
  intro a0 k
  obtain ⟨ih0, ih1, ih2⟩ := spec_bindDigit.mono_l k
  unfold spec_bindDigit.f
  repeat' first
      | (with_reducible exact ih0 _ _)
      | (with_reducible exact ih1 _ _)
      | (with_reducible exact ih2 _ _)
      | (with_reducible exact LeO.refl _)
      | (with_reducible exact LeO.none _)
      | (with_reducible refine LeO.ite ?_ ?_)
      | (with_reducible refine LeO.bind ?_ (fun _ => ?_))
      | exact ih0 _ _
      | exact ih1 _ _
      | exact ih2 _ _
      | exact LeO.none _
      | refine LeO.ite ?_ ?_
      | refine LeO.bind ?_ (fun _ => ?_)
set_option maxHeartbeats 8000000 in
set_option maxRecDepth 100000 in
theorem spec_bindDigit.calls (k : Nat) (a0 : Int) (r : Int) (w : World) (h : spec_bindDigit.f k a0 = some r) :
    Calls Tryd.prog 31 #[.int .u8 a0] w fun e w' => e = .returned (.int .i64 r) ∧ Drawn0 w w' := by
  have H : (if a0 ≥ 48 then (spec_bindDigit.j0 k a0 (decide (a0 ≤ 57))) else (spec_bindDigit.j0 k a0 false)) = some r := h
  clear h
  have HC2 := Aside0.mk H
  clear H
  go_enter Tryd.func31, Tryd.ntmps31
  go_upto_region 1 with (fail)
  go_cut [3] (fun v3 wc => ∃ (kq : Nat) (x3_1 : Bool), v3 = .bool x3_1 ∧ Aside0 (spec_bindDigit.j0 kq a0 x3_1 = some r) ∧ Aside0 (kq ≤ k) ∧ Drawn0 w wc)
  case first =>
    have H := HC2.out
    clear HC2
    by_cases c3 : a0 ≥ 48
    · rw [if_pos c3] at H
      have c3b0 : decide (48 ≤ a0) = true := decide_eq_true c3
      clear c3
      (first | rw [c3b0] | (simp only [i64_w, i32_w]; rw [c3b0]) | skip)
      as_aux_lemma =>
        have H' := Aside0.mk H
        clear H
        go_wp2
        go_meet
        case rel => exact ⟨_, (decide (a0 ≤ 57)), (by first | rfl | (simp; done) | (simp [*]; done)), H', ⟨by first | omega | exact Nat.le_refl _⟩, by repeat (first | exact Drawn0.refl _ | apply Drawn0.step)⟩
    · rw [if_neg c3] at H
      have c3b0 : decide (48 ≤ a0) = false := decide_eq_false c3
      clear c3
      (first | rw [c3b0] | (simp only [i64_w, i32_w]; rw [c3b0]) | skip)
      as_aux_lemma =>
        have H' := Aside0.mk H
        clear H
        go_wp2
        go_meet
        case rel => exact ⟨_, (false), (by first | rfl | (simp; done) | (simp [*]; done)), H', ⟨by first | omega | exact Nat.le_refl _⟩, by repeat (first | exact Drawn0.refl _ | apply Drawn0.step)⟩
  case rest =>
    clear HC2
    try clear p2
    try clear c3
    try clear c3b0
    obtain ⟨kq, x3_1, rfl, HA, HJ1, ⟨mc1, rfl⟩⟩ := hcut
    cases kq with
    | zero => exact absurd HA.out (by simp [spec_bindDigit.j0])
    | succ kj1 =>
      have H := HA.out
      clear HA
      simp only [spec_bindDigit.j0] at H
      by_cases c4 : x3_1 = true
      · subst c4
        have H1 : (some ((a0 - 48) % 256)) = some r := by rw [if_pos rfl] at H; exact H
        clear H
        have H := H1
        clear H1
        as_aux_lemma =>
          obtain rfl := Option.some.inj H
          go_wp2
          go_ret
          exact ⟨by first | rfl | (simp; done) | (simp [*]; done), by repeat (first | exact Drawn0.refl _ | apply Drawn0.step)⟩
      · replace c4 := Bool.eq_false_iff.mpr c4
        subst c4
        have H1 : (if a0 ≥ 97 then (spec_bindDigit.j1 kj1 a0 (decide (a0 ≤ 102))) else (spec_bindDigit.j1 kj1 a0 false)) = some r := by rw [if_neg (show ¬ (false = true) by decide)] at H; exact H
        clear H
        have H := H1
        clear H1
        have HC5 := Aside0.mk H
        clear H
        go_upto_region 3 with (fail)
        go_cut [13] (fun v13 wc => ∃ (kq : Nat) (x13_4 : Bool), v13 = .bool x13_4 ∧ Aside0 (spec_bindDigit.j1 kq a0 x13_4 = some r) ∧ Aside0 (kq ≤ kj1) ∧ Drawn0 w wc)
        case first =>
          have H := HC5.out
          clear HC5
          by_cases c6 : a0 ≥ 97
          · rw [if_pos c6] at H
            have c6b0 : decide (97 ≤ a0) = true := decide_eq_true c6
            clear c6
            (first | rw [c6b0] | (simp only [i64_w, i32_w]; rw [c6b0]) | skip)
            as_aux_lemma =>
              have H' := Aside0.mk H
              clear H
              go_wp2
              go_meet
              case rel => exact ⟨_, (decide (a0 ≤ 102)), (by first | rfl | (simp; done) | (simp [*]; done)), H', ⟨by have := HJ1.out; first | omega | exact Nat.le_refl _⟩, by repeat (first | exact Drawn0.refl _ | apply Drawn0.step)⟩
          · rw [if_neg c6] at H
            have c6b0 : decide (97 ≤ a0) = false := decide_eq_false c6
            clear c6
            (first | rw [c6b0] | (simp only [i64_w, i32_w]; rw [c6b0]) | skip)
            as_aux_lemma =>
              have H' := Aside0.mk H
              clear H
              go_wp2
              go_meet
              case rel => exact ⟨_, (false), (by first | rfl | (simp; done) | (simp [*]; done)), H', ⟨by have := HJ1.out; first | omega | exact Nat.le_refl _⟩, by repeat (first | exact Drawn0.refl _ | apply Drawn0.step)⟩
        case rest =>
          clear HC5
          try clear c1
          try clear p2
          try clear c3
          try clear c3b0
          try clear c4
          try clear c6
          try clear c6b0
          try clear p2
          obtain ⟨kq, x13_4, rfl, HA, HJ4, ⟨mc4, rfl⟩⟩ := hcut
          cases kq with
          | zero => exact absurd HA.out (by simp [spec_bindDigit.j1])
          | succ kj4 =>
            have H := HA.out
            clear HA
            simp only [spec_bindDigit.j1] at H
            by_cases c7 : x13_4 = true
            · subst c7
              have H1 : (some (((a0 - 97) % 256) + 10)) = some r := by rw [if_pos rfl] at H; exact H
              clear H
              have H := H1
              clear H1
              as_aux_lemma =>
                obtain rfl := Option.some.inj H
                go_wp2
                go_ret
                exact ⟨by first | rfl | (simp; done) | (simp [*]; done), by repeat (first | exact Drawn0.refl _ | apply Drawn0.step)⟩
            · replace c7 := Bool.eq_false_iff.mpr c7
              subst c7
              have H1 : (if a0 ≥ 65 then (spec_bindDigit.j2 kj4 a0 (decide (a0 ≤ 70))) else (spec_bindDigit.j2 kj4 a0 false)) = some r := by rw [if_neg (show ¬ (false = true) by decide)] at H; exact H
              clear H
              have H := H1
              clear H1
              have HC8 := Aside0.mk H
              clear H
              go_upto_region 5 with (fail)
              go_cut [24] (fun v24 wc => ∃ (kq : Nat) (x24_7 : Bool), v24 = .bool x24_7 ∧ Aside0 (spec_bindDigit.j2 kq a0 x24_7 = some r) ∧ Aside0 (kq ≤ kj4) ∧ Drawn0 w wc)
              case first =>
                have H := HC8.out
                clear HC8
                by_cases c9 : a0 ≥ 65
                · rw [if_pos c9] at H
                  have c9b0 : decide (65 ≤ a0) = true := decide_eq_true c9
                  clear c9
                  (first | rw [c9b0] | (simp only [i64_w, i32_w]; rw [c9b0]) | skip)
                  as_aux_lemma =>
                    have H' := Aside0.mk H
                    clear H
                    go_wp2
                    go_meet
                    case rel => exact ⟨_, (decide (a0 ≤ 70)), (by first | rfl | (simp; done) | (simp [*]; done)), H', ⟨by have := HJ1.out; have := HJ4.out; first | omega | exact Nat.le_refl _⟩, by repeat (first | exact Drawn0.refl _ | apply Drawn0.step)⟩
                · rw [if_neg c9] at H
                  have c9b0 : decide (65 ≤ a0) = false := decide_eq_false c9
                  clear c9
                  (first | rw [c9b0] | (simp only [i64_w, i32_w]; rw [c9b0]) | skip)
                  as_aux_lemma =>
                    have H' := Aside0.mk H
                    clear H
                    go_wp2
                    go_meet
                    case rel => exact ⟨_, (false), (by first | rfl | (simp; done) | (simp [*]; done)), H', ⟨by have := HJ1.out; have := HJ4.out; first | omega | exact Nat.le_refl _⟩, by repeat (first | exact Drawn0.refl _ | apply Drawn0.step)⟩
              case rest =>
                clear HC8
                try clear c1
                try clear p2
                try clear c3
                try clear c3b0
                try clear c4
                try clear c6
                try clear c6b0
                try clear c7
                try clear c9
                try clear c9b0
                try clear p2
                obtain ⟨kq, x24_7, rfl, HA, HJ7, ⟨mc7, rfl⟩⟩ := hcut
                cases kq with
                | zero => exact absurd HA.out (by simp [spec_bindDigit.j2])
                | succ kj7 =>
                  have H := HA.out
                  clear HA
                  simp only [spec_bindDigit.j2] at H
                  by_cases c10 : x24_7 = true
                  · subst c10
                    have H1 : (some (((a0 - 65) % 256) + 10)) = some r := by rw [if_pos rfl] at H; exact H
                    clear H
                    have H := H1
                    clear H1
                    as_aux_lemma =>
                      obtain rfl := Option.some.inj H
                      go_wp2
                      go_ret
                      exact ⟨by first | rfl | (simp; done) | (simp [*]; done), by repeat (first | exact Drawn0.refl _ | apply Drawn0.step)⟩
                  · replace c10 := Bool.eq_false_iff.mpr c10
                    subst c10
                    have H1 : (some (-1)) = some r := by rw [if_neg (show ¬ (false = true) by decide)] at H; exact H
                    clear H
                    have H := H1
                    clear H1
                    as_aux_lemma =>
                      obtain rfl := Option.some.inj H
                      go_wp2
                      go_ret
                      exact ⟨by first | rfl | (simp; done) | (simp [*]; done), by repeat (first | exact Drawn0.refl _ | apply Drawn0.step)⟩

end Go.Proofs.YthlpmeiihchdjaaDoor.PZ
