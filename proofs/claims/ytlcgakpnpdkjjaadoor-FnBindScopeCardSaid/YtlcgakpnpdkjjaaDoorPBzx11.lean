/- Printed by a program of this session (a turned copy of the printer of the kit): contracts of functions of the translation, each with the Lean function that it computes. Conditions: as each theorem states them. -/
import Derived.Test.YtlcgakpnpdkjjaaDoorPBzx0
import Derived.Test.YtlcgakpnpdkjjaaDoorPBzx8
import Derived.Test.YtlcgakpnpdkjjaaDoorPBzx9
import Derived.Test.YtlcgakpnpdkjjaaDoorPBzx10
namespace Go.Proofs.YtlcgakpnpdkjjaaDoor.PBz
open Go.RowKit Go.Proofs.YtlcgakpnpdkjjaaDoorW.PrintWords Go.Proofs.YtlcgakpnpdkjjaaDoorW.PrintLast Go.Proofs.YtlcgakpnpdkjjaaDoorW.PrintMore
attribute [local go_sem] max2_int min2_int max_two min_two max_three min_three max_four min_four   -- for this text's walks alone
set_option linter.unusedVariables false
set_option linter.unusedSimpArgs false

/-! ### bsoncore_ReadElement: function 45 -/
mutual
def bsoncore_ReadElement.l0 : Nat → List Int → Int → Int → Option (List Int × List Int × Bool)
  | 0, _, _, _ => none
  | k + 1, x0, x5, x6 => if x6 < (x0.length : Int) then (if 0 ≤ x6 then (bsoncore_ReadElement.j1 k x0 x5 x6 ((rd x0 x6) != 0)) else (none)) else (bsoncore_ReadElement.j1 k x0 x5 x6 false)
def bsoncore_ReadElement.j1 : Nat → List Int → Int → Int → Bool → Option (List Int × List Int × Bool)
  | 0, _, _, _, _ => none
  | k + 1, x0, x5, x6, x27 => if x27 = true then (bsoncore_ReadElement.l0 k x0 x5 (wrap64 (x6 + 1))) else (if x6 ≥ (x0.length : Int) then (some (([] : List Int), x0, false)) else (if 0 ≤ (wrap64 (x6 + 1)) then (if (wrap64 (x6 + 1)) ≤ (x0.length : Int) then ((bsoncore_valueLength.f k (x0.drop ((wrap64 (x6 + 1)) : Int).toNat) x5).bind fun bt472 => (if bt472.2 = true then (if (wrap64 ((wrap64 (x6 + 1)) + (wrap64 (bt472.1)))) > (x0.length : Int) then (some (([] : List Int), x0, false)) else (if 0 ≤ (wrap64 ((wrap64 (x6 + 1)) + (wrap64 (bt472.1)))) then (if (wrap64 ((wrap64 (x6 + 1)) + (wrap64 (bt472.1)))) ≤ (x0.length : Int) then (some ((x0.take ((wrap64 ((wrap64 (x6 + 1)) + (wrap64 (bt472.1)))) : Int).toNat), (x0.drop ((wrap64 ((wrap64 (x6 + 1)) + (wrap64 (bt472.1)))) : Int).toNat), true)) else (none)) else (none))) else (some (([] : List Int), x0, false)))) else (none)) else (none)))
end
def bsoncore_ReadElement.f (k : Nat) (l0 : List Int) : Option (List Int × List Int × Bool) := if (l0.length : Int) < 1 then (some (([] : List Int), l0, false)) else (if 0 < (l0.length : Int) then (bsoncore_ReadElement.l0 k l0 (rd l0 0) 1) else (none))
theorem bsoncore_ReadElement.mono_l : ∀ k, (∀ y0 y1 y2, LeO (bsoncore_ReadElement.l0 k y0 y1 y2) (bsoncore_ReadElement.l0 (k + 1) y0 y1 y2)) ∧ (∀ y0 y1 y2 y3, LeO (bsoncore_ReadElement.j1 k y0 y1 y2 y3) (bsoncore_ReadElement.j1 (k + 1) y0 y1 y2 y3))
  | 0 => ⟨fun _ _ _ r h => by simp [bsoncore_ReadElement.l0] at h, fun _ _ _ _ r h => by simp [bsoncore_ReadElement.j1] at h⟩
  | k + 1 => by
    obtain ⟨ih0, ih1⟩ := bsoncore_ReadElement.mono_l k
    refine ⟨?_, ?_⟩
    · intro y0 y1 y2
      unfold bsoncore_ReadElement.l0
      repeat' first
      | (with_reducible exact ih0 _ _ _)
      | (with_reducible exact ih1 _ _ _ _)
      | (with_reducible exact bsoncore_valueLength.mono _ _ _)
      | (with_reducible exact LeO.refl _)
      | (with_reducible exact LeO.none _)
      | (with_reducible refine LeO.ite ?_ ?_)
      | (with_reducible refine LeO.bind ?_ (fun _ => ?_))
      | exact ih0 _ _ _
      | exact ih1 _ _ _ _
      | exact bsoncore_valueLength.mono _ _ _
      | exact LeO.none _
      | refine LeO.ite ?_ ?_
      | refine LeO.bind ?_ (fun _ => ?_)
    · intro y0 y1 y2 y3
      unfold bsoncore_ReadElement.j1
      repeat' first
      | (with_reducible exact ih0 _ _ _)
      | (with_reducible exact ih1 _ _ _ _)
      | (with_reducible exact bsoncore_valueLength.mono _ _ _)
      | (with_reducible exact LeO.refl _)
      | (with_reducible exact LeO.none _)
      | (with_reducible refine LeO.ite ?_ ?_)
      | (with_reducible refine LeO.bind ?_ (fun _ => ?_))
      | exact ih0 _ _ _
      | exact ih1 _ _ _ _
      | exact bsoncore_valueLength.mono _ _ _
      | exact LeO.none _
      | refine LeO.ite ?_ ?_
      | refine LeO.bind ?_ (fun _ => ?_)
theorem bsoncore_ReadElement.mono : ∀ a0 k, LeO (bsoncore_ReadElement.f k a0) (bsoncore_ReadElement.f (k + 1) a0) := by
  intro a0 k
  obtain ⟨ih0, ih1⟩ := bsoncore_ReadElement.mono_l k
  unfold bsoncore_ReadElement.f
  repeat' first
      | (with_reducible exact ih0 _ _ _)
      | (with_reducible exact ih1 _ _ _ _)
      | (with_reducible exact bsoncore_valueLength.mono _ _ _)
      | (with_reducible exact LeO.refl _)
      | (with_reducible exact LeO.none _)
      | (with_reducible refine LeO.ite ?_ ?_)
      | (with_reducible refine LeO.bind ?_ (fun _ => ?_))
      | exact ih0 _ _ _
      | exact ih1 _ _ _ _
      | exact bsoncore_valueLength.mono _ _ _
      | exact LeO.none _
      | refine LeO.ite ?_ ?_
      | refine LeO.bind ?_ (fun _ => ?_)
set_option maxHeartbeats 8000000 in
set_option maxRecDepth 100000 in
theorem bsoncore_ReadElement.calls (k : Nat) (P0_ : Nat → Prop) (A0 : Option Addr) (c0 : Nat) (l0 : List Int) (r1 : List Int) (r2 : List Int) (r3 : Bool) (w : World) (hs0 : Kd.V (Kd.int .u8) 5 w w.heap.size (fun k_ => P0_ k_) (.slice A0 l0.length c0) l0) (h : bsoncore_ReadElement.f k l0 = some (r1, r2, r3)) :
    Calls Tryd.prog 45 #[.slice A0 l0.length c0] w fun e w' => ∃ v0_ v1_ : Value, e = .returned (.tuple #[v0_, v1_, .bool r3]) ∧ Kd.V (Kd.int .u8) 5 w' w.heap.size (fun k_ => (P0_ k_ ∨ w.heap.size ≤ k_)) v0_ r1 ∧ Kd.V (Kd.int .u8) 5 w' w.heap.size (fun k_ => (P0_ k_ ∨ w.heap.size ≤ k_)) v1_ r2 ∧ Below w.heap.size w w' := by
  have HO0 := Aside0.mk (show Kd.V (Kd.int .u8) 5 w w.heap.size (fun k_ => (P0_ k_ ∨ w.heap.size ≤ k_)) (.slice A0 l0.length c0) l0 from Kd.V_mono hs0 (fun k_ hk => .inl hk)); have HB := Aside0.mk (Below.refl w.heap.size w); have H : (if (l0.length : Int) < 1 then (some (([] : List Int), l0, false)) else (if 0 < (l0.length : Int) then (bsoncore_ReadElement.l0 k l0 (rd l0 0) 1) else (none))) = some (r1, r2, r3) := h; clear h
  by_cases c2 : (l0.length : Int) < 1
  · rw [if_pos c2] at H
    have c2b0 : decide ((l0.length : Int) < 1) = true := decide_eq_true c2
    have c2b1 : decide (l0.length < 1) = true := decide_eq_true (by omega)
    clear c2
    as_aux_lemma =>
      simp only [Option.some.injEq, Prod.mk.injEq] at H
      obtain ⟨rfl, rfl, rfl⟩ := H
      go_enter Tryd.func45, Tryd.ntmps45
      go_wp2
      repeat (go_quiet (fail); try go_wp2)
      go_ret3
      exact ⟨_, _, by first | rfl | (simp [errW_none, errW_some] <;> rfl) | (simp [*, errW_none, errW_some] <;> rfl), Kd.V_nil _ _ _ _ _, HW.zV HO0.out, HW.zb⟩
  rw [if_neg c2] at H; have c2b0 : decide ((l0.length : Int) < 1) = false := decide_eq_false c2
  have c2b1 : decide (l0.length < 1) = false := decide_eq_false (by omega)
  clear c2
  by_cases c3 : 0 < (l0.length : Int)
  rotate_left
  · rw [if_neg c3] at H
    exact absurd H (by simp)
  rw [if_pos c3] at H; have c3b0 : decide (0 < (l0.length : Int)) = true := decide_eq_true c3
  have c3b1 : decide (0 < l0.length) = true := decide_eq_true (by omega)
  clear c3; have H' := Aside0.mk H; clear H
  have p465 : 0 ≤ (0 : Int) := (by omega)
  have q465 : 0 < (l0.length : Int) := of_decide_eq_true (by first | (with_reducible assumption) | assumption)
  obtain ⟨ad465, e465, hx465_0⟩ := Kd.at_int (Kd.V_reads' HO0.out).2.2 0 p465 q465
  cases e465
  have qi465 : (0 < l0.length) = True := eq_true (by omega)
  (try rw [show ((0 : Int)).toNat = 0 from rfl] at hx465_0)
  (try rw [Addr.add_zero'] at hx465_0)
  replace p465 := eq_true p465; replace q465 := eq_true q465
  go_enter Tryd.func45, Tryd.ntmps45
  go_wp2
  repeat (go_quiet (fail); try go_wp2)
  go_loopg [6] k (fun kq v6 w' => ∃ (x6_1 : Int), v6 = .int .i64 x6_1 ∧ Aside0 (bsoncore_ReadElement.l0 kq l0 (rd l0 0) x6_1 = some (r1, r2, r3)) ∧ Aside0 (kq ≤ k) ∧ Aside0 (Kd.V (Kd.int .u8) 5 w' w.heap.size (fun k_ => (P0_ k_ ∨ w.heap.size ≤ k_)) (.slice (some ad465) l0.length c0) l0) ∧ Aside0 (Below w.heap.size w w'))
  case atStart => exact ⟨(1), (by first | rfl | (simp; done) | (simp [*]; done)), H', ⟨Nat.le_refl _⟩, ⟨HW.zV HO0.out⟩, ⟨HW.zb⟩⟩
  case round =>
    clear H'; (try clear c2); (try clear c2b0); (try clear c2b1); (try clear p2); (try clear c3); (try clear c3b0); (try clear c3b1); (try clear hx465_0); (try clear p465); (try clear q465); obtain ⟨x6_1, rfl, HA, HK1, HO_0, HB⟩ := hrel
    cases gk with
    | zero => exact absurd HA.out (by simp [bsoncore_ReadElement.l0])
    | succ k1 =>
      have H := HA.out; clear HA
      simp only [bsoncore_ReadElement.l0] at H
      have HC4 := Aside0.mk H; clear H
      go_upto_region 5 with (fail)
      repeat (go_quiet (fail); go_upto_region 5 with (fail))
      go_cut [27] (fun v27 wc => ∃ (kq : Nat) (x27_3 : Bool), v27 = .bool x27_3 ∧ Aside0 (bsoncore_ReadElement.j1 kq l0 (rd l0 0) x6_1 x27_3 = some (r1, r2, r3)) ∧ Aside0 (kq ≤ k1) ∧ Aside0 (Kd.V (Kd.int .u8) 5 wc w.heap.size (fun k_ => (P0_ k_ ∨ w.heap.size ≤ k_)) (.slice (some ad465) l0.length c0) l0) ∧ Aside0 (Below w.heap.size w wc))
      case first =>
        have H := HC4.out; clear HC4
        by_cases c5 : x6_1 < (l0.length : Int)
        rotate_left
        · rw [if_neg c5] at H
          have c5b0 : decide (x6_1 < (l0.length : Int)) = false := decide_eq_false c5; clear c5
          (first | rw [c5b0] | (simp only [i64_w, i32_w]; rw [c5b0]) | skip)
          as_aux_lemma =>
            have H' := Aside0.mk H; clear H
            go_wp2
            repeat (go_quiet (fail); try go_wp2)
            go_meet
            case rel => exact ⟨_, (false), (by first | rfl | (simp; done) | (simp [*]; done)), H', ⟨by have := HK1.out; first | omega | exact Nat.le_refl _⟩, ⟨HW.zV HO_0.out⟩, ⟨HW.zb⟩⟩
        rw [if_pos c5] at H; have c5b0 : decide (x6_1 < (l0.length : Int)) = true := decide_eq_true c5; clear c5
        (first | rw [c5b0] | (simp only [i64_w, i32_w]; rw [c5b0]) | skip)
        by_cases c6 : 0 ≤ x6_1
        rotate_left
        · rw [if_neg c6] at H
          exact absurd H (by simp)
        rw [if_pos c6] at H; have c6b0 : decide (0 ≤ x6_1) = true := decide_eq_true c6; clear c6
        as_aux_lemma =>
          have H' := Aside0.mk H; clear H
          have p466 : 0 ≤ (x6_1 : Int) := of_decide_eq_true (by first | (with_reducible assumption) | assumption)
          have q466 : x6_1 < (l0.length : Int) := of_decide_eq_true (by first | (with_reducible assumption) | assumption)
          obtain ⟨ad466, e466, hx466_0⟩ := Kd.at_int (Kd.V_reads' HO_0.out).2.2 x6_1 p466 q466
          obtain rfl : ad465 = ad466 := (by injection e466)
          replace p466 := eq_true p466; replace q466 := eq_true q466
          go_wp2
          repeat (go_quiet (fail); try go_wp2)
          go_meet
          case rel => exact ⟨_, (((rd l0 x6_1) != 0)), (by first | rfl | (simp; done) | (simp [*]; done)), H', ⟨by have := HK1.out; first | omega | exact Nat.le_refl _⟩, ⟨HW.zV HO_0.out⟩, ⟨HW.zb⟩⟩
      case rest =>
        clear HC4; (try clear c2); (try clear c2b0); (try clear c2b1); (try clear p2); (try clear c3); (try clear c3b0); (try clear c3b1); (try clear c4); (try clear p4); (try clear q4); (try clear hx4); (try clear qi4); (try clear c5); (try clear c5b0); (try clear c6); (try clear c6b0); (try clear hx465_0); (try clear hx466_0); (try clear p2); (try clear p465); (try clear p466); (try clear q465); (try clear q466); obtain ⟨kq, x27_3, rfl, HA, HJ3, HO_0, HB⟩ := hcut
        cases kq with
        | zero => exact absurd HA.out (by simp [bsoncore_ReadElement.j1])
        | succ kj3 =>
          have H := HA.out; clear HA
          simp only [bsoncore_ReadElement.j1] at H
          by_cases c7 : x27_3 = true
          · subst c7
            have H1 : (bsoncore_ReadElement.l0 kj3 l0 (rd l0 0) (wrap64 (x6_1 + 1))) = some (r1, r2, r3) := by rw [if_pos rfl] at H; exact H
            clear H; have H := H1; clear H1
            as_aux_lemma =>
              have H' := Aside0.mk H; clear H
              go_wp2
              repeat (go_quiet (fail); try go_wp2)
              go_roundg kj3
              case measure => have := HK1.out; have := HJ3.out; omega
              case rel => exact ⟨(wrap64 (x6_1 + 1)), (by first | rfl | (simp; done) | (simp [*]; done)), H', ⟨by have := HK1.out; have := HJ3.out; omega⟩, ⟨HW.zV HO_0.out⟩, ⟨HW.zb⟩⟩
          replace c7 := Bool.eq_false_iff.mpr c7; subst c7
          have H1 : (if x6_1 ≥ (l0.length : Int) then (some (([] : List Int), l0, false)) else (if 0 ≤ (wrap64 (x6_1 + 1)) then (if (wrap64 (x6_1 + 1)) ≤ (l0.length : Int) then ((bsoncore_valueLength.f kj3 (l0.drop ((wrap64 (x6_1 + 1)) : Int).toNat) (rd l0 0)).bind fun bt472 => (if bt472.2 = true then (if (wrap64 ((wrap64 (x6_1 + 1)) + (wrap64 (bt472.1)))) > (l0.length : Int) then (some (([] : List Int), l0, false)) else (if 0 ≤ (wrap64 ((wrap64 (x6_1 + 1)) + (wrap64 (bt472.1)))) then (if (wrap64 ((wrap64 (x6_1 + 1)) + (wrap64 (bt472.1)))) ≤ (l0.length : Int) then (some ((l0.take ((wrap64 ((wrap64 (x6_1 + 1)) + (wrap64 (bt472.1)))) : Int).toNat), (l0.drop ((wrap64 ((wrap64 (x6_1 + 1)) + (wrap64 (bt472.1)))) : Int).toNat), true)) else (none)) else (none))) else (some (([] : List Int), l0, false)))) else (none)) else (none))) = some (r1, r2, r3) := by rw [if_neg (show ¬ (false = true) by decide)] at H; exact H
          clear H; have H := H1; clear H1
          by_cases c8 : x6_1 ≥ (l0.length : Int)
          · rw [if_pos c8] at H
            have c8b0 : decide ((l0.length : Int) ≤ x6_1) = true := decide_eq_true c8; clear c8
            as_aux_lemma =>
              simp only [Option.some.injEq, Prod.mk.injEq] at H
              obtain ⟨rfl, rfl, rfl⟩ := H
              go_wp2
              repeat (go_quiet (fail); try go_wp2)
              go_ret3
              exact ⟨_, _, by first | rfl | (simp [errW_none, errW_some] <;> rfl) | (simp [*, errW_none, errW_some] <;> rfl), Kd.V_nil _ _ _ _ _, HW.zV HO_0.out, HW.zb⟩
          rw [if_neg c8] at H; have c8b0 : decide ((l0.length : Int) ≤ x6_1) = false := decide_eq_false c8; clear c8; obtain ⟨ji9, hji9⟩ : ∃ j_ : Int, (wrap64 (x6_1 + 1)) = j_ := ⟨_, rfl⟩
          replace H : (if 0 ≤ (ji9) then (if (ji9) ≤ (l0.length : Int) then ((bsoncore_valueLength.f kj3 (l0.drop ((ji9) : Int).toNat) (rd l0 0)).bind fun bt472 => (if bt472.2 = true then (if (wrap64 ((ji9) + (wrap64 (bt472.1)))) > (l0.length : Int) then (some (([] : List Int), l0, false)) else (if 0 ≤ (wrap64 ((ji9) + (wrap64 (bt472.1)))) then (if (wrap64 ((ji9) + (wrap64 (bt472.1)))) ≤ (l0.length : Int) then (some ((l0.take ((wrap64 ((ji9) + (wrap64 (bt472.1)))) : Int).toNat), (l0.drop ((wrap64 ((ji9) + (wrap64 (bt472.1)))) : Int).toNat), true)) else (none)) else (none))) else (some (([] : List Int), l0, false)))) else (none)) else (none)) = some (r1, r2, r3) := by first | (rw [hji9] at H; exact H) | (simp only [hji9] at H ⊢; exact H)
          have hji9w : (IntKind.i64.wrap (x6_1 + 1)) = ji9 := (i64_w _).trans hji9
          by_cases c10 : 0 ≤ (ji9)
          rotate_left
          · rw [if_neg c10] at H
            exact absurd H (by simp)
          rw [if_pos c10] at H; have c10b0 := eq_true c10; have c10b1 : decide (0 ≤ (ji9)) = true := decide_eq_true c10; clear c10
          by_cases c11 : (ji9) ≤ (l0.length : Int)
          rotate_left
          · rw [if_neg c11] at H
            exact absurd H (by simp)
          rw [if_pos c11] at H; have c11b0 := eq_true c11; have c11b1 : decide ((ji9) ≤ (l0.length : Int)) = true := decide_eq_true c11; clear c11; obtain ⟨y467, hy467⟩ : ∃ y_ : List Int, y_ = (l0.drop ((ji9) : Int).toNat) := ⟨_, rfl⟩
          replace H : ((bsoncore_valueLength.f kj3 y467 (rd l0 0)).bind fun bt472 => (if bt472.2 = true then (if (wrap64 ((ji9) + (wrap64 (bt472.1)))) > (l0.length : Int) then (some (([] : List Int), l0, false)) else (if 0 ≤ (wrap64 ((ji9) + (wrap64 (bt472.1)))) then (if (wrap64 ((ji9) + (wrap64 (bt472.1)))) ≤ (l0.length : Int) then (some ((l0.take ((wrap64 ((ji9) + (wrap64 (bt472.1)))) : Int).toNat), (l0.drop ((wrap64 ((ji9) + (wrap64 (bt472.1)))) : Int).toNat), true)) else (none)) else (none))) else (some (([] : List Int), l0, false)))) = some (r1, r2, r3) := by first | (rw [hy467]; with_reducible exact H) | (have H2_ := (Option.bind_some _ _).symm.trans H; rw [hy467]; with_reducible exact H2_) | (have H2_ := (Option.bind_some _ _).symm.trans H; with_reducible exact H2_) | with_reducible exact H | (rw [hy467]; exact H) | exact H
          have Ny467 := Aside0.mk hy467; clear hy467; replace H := Option.bind_eq_some_iff.mp H; obtain ⟨⟨t472, t473⟩, A120, H⟩ := H; replace H : (if t473 = true then (if (wrap64 ((ji9) + (wrap64 (t472)))) > (l0.length : Int) then (some (([] : List Int), l0, false)) else (if 0 ≤ (wrap64 ((ji9) + (wrap64 (t472)))) then (if (wrap64 ((ji9) + (wrap64 (t472)))) ≤ (l0.length : Int) then (some ((l0.take ((wrap64 ((ji9) + (wrap64 (t472)))) : Int).toNat), (l0.drop ((wrap64 ((ji9) + (wrap64 (t472)))) : Int).toNat), true)) else (none)) else (none))) else (some (([] : List Int), l0, false))) = some (r1, r2, r3) := H; have A12 := Aside0.mk A120; clear A120
          by_cases c13 : t473 = true
          rotate_left
          · replace c13 := Bool.eq_false_iff.mpr c13
            subst c13
            have H1 : (some (([] : List Int), l0, false)) = some (r1, r2, r3) := by rw [if_neg (show ¬ (false = true) by decide)] at H; exact H
            clear H; have H := H1; clear H1
            as_aux_lemma =>
              simp only [Option.some.injEq, Prod.mk.injEq] at H
              obtain ⟨rfl, rfl, rfl⟩ := H
              have q26 : ((ji9) : Int) ≤ ((l0.length : Int) : Int) := of_decide_eq_true (by first | (with_reducible assumption) | assumption)
              obtain ⟨i026, hi026, _, hsz26, _⟩ := info_parts info5; have hroom26 : l0.length ≤ c0 := (Kd.V_reads' HO_0.out).2.1; have hC26 : Kd.F (Kd.int .u8) _ _ (some ad465) l0.length l0 := (Kd.V_at (base := w.heap.size) HO_0.out).2.2
              have q026 : (0 : Int) ≤ ((ji9) : Int) := of_decide_eq_true (by first | (with_reducible assumption) | assumption)
              have hcut26 := cut_from (P := Tryd.prog) 23 5 .i64 Tryd.underlying23 hi026 1 hsz26 (some ad465) l0.length c0 (ji9) q026 q26
              have hr26 := Kd.F_cut (m := ((ji9) : Int).toNat) (c := c0) hC26 (by omega) hroom26
              obtain ⟨A26, hA26⟩ : ∃ A1, A1 = (if c0 = ((ji9) : Int).toNat then (some ad465) else ((some ad465) : Option Addr).map (·.add (((ji9) : Int).toNat * 1))) := ⟨_, rfl⟩; obtain ⟨c26, hc26⟩ : ∃ c1, c1 = c0 - ((ji9) : Int).toNat := ⟨_, rfl⟩
              have hy26 : y467.length = l0.length - ((ji9) : Int).toNat := (by rw [Ny467.out, List.length_drop] <;> omega)
              rw [show (l0).drop ((ji9) : Int).toNat = y467 from Ny467.out.symm] at hr26
              replace hr26 : Kd.F (Kd.int .u8) _ _ A26 y467.length y467 := (by rw [hA26]; exact hr26)
              rw [← hy26, ← hA26, ← hc26] at hcut26
              have HO471 := Aside0.mk (show Kd.V (Kd.int .u8) 5 _ w.heap.size _ (.slice A26 y467.length c26) y467 from Kd.V_mk (by rw [hy26, hc26]; exact Nat.sub_le_sub_right hroom26 _) hr26)
              have HC471 := Aside0.mk (show y467.length ≤ c26 from by rw [hy26, hc26]; exact Nat.sub_le_sub_right hroom26 _)
              clear hr26 hC26 hroom26 hi026 hsz26 hc26; have KY26 := Aside0.mk hy26; have KA26 := Aside0.mk hA26; clear hy26 hA26; replace q26 := eq_true q26
              go_wp2_with (first | (go_at_call 58; (with_reducible refine (bsoncore_valueLength.calls kj3 _ _ y467 (rd l0 0) t472 false _ ?side1 ?side2 A12.out).mono ?_); (case side1 => repeat (first | exact (Kd.V_reads' HO471.out).2.2 | (with_reducible refine Kd.C_alloc ?_ _) | (with_reducible refine Kd.C_drewN ?_ _) | (with_reducible refine Kd.C_drew ?_))); (case side2 => exact (Kd.V_reads' HO471.out).2.1); rintro e w27 ⟨rfl, hb⟩; have n0_ := Aside0.mk (Kd.V_below (HW.zV HO_0.out) hb); have n1_ := Aside0.mk (Kd.V_below (HW.zV HO471.out) hb); have n2_ := Aside0.mk (below_step HW.zb hb); clear HO_0; clear HO471; clear HB; have HO_0 := n0_; have HO471 := n1_; have HB := n2_; clear n0_ n1_ n2_; (try clear hb); (try clear hb2); (try clear hk); (try clear hi)))
              repeat (go_quiet (first | (go_at_call 58; (with_reducible refine (bsoncore_valueLength.calls kj3 _ _ y467 (rd l0 0) t472 false _ ?side1 ?side2 A12.out).mono ?_); (case side1 => repeat (first | exact (Kd.V_reads' HO471.out).2.2 | (with_reducible refine Kd.C_alloc ?_ _) | (with_reducible refine Kd.C_drewN ?_ _) | (with_reducible refine Kd.C_drew ?_))); (case side2 => exact (Kd.V_reads' HO471.out).2.1); rintro e w27 ⟨rfl, hb⟩; have n0_ := Aside0.mk (Kd.V_below (HW.zV HO_0.out) hb); have n1_ := Aside0.mk (Kd.V_below (HW.zV HO471.out) hb); have n2_ := Aside0.mk (below_step HW.zb hb); clear HO_0; clear HO471; clear HB; have HO_0 := n0_; have HO471 := n1_; have HB := n2_; clear n0_ n1_ n2_; (try clear hb); (try clear hb2); (try clear hk); (try clear hi))); try go_wp2_with (first | (go_at_call 58; (with_reducible refine (bsoncore_valueLength.calls kj3 _ _ y467 (rd l0 0) t472 false _ ?side1 ?side2 A12.out).mono ?_); (case side1 => repeat (first | exact (Kd.V_reads' HO471.out).2.2 | (with_reducible refine Kd.C_alloc ?_ _) | (with_reducible refine Kd.C_drewN ?_ _) | (with_reducible refine Kd.C_drew ?_))); (case side2 => exact (Kd.V_reads' HO471.out).2.1); rintro e w27 ⟨rfl, hb⟩; have n0_ := Aside0.mk (Kd.V_below (HW.zV HO_0.out) hb); have n1_ := Aside0.mk (Kd.V_below (HW.zV HO471.out) hb); have n2_ := Aside0.mk (below_step HW.zb hb); clear HO_0; clear HO471; clear HB; have HO_0 := n0_; have HO471 := n1_; have HB := n2_; clear n0_ n1_ n2_; (try clear hb); (try clear hb2); (try clear hk); (try clear hi))))
              go_ret3
              exact ⟨_, _, by first | rfl | (simp [errW_none, errW_some] <;> rfl) | (simp only [← hji9]; first | rfl | (simp [errW_none, errW_some] <;> rfl)) | (simp [*, errW_none, errW_some] <;> rfl), Kd.V_nil _ _ _ _ _, HW.zV HO_0.out, HW.zb⟩
          subst c13
          have H1 : (if (wrap64 ((ji9) + (wrap64 (t472)))) > (l0.length : Int) then (some (([] : List Int), l0, false)) else (if 0 ≤ (wrap64 ((ji9) + (wrap64 (t472)))) then (if (wrap64 ((ji9) + (wrap64 (t472)))) ≤ (l0.length : Int) then (some ((l0.take ((wrap64 ((ji9) + (wrap64 (t472)))) : Int).toNat), (l0.drop ((wrap64 ((ji9) + (wrap64 (t472)))) : Int).toNat), true)) else (none)) else (none))) = some (r1, r2, r3) := by rw [if_pos rfl] at H; exact H
          clear H; have H := H1; clear H1
          by_cases c14 : (wrap64 ((ji9) + (wrap64 (t472)))) > (l0.length : Int)
          · rw [if_pos c14] at H
            have c14b0 : decide ((l0.length : Int) < (wrap64 ((ji9) + (wrap64 (t472))))) = true := decide_eq_true c14; clear c14
            as_aux_lemma =>
              simp only [Option.some.injEq, Prod.mk.injEq] at H
              obtain ⟨rfl, rfl, rfl⟩ := H
              have q15 : ((ji9) : Int) ≤ ((l0.length : Int) : Int) := of_decide_eq_true (by first | (with_reducible assumption) | assumption)
              obtain ⟨i015, hi015, _, hsz15, _⟩ := info_parts info5; have hroom15 : l0.length ≤ c0 := (Kd.V_reads' HO_0.out).2.1; have hC15 : Kd.F (Kd.int .u8) _ _ (some ad465) l0.length l0 := (Kd.V_at (base := w.heap.size) HO_0.out).2.2
              have q015 : (0 : Int) ≤ ((ji9) : Int) := of_decide_eq_true (by first | (with_reducible assumption) | assumption)
              have hcut15 := cut_from (P := Tryd.prog) 23 5 .i64 Tryd.underlying23 hi015 1 hsz15 (some ad465) l0.length c0 (ji9) q015 q15
              have hr15 := Kd.F_cut (m := ((ji9) : Int).toNat) (c := c0) hC15 (by omega) hroom15
              obtain ⟨A15, hA15⟩ : ∃ A1, A1 = (if c0 = ((ji9) : Int).toNat then (some ad465) else ((some ad465) : Option Addr).map (·.add (((ji9) : Int).toNat * 1))) := ⟨_, rfl⟩; obtain ⟨c15, hc15⟩ : ∃ c1, c1 = c0 - ((ji9) : Int).toNat := ⟨_, rfl⟩
              have hy15 : y467.length = l0.length - ((ji9) : Int).toNat := (by rw [Ny467.out, List.length_drop] <;> omega)
              rw [show (l0).drop ((ji9) : Int).toNat = y467 from Ny467.out.symm] at hr15
              replace hr15 : Kd.F (Kd.int .u8) _ _ A15 y467.length y467 := (by rw [hA15]; exact hr15)
              rw [← hy15, ← hA15, ← hc15] at hcut15
              have HO471 := Aside0.mk (show Kd.V (Kd.int .u8) 5 _ w.heap.size _ (.slice A15 y467.length c15) y467 from Kd.V_mk (by rw [hy15, hc15]; exact Nat.sub_le_sub_right hroom15 _) hr15)
              have HC471 := Aside0.mk (show y467.length ≤ c15 from by rw [hy15, hc15]; exact Nat.sub_le_sub_right hroom15 _)
              clear hr15 hC15 hroom15 hi015 hsz15 hc15; have KY15 := Aside0.mk hy15; have KA15 := Aside0.mk hA15; clear hy15 hA15; replace q15 := eq_true q15
              go_wp2_with (first | (go_at_call 58; (with_reducible refine (bsoncore_valueLength.calls kj3 _ _ y467 (rd l0 0) t472 true _ ?side1 ?side2 A12.out).mono ?_); (case side1 => repeat (first | exact (Kd.V_reads' HO471.out).2.2 | (with_reducible refine Kd.C_alloc ?_ _) | (with_reducible refine Kd.C_drewN ?_ _) | (with_reducible refine Kd.C_drew ?_))); (case side2 => exact (Kd.V_reads' HO471.out).2.1); rintro e w16 ⟨rfl, hb⟩; have n0_ := Aside0.mk (Kd.V_below (HW.zV HO_0.out) hb); have n1_ := Aside0.mk (Kd.V_below (HW.zV HO471.out) hb); have n2_ := Aside0.mk (below_step HW.zb hb); clear HO_0; clear HO471; clear HB; have HO_0 := n0_; have HO471 := n1_; have HB := n2_; clear n0_ n1_ n2_; (try clear hb); (try clear hb2); (try clear hk); (try clear hi)))
              repeat (go_quiet (first | (go_at_call 58; (with_reducible refine (bsoncore_valueLength.calls kj3 _ _ y467 (rd l0 0) t472 true _ ?side1 ?side2 A12.out).mono ?_); (case side1 => repeat (first | exact (Kd.V_reads' HO471.out).2.2 | (with_reducible refine Kd.C_alloc ?_ _) | (with_reducible refine Kd.C_drewN ?_ _) | (with_reducible refine Kd.C_drew ?_))); (case side2 => exact (Kd.V_reads' HO471.out).2.1); rintro e w16 ⟨rfl, hb⟩; have n0_ := Aside0.mk (Kd.V_below (HW.zV HO_0.out) hb); have n1_ := Aside0.mk (Kd.V_below (HW.zV HO471.out) hb); have n2_ := Aside0.mk (below_step HW.zb hb); clear HO_0; clear HO471; clear HB; have HO_0 := n0_; have HO471 := n1_; have HB := n2_; clear n0_ n1_ n2_; (try clear hb); (try clear hb2); (try clear hk); (try clear hi))); try go_wp2_with (first | (go_at_call 58; (with_reducible refine (bsoncore_valueLength.calls kj3 _ _ y467 (rd l0 0) t472 true _ ?side1 ?side2 A12.out).mono ?_); (case side1 => repeat (first | exact (Kd.V_reads' HO471.out).2.2 | (with_reducible refine Kd.C_alloc ?_ _) | (with_reducible refine Kd.C_drewN ?_ _) | (with_reducible refine Kd.C_drew ?_))); (case side2 => exact (Kd.V_reads' HO471.out).2.1); rintro e w16 ⟨rfl, hb⟩; have n0_ := Aside0.mk (Kd.V_below (HW.zV HO_0.out) hb); have n1_ := Aside0.mk (Kd.V_below (HW.zV HO471.out) hb); have n2_ := Aside0.mk (below_step HW.zb hb); clear HO_0; clear HO471; clear HB; have HO_0 := n0_; have HO471 := n1_; have HB := n2_; clear n0_ n1_ n2_; (try clear hb); (try clear hb2); (try clear hk); (try clear hi))))
              go_ret3
              exact ⟨_, _, by first | rfl | (simp [errW_none, errW_some] <;> rfl) | (simp only [← hji9]; first | rfl | (simp [errW_none, errW_some] <;> rfl)) | (simp [*, errW_none, errW_some] <;> rfl), Kd.V_nil _ _ _ _ _, HW.zV HO_0.out, HW.zb⟩
          rw [if_neg c14] at H; have c14b0 : decide ((l0.length : Int) < (wrap64 ((ji9) + (wrap64 (t472))))) = false := decide_eq_false c14; clear c14; obtain ⟨ji17, hji17⟩ : ∃ j_ : Int, (wrap64 ((ji9) + (wrap64 (t472)))) = j_ := ⟨_, rfl⟩
          replace H : (if 0 ≤ (ji17) then (if (ji17) ≤ (l0.length : Int) then (some ((l0.take ((ji17) : Int).toNat), (l0.drop ((ji17) : Int).toNat), true)) else (none)) else (none)) = some (r1, r2, r3) := by first | (rw [hji17] at H; exact H) | (simp only [hji17] at H ⊢; exact H)
          (try rw [hji17] at c14b0)
          (try rw [hji17] at A12)
          have hji17w : (IntKind.i64.wrap ((ji9) + (wrap64 (t472)))) = ji17 := (i64_w _).trans hji17
          by_cases c18 : 0 ≤ (ji17)
          rotate_left
          · rw [if_neg c18] at H
            exact absurd H (by simp)
          rw [if_pos c18] at H; have c18b0 := eq_true c18; have c18b1 : decide (0 ≤ (ji17)) = true := decide_eq_true c18; clear c18
          by_cases c19 : (ji17) ≤ (l0.length : Int)
          rotate_left
          · rw [if_neg c19] at H
            exact absurd H (by simp)
          rw [if_pos c19] at H; have c19b0 := eq_true c19; have c19b1 : decide ((ji17) ≤ (l0.length : Int)) = true := decide_eq_true c19; clear c19; obtain ⟨y474, hy474⟩ : ∃ y_ : List Int, y_ = (l0.take ((ji17) : Int).toNat) := ⟨_, rfl⟩
          replace H : (some (y474, (l0.drop ((ji17) : Int).toNat), true)) = some (r1, r2, r3) := by first | (rw [hy474]; with_reducible exact H) | (have H2_ := (Option.bind_some _ _).symm.trans H; rw [hy474]; with_reducible exact H2_) | (have H2_ := (Option.bind_some _ _).symm.trans H; with_reducible exact H2_) | with_reducible exact H | (rw [hy474]; exact H) | exact H
          have Ny474 := Aside0.mk hy474; clear hy474
          have c20b0 := eq_true (of_decide_eq_true (by first | (with_reducible assumption) | assumption) : 0 ≤ (ji17))
          have c21b0 := eq_true (of_decide_eq_true (by first | (with_reducible assumption) | assumption) : (ji17) ≤ (l0.length : Int))
          obtain ⟨y479, hy479⟩ : ∃ y_ : List Int, y_ = (l0.drop ((ji17) : Int).toNat) := ⟨_, rfl⟩
          replace H : (some (y474, y479, true)) = some (r1, r2, r3) := by first | (rw [hy479]; with_reducible exact H) | (have H2_ := (Option.bind_some _ _).symm.trans H; rw [hy479]; with_reducible exact H2_) | (have H2_ := (Option.bind_some _ _).symm.trans H; with_reducible exact H2_) | with_reducible exact H | (rw [hy479]; exact H) | exact H
          have Ny479 := Aside0.mk hy479; clear hy479
          as_aux_lemma =>
            simp only [Option.some.injEq, Prod.mk.injEq] at H
            obtain ⟨rfl, rfl, rfl⟩ := H
            have q22 : ((ji9) : Int) ≤ ((l0.length : Int) : Int) := of_decide_eq_true (by first | (with_reducible assumption) | assumption)
            obtain ⟨i022, hi022, _, hsz22, _⟩ := info_parts info5; have hroom22 : l0.length ≤ c0 := (Kd.V_reads' HO_0.out).2.1; have hC22 : Kd.F (Kd.int .u8) _ _ (some ad465) l0.length l0 := (Kd.V_at (base := w.heap.size) HO_0.out).2.2
            have q022 : (0 : Int) ≤ ((ji9) : Int) := of_decide_eq_true (by first | (with_reducible assumption) | assumption)
            have hcut22 := cut_from (P := Tryd.prog) 23 5 .i64 Tryd.underlying23 hi022 1 hsz22 (some ad465) l0.length c0 (ji9) q022 q22
            have hr22 := Kd.F_cut (m := ((ji9) : Int).toNat) (c := c0) hC22 (by omega) hroom22
            obtain ⟨A22, hA22⟩ : ∃ A1, A1 = (if c0 = ((ji9) : Int).toNat then (some ad465) else ((some ad465) : Option Addr).map (·.add (((ji9) : Int).toNat * 1))) := ⟨_, rfl⟩; obtain ⟨c22, hc22⟩ : ∃ c1, c1 = c0 - ((ji9) : Int).toNat := ⟨_, rfl⟩
            have hy22 : y467.length = l0.length - ((ji9) : Int).toNat := (by rw [Ny467.out, List.length_drop] <;> omega)
            rw [show (l0).drop ((ji9) : Int).toNat = y467 from Ny467.out.symm] at hr22
            replace hr22 : Kd.F (Kd.int .u8) _ _ A22 y467.length y467 := (by rw [hA22]; exact hr22)
            rw [← hy22, ← hA22, ← hc22] at hcut22
            have HO471 := Aside0.mk (show Kd.V (Kd.int .u8) 5 _ w.heap.size _ (.slice A22 y467.length c22) y467 from Kd.V_mk (by rw [hy22, hc22]; exact Nat.sub_le_sub_right hroom22 _) hr22)
            have HC471 := Aside0.mk (show y467.length ≤ c22 from by rw [hy22, hc22]; exact Nat.sub_le_sub_right hroom22 _)
            clear hr22 hC22 hroom22 hi022 hsz22 hc22; have KY22 := Aside0.mk hy22; have KA22 := Aside0.mk hA22; clear hy22 hA22; replace q22 := eq_true q22
            go_wp2_with (first | (go_at_call 58; (with_reducible refine (bsoncore_valueLength.calls kj3 _ _ y467 (rd l0 0) t472 true _ ?side1 ?side2 A12.out).mono ?_); (case side1 => repeat (first | exact (Kd.V_reads' HO471.out).2.2 | (with_reducible refine Kd.C_alloc ?_ _) | (with_reducible refine Kd.C_drewN ?_ _) | (with_reducible refine Kd.C_drew ?_))); (case side2 => exact (Kd.V_reads' HO471.out).2.1); rintro e w23 ⟨rfl, hb⟩; have n0_ := Aside0.mk (Kd.V_below (HW.zV HO_0.out) hb); have n1_ := Aside0.mk (Kd.V_below (HW.zV HO471.out) hb); have n2_ := Aside0.mk (below_step HW.zb hb); clear HO_0; clear HO471; clear HB; have HO_0 := n0_; have HO471 := n1_; have HB := n2_; clear n0_ n1_ n2_; (try clear hb); (try clear hb2); (try clear hk); (try clear hi); have q24 : ((ji17) : Int) ≤ ((l0.length : Int) : Int) := of_decide_eq_true (by first | (with_reducible assumption) | assumption); obtain ⟨i024, hi024, _, hsz24, _⟩ := info_parts info5; have hroom24 : l0.length ≤ c0 := (Kd.V_reads' HO_0.out).2.1; have hC24 : Kd.F (Kd.int .u8) _ _ (some ad465) l0.length l0 := (Kd.V_at (base := w.heap.size) HO_0.out).2.2; have hcut24 := cut_to (P := Tryd.prog) 23 5 .i64 Tryd.underlying23 hi024 (some ad465) l0.length c0 (ji17) (of_decide_eq_true (by first | (with_reducible assumption) | assumption)) q24 hroom24; have hr24 := Kd.F_take (m := ((ji17) : Int).toNat) hC24 (by omega); have hy24 : y474.length = ((ji17) : Int).toNat := (by rw [Ny474.out, List.length_take]; omega); rw [← Ny474.out] at hr24; rw [← hy24] at hcut24; have HO478 := Aside0.mk (show Kd.V (Kd.int .u8) 5 _ w.heap.size _ (.slice (some ad465) y474.length c0) y474 from Kd.V_mk (by omega) hr24); have HC478 := Aside0.mk (show y474.length ≤ c0 from by omega); clear hr24 hC24 hroom24 hi024 hsz24; have KY24 := Aside0.mk hy24; clear hy24; replace q24 := eq_true q24; have q25 : ((ji17) : Int) ≤ ((l0.length : Int) : Int) := of_decide_eq_true (by first | (with_reducible assumption) | assumption); obtain ⟨i025, hi025, _, hsz25, _⟩ := info_parts info5; have hroom25 : l0.length ≤ c0 := (Kd.V_reads' HO_0.out).2.1; have hC25 : Kd.F (Kd.int .u8) _ _ (some ad465) l0.length l0 := (Kd.V_at (base := w.heap.size) HO_0.out).2.2; have q025 : (0 : Int) ≤ ((ji17) : Int) := of_decide_eq_true (by first | (with_reducible assumption) | assumption); have hcut25 := cut_from (P := Tryd.prog) 23 5 .i64 Tryd.underlying23 hi025 1 hsz25 (some ad465) l0.length c0 (ji17) q025 q25; have hr25 := Kd.F_cut (m := ((ji17) : Int).toNat) (c := c0) hC25 (by omega) hroom25; obtain ⟨A25, hA25⟩ : ∃ A1, A1 = (if c0 = ((ji17) : Int).toNat then (some ad465) else ((some ad465) : Option Addr).map (·.add (((ji17) : Int).toNat * 1))) := ⟨_, rfl⟩; obtain ⟨c25, hc25⟩ : ∃ c1, c1 = c0 - ((ji17) : Int).toNat := ⟨_, rfl⟩; have hy25 : y479.length = l0.length - ((ji17) : Int).toNat := (by rw [Ny479.out, List.length_drop] <;> omega); rw [show (l0).drop ((ji17) : Int).toNat = y479 from Ny479.out.symm] at hr25; replace hr25 : Kd.F (Kd.int .u8) _ _ A25 y479.length y479 := (by rw [hA25]; exact hr25); rw [← hy25, ← hA25, ← hc25] at hcut25; have HO483 := Aside0.mk (show Kd.V (Kd.int .u8) 5 _ w.heap.size _ (.slice A25 y479.length c25) y479 from Kd.V_mk (by rw [hy25, hc25]; exact Nat.sub_le_sub_right hroom25 _) hr25); have HC483 := Aside0.mk (show y479.length ≤ c25 from by rw [hy25, hc25]; exact Nat.sub_le_sub_right hroom25 _); clear hr25 hC25 hroom25 hi025 hsz25 hc25; have KY25 := Aside0.mk hy25; have KA25 := Aside0.mk hA25; clear hy25 hA25; replace q25 := eq_true q25))
            repeat (go_quiet (first | (go_at_call 58; (with_reducible refine (bsoncore_valueLength.calls kj3 _ _ y467 (rd l0 0) t472 true _ ?side1 ?side2 A12.out).mono ?_); (case side1 => repeat (first | exact (Kd.V_reads' HO471.out).2.2 | (with_reducible refine Kd.C_alloc ?_ _) | (with_reducible refine Kd.C_drewN ?_ _) | (with_reducible refine Kd.C_drew ?_))); (case side2 => exact (Kd.V_reads' HO471.out).2.1); rintro e w23 ⟨rfl, hb⟩; have n0_ := Aside0.mk (Kd.V_below (HW.zV HO_0.out) hb); have n1_ := Aside0.mk (Kd.V_below (HW.zV HO471.out) hb); have n2_ := Aside0.mk (below_step HW.zb hb); clear HO_0; clear HO471; clear HB; have HO_0 := n0_; have HO471 := n1_; have HB := n2_; clear n0_ n1_ n2_; (try clear hb); (try clear hb2); (try clear hk); (try clear hi); have q24 : ((ji17) : Int) ≤ ((l0.length : Int) : Int) := of_decide_eq_true (by first | (with_reducible assumption) | assumption); obtain ⟨i024, hi024, _, hsz24, _⟩ := info_parts info5; have hroom24 : l0.length ≤ c0 := (Kd.V_reads' HO_0.out).2.1; have hC24 : Kd.F (Kd.int .u8) _ _ (some ad465) l0.length l0 := (Kd.V_at (base := w.heap.size) HO_0.out).2.2; have hcut24 := cut_to (P := Tryd.prog) 23 5 .i64 Tryd.underlying23 hi024 (some ad465) l0.length c0 (ji17) (of_decide_eq_true (by first | (with_reducible assumption) | assumption)) q24 hroom24; have hr24 := Kd.F_take (m := ((ji17) : Int).toNat) hC24 (by omega); have hy24 : y474.length = ((ji17) : Int).toNat := (by rw [Ny474.out, List.length_take]; omega); rw [← Ny474.out] at hr24; rw [← hy24] at hcut24; have HO478 := Aside0.mk (show Kd.V (Kd.int .u8) 5 _ w.heap.size _ (.slice (some ad465) y474.length c0) y474 from Kd.V_mk (by omega) hr24); have HC478 := Aside0.mk (show y474.length ≤ c0 from by omega); clear hr24 hC24 hroom24 hi024 hsz24; have KY24 := Aside0.mk hy24; clear hy24; replace q24 := eq_true q24; have q25 : ((ji17) : Int) ≤ ((l0.length : Int) : Int) := of_decide_eq_true (by first | (with_reducible assumption) | assumption); obtain ⟨i025, hi025, _, hsz25, _⟩ := info_parts info5; have hroom25 : l0.length ≤ c0 := (Kd.V_reads' HO_0.out).2.1; have hC25 : Kd.F (Kd.int .u8) _ _ (some ad465) l0.length l0 := (Kd.V_at (base := w.heap.size) HO_0.out).2.2; have q025 : (0 : Int) ≤ ((ji17) : Int) := of_decide_eq_true (by first | (with_reducible assumption) | assumption); have hcut25 := cut_from (P := Tryd.prog) 23 5 .i64 Tryd.underlying23 hi025 1 hsz25 (some ad465) l0.length c0 (ji17) q025 q25; have hr25 := Kd.F_cut (m := ((ji17) : Int).toNat) (c := c0) hC25 (by omega) hroom25; obtain ⟨A25, hA25⟩ : ∃ A1, A1 = (if c0 = ((ji17) : Int).toNat then (some ad465) else ((some ad465) : Option Addr).map (·.add (((ji17) : Int).toNat * 1))) := ⟨_, rfl⟩; obtain ⟨c25, hc25⟩ : ∃ c1, c1 = c0 - ((ji17) : Int).toNat := ⟨_, rfl⟩; have hy25 : y479.length = l0.length - ((ji17) : Int).toNat := (by rw [Ny479.out, List.length_drop] <;> omega); rw [show (l0).drop ((ji17) : Int).toNat = y479 from Ny479.out.symm] at hr25; replace hr25 : Kd.F (Kd.int .u8) _ _ A25 y479.length y479 := (by rw [hA25]; exact hr25); rw [← hy25, ← hA25, ← hc25] at hcut25; have HO483 := Aside0.mk (show Kd.V (Kd.int .u8) 5 _ w.heap.size _ (.slice A25 y479.length c25) y479 from Kd.V_mk (by rw [hy25, hc25]; exact Nat.sub_le_sub_right hroom25 _) hr25); have HC483 := Aside0.mk (show y479.length ≤ c25 from by rw [hy25, hc25]; exact Nat.sub_le_sub_right hroom25 _); clear hr25 hC25 hroom25 hi025 hsz25 hc25; have KY25 := Aside0.mk hy25; have KA25 := Aside0.mk hA25; clear hy25 hA25; replace q25 := eq_true q25)); try go_wp2_with (first | (go_at_call 58; (with_reducible refine (bsoncore_valueLength.calls kj3 _ _ y467 (rd l0 0) t472 true _ ?side1 ?side2 A12.out).mono ?_); (case side1 => repeat (first | exact (Kd.V_reads' HO471.out).2.2 | (with_reducible refine Kd.C_alloc ?_ _) | (with_reducible refine Kd.C_drewN ?_ _) | (with_reducible refine Kd.C_drew ?_))); (case side2 => exact (Kd.V_reads' HO471.out).2.1); rintro e w23 ⟨rfl, hb⟩; have n0_ := Aside0.mk (Kd.V_below (HW.zV HO_0.out) hb); have n2_ := Aside0.mk (below_step HW.zb hb); clear HO_0; clear HB; have HO_0 := n0_; have HB := n2_; clear n0_ n2_; (try clear hb); (try clear hb2); (try clear hk); (try clear hi); have q24 : ((ji17) : Int) ≤ ((l0.length : Int) : Int) := of_decide_eq_true (by first | (with_reducible assumption) | assumption); obtain ⟨i024, hi024, _, hsz24, _⟩ := info_parts info5; have hroom24 : l0.length ≤ c0 := (Kd.V_reads' HO_0.out).2.1; have hC24 : Kd.F (Kd.int .u8) _ _ (some ad465) l0.length l0 := (Kd.V_at (base := w.heap.size) HO_0.out).2.2; have hcut24 := cut_to (P := Tryd.prog) 23 5 .i64 Tryd.underlying23 hi024 (some ad465) l0.length c0 (ji17) (of_decide_eq_true (by first | (with_reducible assumption) | assumption)) q24 hroom24; have hr24 := Kd.F_take (m := ((ji17) : Int).toNat) hC24 (by omega); have hy24 : y474.length = ((ji17) : Int).toNat := (by rw [Ny474.out, List.length_take]; omega); rw [← Ny474.out] at hr24; rw [← hy24] at hcut24; have HO478 := Aside0.mk (show Kd.V (Kd.int .u8) 5 _ w.heap.size _ (.slice (some ad465) y474.length c0) y474 from Kd.V_mk (by omega) hr24); have HC478 := Aside0.mk (show y474.length ≤ c0 from by omega); clear hr24 hC24 hroom24 hi024 hsz24; have KY24 := Aside0.mk hy24; clear hy24; replace q24 := eq_true q24; have q25 : ((ji17) : Int) ≤ ((l0.length : Int) : Int) := of_decide_eq_true (by first | (with_reducible assumption) | assumption); obtain ⟨i025, hi025, _, hsz25, _⟩ := info_parts info5; have hroom25 : l0.length ≤ c0 := (Kd.V_reads' HO_0.out).2.1; have hC25 : Kd.F (Kd.int .u8) _ _ (some ad465) l0.length l0 := (Kd.V_at (base := w.heap.size) HO_0.out).2.2; have q025 : (0 : Int) ≤ ((ji17) : Int) := of_decide_eq_true (by first | (with_reducible assumption) | assumption); have hcut25 := cut_from (P := Tryd.prog) 23 5 .i64 Tryd.underlying23 hi025 1 hsz25 (some ad465) l0.length c0 (ji17) q025 q25; have hr25 := Kd.F_cut (m := ((ji17) : Int).toNat) (c := c0) hC25 (by omega) hroom25; obtain ⟨A25, hA25⟩ : ∃ A1, A1 = (if c0 = ((ji17) : Int).toNat then (some ad465) else ((some ad465) : Option Addr).map (·.add (((ji17) : Int).toNat * 1))) := ⟨_, rfl⟩; obtain ⟨c25, hc25⟩ : ∃ c1, c1 = c0 - ((ji17) : Int).toNat := ⟨_, rfl⟩; have hy25 : y479.length = l0.length - ((ji17) : Int).toNat := (by rw [Ny479.out, List.length_drop] <;> omega); rw [show (l0).drop ((ji17) : Int).toNat = y479 from Ny479.out.symm] at hr25; replace hr25 : Kd.F (Kd.int .u8) _ _ A25 y479.length y479 := (by rw [hA25]; exact hr25); rw [← hy25, ← hA25, ← hc25] at hcut25; have HO483 := Aside0.mk (show Kd.V (Kd.int .u8) 5 _ w.heap.size _ (.slice A25 y479.length c25) y479 from Kd.V_mk (by rw [hy25, hc25]; exact Nat.sub_le_sub_right hroom25 _) hr25); have HC483 := Aside0.mk (show y479.length ≤ c25 from by rw [hy25, hc25]; exact Nat.sub_le_sub_right hroom25 _); clear hr25 hC25 hroom25 hi025 hsz25 hc25; have KY25 := Aside0.mk hy25; have KA25 := Aside0.mk hA25; clear hy25 hA25; replace q25 := eq_true q25)))
            go_ret3
            exact ⟨_, _, by first | rfl | (simp [errW_none, errW_some] <;> rfl) | (simp only [← hji9, ← hji17]; first | rfl | (simp [errW_none, errW_some] <;> rfl)) | (simp [*, errW_none, errW_some] <;> rfl), HW.zV HO478.out, HW.zV HO483.out, HW.zb⟩

/-! ### bsoncore_Element_KeyBytesErr: function 54 -/
def bsoncore_Element_KeyBytesErr.f (l0 : List Int) : Option (List Int × Option Int) := if (l0.length : Int) = 0 then (none) else (if 1 ≤ (l0.length : Int) then ((bytes_IndexByte.f (l0.drop 1) 0).bind fun t489 => (if t489 = (-1) then (none) else (if 1 ≤ (wrap64 (t489 + 1)) then (if (wrap64 (t489 + 1)) ≤ (l0.length : Int) then (some (((l0.take ((wrap64 (t489 + 1)) : Int).toNat).drop 1), none)) else (none)) else (none)))) else (none))
set_option maxHeartbeats 8000000 in
set_option maxRecDepth 100000 in
theorem bsoncore_Element_KeyBytesErr.calls (P0_ : Nat → Prop) (A0 : Option Addr) (c0 : Nat) (l0 : List Int) (r1 : List Int) (r2 : Option Int) (w : World) (hs0 : Kd.V (Kd.int .u8) 5 w w.heap.size (fun k_ => P0_ k_) (.slice A0 l0.length c0) l0) (h : bsoncore_Element_KeyBytesErr.f l0 = some (r1, r2)) :
    Calls Tryd.prog 54 #[.slice A0 l0.length c0] w fun e w' => ∃ v0_ : Value, e = .returned (.tuple #[v0_, errW r2]) ∧ Kd.V (Kd.int .u8) 5 w' w.heap.size (fun k_ => (P0_ k_ ∨ w.heap.size ≤ k_)) v0_ r1 ∧ Below w.heap.size w w' := by
  have hu56 := Tryd.underlying56; have HO0 := Aside0.mk (show Kd.V (Kd.int .u8) 5 w w.heap.size (fun k_ => (P0_ k_ ∨ w.heap.size ≤ k_)) (.slice A0 l0.length c0) l0 from Kd.V_mono hs0 (fun k_ hk => .inl hk)); have HB := Aside0.mk (Below.refl w.heap.size w); have H : (if (l0.length : Int) = 0 then (none) else (if 1 ≤ (l0.length : Int) then ((bytes_IndexByte.f (l0.drop 1) 0).bind fun t489 => (if t489 = (-1) then (none) else (if 1 ≤ (wrap64 (t489 + 1)) then (if (wrap64 (t489 + 1)) ≤ (l0.length : Int) then (some (((l0.take ((wrap64 (t489 + 1)) : Int).toNat).drop 1), none)) else (none)) else (none)))) else (none))) = some (r1, r2) := h; clear h
  by_cases c2 : (l0.length : Int) = 0
  · rw [if_pos c2] at H
    exact absurd H (by simp)
  rw [if_neg c2] at H; have c2b0 : ((l0.length : Int) == 0) = false := beq_eq_false_iff_ne.mpr c2; have c2b1 : ((l0.length : Int) != 0) = true := bne_iff_ne.mpr c2
  have c2b2 : ¬ (l0 = []) := fun h_ => c2 (by rw [h_]; rfl)
  by_cases c3 : 1 ≤ (l0.length : Int)
  rotate_left
  · rw [if_neg c3] at H
    exact absurd H (by simp)
  rw [if_pos c3] at H; have c3b0 := eq_true c3; have c3b1 : decide (1 ≤ (l0.length : Int)) = true := decide_eq_true c3; clear c3; obtain ⟨y484, hy484⟩ : ∃ y_ : List Int, y_ = (l0.drop 1) := ⟨_, rfl⟩
  replace H : ((bytes_IndexByte.f y484 0).bind fun t489 => (if t489 = (-1) then (none) else (if 1 ≤ (wrap64 (t489 + 1)) then (if (wrap64 (t489 + 1)) ≤ (l0.length : Int) then (some (((l0.take ((wrap64 (t489 + 1)) : Int).toNat).drop 1), none)) else (none)) else (none)))) = some (r1, r2) := by first | (rw [hy484]; with_reducible exact H) | (have H2_ := (Option.bind_some _ _).symm.trans H; rw [hy484]; with_reducible exact H2_) | (have H2_ := (Option.bind_some _ _).symm.trans H; with_reducible exact H2_) | with_reducible exact H | (rw [hy484]; exact H) | exact H
  have Ny484 := Aside0.mk hy484; clear hy484; replace H := Option.bind_eq_some_iff.mp H; obtain ⟨t489, A40, H⟩ := H; replace H : (if t489 = (-1) then (none) else (if 1 ≤ (wrap64 (t489 + 1)) then (if (wrap64 (t489 + 1)) ≤ (l0.length : Int) then (some (((l0.take ((wrap64 (t489 + 1)) : Int).toNat).drop 1), none)) else (none)) else (none))) = some (r1, r2) := H; have A4 := Aside0.mk A40; clear A40
  by_cases c5 : t489 = (-1)
  · rw [if_pos c5] at H
    exact absurd H (by simp)
  rw [if_neg c5] at H; have c5b0 : (t489 == (-1)) = false := beq_eq_false_iff_ne.mpr c5; have c5b1 : (t489 != (-1)) = true := bne_iff_ne.mpr c5
  by_cases c6 : 1 ≤ (wrap64 (t489 + 1))
  rotate_left
  · rw [if_neg c6] at H
    exact absurd H (by simp)
  rw [if_pos c6] at H; have c6b0 := eq_true c6; have c6b1 : decide (1 ≤ (wrap64 (t489 + 1))) = true := decide_eq_true c6
  by_cases c7 : (wrap64 (t489 + 1)) ≤ (l0.length : Int)
  rotate_left
  · rw [if_neg c7] at H
    exact absurd H (by simp)
  rw [if_pos c7] at H; have c7b0 := eq_true c7; have c7b1 : decide ((wrap64 (t489 + 1)) ≤ (l0.length : Int)) = true := decide_eq_true c7; obtain ⟨y490, hy490⟩ : ∃ y_ : List Int, y_ = ((l0.take ((wrap64 (t489 + 1)) : Int).toNat).drop 1) := ⟨_, rfl⟩
  replace H : (some (y490, none)) = some (r1, r2) := by first | (rw [hy490]; with_reducible exact H) | (have H2_ := (Option.bind_some _ _).symm.trans H; rw [hy490]; with_reducible exact H2_) | (have H2_ := (Option.bind_some _ _).symm.trans H; with_reducible exact H2_) | with_reducible exact H | (rw [hy490]; exact H) | exact H
  have Ny490 := Aside0.mk hy490; clear hy490
  as_aux_lemma =>
    simp only [Option.some.injEq, Prod.mk.injEq] at H
    obtain ⟨rfl, rfl⟩ := H
    have q8 : (1 : Int) ≤ ((l0.length : Int) : Int) := of_decide_eq_true (by first | (with_reducible assumption) | assumption)
    obtain ⟨i08, hi08, _, hsz8, _⟩ := info_parts info5; have hroom8 : l0.length ≤ c0 := (Kd.V_reads' HO0.out).2.1; have hC8 : Kd.F (Kd.int .u8) _ _ A0 l0.length l0 := (Kd.V_at (base := w.heap.size) HO0.out).2.2
    have hcut8 := cut_from (P := Tryd.prog) 92 5 .i64 Tryd.underlying92 hi08 1 hsz8 A0 l0.length c0 1 (by omega) q8
    have hr8 := Kd.F_cut (m := (1 : Int).toNat) (c := c0) hC8 (by omega) hroom8
    obtain ⟨A8, hA8⟩ : ∃ A1, A1 = (if c0 = (1 : Int).toNat then A0 else (A0 : Option Addr).map (·.add ((1 : Int).toNat * 1))) := ⟨_, rfl⟩; obtain ⟨c8, hc8⟩ : ∃ c1, c1 = c0 - (1 : Int).toNat := ⟨_, rfl⟩
    have hy8 : y484.length = l0.length - (1 : Int).toNat := (by rw [Ny484.out, List.length_drop] <;> omega)
    rw [show (l0).drop (1 : Int).toNat = y484 from Ny484.out.symm] at hr8
    replace hr8 : Kd.F (Kd.int .u8) _ _ A8 y484.length y484 := (by rw [hA8]; exact hr8)
    rw [← hy8, ← hA8, ← hc8] at hcut8
    have HO488 := Aside0.mk (show Kd.V (Kd.int .u8) 5 _ w.heap.size _ (.slice A8 y484.length c8) y484 from Kd.V_mk (by rw [hy8, hc8]; exact Nat.sub_le_sub_right hroom8 _) hr8)
    have HC488 := Aside0.mk (show y484.length ≤ c8 from by rw [hy8, hc8]; exact Nat.sub_le_sub_right hroom8 _)
    clear hr8 hC8 hroom8 hi08 hsz8 hc8; have KY8 := Aside0.mk hy8; have KA8 := Aside0.mk hA8; clear hy8 hA8; replace q8 := eq_true q8
    go_enter Tryd.func54, Tryd.ntmps54
    go_wp2_with (first | ((with_reducible refine gate_callee (f := 55) rfl ?_); refine HW.gz (some 11) rfl rfl Tryd.func55 (by kernel_rfl) rfl #[.slice A8 y484.length c8, .int .u8 0] rfl ?_; (with_reducible refine (bytes_IndexByte.calls _ _ y484 0 t489 _ ?side1 ?side2 A4.out).mono ?_); (case side1 => repeat (first | exact (Kd.V_reads' HO488.out).2.2 | (with_reducible refine Kd.C_alloc ?_ _) | (with_reducible refine Kd.C_drewN ?_ _) | (with_reducible refine Kd.C_drew ?_))); (case side2 => exact (Kd.V_reads' HO488.out).2.1); rintro e w' ⟨rfl, ⟨nd, rfl⟩⟩; refine ⟨_, rfl, ?_⟩; have q9 : ((wrap64 (t489 + 1)) : Int) ≤ ((l0.length : Int) : Int) := of_decide_eq_true (by first | (with_reducible assumption) | assumption); obtain ⟨i09, hi09, _, hsz9, _⟩ := info_parts info5; have hroom9 : l0.length ≤ c0 := (Kd.V_reads' HO0.out).2.1; have hC9 : Kd.F (Kd.int .u8) _ _ A0 l0.length l0 := (Kd.V_at (base := w.heap.size) HO0.out).2.2; have ql9 : (1 : Int) ≤ ((wrap64 (t489 + 1)) : Int) := of_decide_eq_true (by first | (with_reducible assumption) | assumption); have hcut9 := cut_mid (P := Tryd.prog) 92 5 .i64 .i64 Tryd.underlying92 hi09 1 hsz9 A0 l0.length c0 1 (wrap64 (t489 + 1)) (by omega) ql9 q9 hroom9; have hr9 := Kd.F_mid (lo := (1 : Int).toNat) (hi := ((wrap64 (t489 + 1)) : Int).toNat) (c := c0) hC9 (by omega) (by omega) hroom9; obtain ⟨A9, hA9⟩ : ∃ A1, A1 = (if c0 = (1 : Int).toNat then A0 else (A0 : Option Addr).map (·.add ((1 : Int).toNat * 1))) := ⟨_, rfl⟩; obtain ⟨c9, hc9⟩ : ∃ c1, c1 = c0 - (1 : Int).toNat := ⟨_, rfl⟩; have hy9 : y490.length = ((wrap64 (t489 + 1)) : Int).toNat - (1 : Int).toNat := (by rw [Ny490.out, List.length_drop, List.length_take] <;> omega); rw [show ((l0).take ((wrap64 (t489 + 1)) : Int).toNat).drop (1 : Int).toNat = y490 from Ny490.out.symm] at hr9; replace hr9 : Kd.F (Kd.int .u8) _ _ A9 y490.length y490 := (by rw [hA9]; exact hr9); rw [← hy9, ← hA9, ← hc9] at hcut9; have HO494 := Aside0.mk (show Kd.V (Kd.int .u8) 5 _ w.heap.size _ (.slice A9 y490.length c9) y490 from Kd.V_mk (by rw [hy9, hc9]; exact Nat.sub_le_sub_right (Nat.le_trans (by omega) hroom9) _) hr9); have HC494 := Aside0.mk (show y490.length ≤ c9 from by rw [hy9, hc9]; exact Nat.sub_le_sub_right (Nat.le_trans (by omega) hroom9) _); clear hr9 hC9 hroom9 hi09 hsz9 hc9; have KY9 := Aside0.mk hy9; have KA9 := Aside0.mk hA9; clear hy9 hA9; replace q9 := eq_true q9))
    go_ret2
    exact ⟨_, by first | rfl | (simp [errW_none, errW_some] <;> rfl) | (simp [*, errW_none, errW_some] <;> rfl), HW.zV HO494.out, HW.zb⟩

/-! ### bsoncore_Element_KeyBytes: function 46 -/
def bsoncore_Element_KeyBytes.f (l0 : List Int) : Option (List Int) := (bsoncore_Element_KeyBytesErr.f l0).bind fun bt495 => (some bt495.1)
set_option maxHeartbeats 8000000 in
set_option maxRecDepth 100000 in
theorem bsoncore_Element_KeyBytes.calls (P0_ : Nat → Prop) (A0 : Option Addr) (c0 : Nat) (l0 : List Int) (r : List Int) (w : World) (hs0 : Kd.V (Kd.int .u8) 5 w w.heap.size (fun k_ => P0_ k_) (.slice A0 l0.length c0) l0) (h : bsoncore_Element_KeyBytes.f l0 = some r) :
    Calls Tryd.prog 46 #[.slice A0 l0.length c0] w fun e w' => ∃ v0_ : Value, e = .returned (v0_) ∧ Kd.V (Kd.int .u8) 5 w' w.heap.size (fun k_ => (P0_ k_ ∨ w.heap.size ≤ k_)) v0_ r ∧ Below w.heap.size w w' := by
  have HO0 := Aside0.mk (show Kd.V (Kd.int .u8) 5 w w.heap.size (fun k_ => (P0_ k_ ∨ w.heap.size ≤ k_)) (.slice A0 l0.length c0) l0 from Kd.V_mono hs0 (fun k_ hk => .inl hk)); have HB := Aside0.mk (Below.refl w.heap.size w); have H : ((bsoncore_Element_KeyBytesErr.f l0).bind fun bt495 => (some bt495.1)) = some r := h; clear h; replace H := Option.bind_eq_some_iff.mp H; obtain ⟨⟨t495, t498⟩, A20, H⟩ := H; replace H : (some t495) = some r := H; have A2 := Aside0.mk A20; clear A20
  as_aux_lemma =>
    obtain rfl := Option.some.inj H
    go_enter Tryd.func46, Tryd.ntmps46
    go_wp2_with (first | ((with_reducible refine gate_callee (f := 54) rfl ?_); refine HW.gz (some 7) rfl rfl Tryd.func54 (by kernel_rfl) rfl #[.slice A0 l0.length c0] rfl ?_; (with_reducible refine (bsoncore_Element_KeyBytesErr.calls (fun k_ => (P0_ k_ ∨ w.heap.size ≤ k_)) _ _ l0 t495 t498 _ ?side1 A2.out).mono ?_); (case side1 => exact HO0.out); rintro e w3 ⟨v496, rfl, ho0, hb⟩; refine ⟨_, rfl, ?_⟩; have n1_ := Aside0.mk (Kd.V_lower (Kd.V_mono (ok' := fun k_ => (P0_ k_ ∨ w.heap.size ≤ k_)) ho0 (fun k_ hk_ => Or.elim hk_ (fun hs_ => hs_) (fun hn_ => (.inr (Nat.le_trans (below_size HW.zb) hn_))))) (below_size HW.zb)); have n2_ := Aside0.mk (below_step HW.zb hb); clear HB; have HO497 := n1_; have HB := n2_; clear n1_ n2_; (try clear hb); (try clear hb2); (try clear hk); (try clear hi); (try clear ho0); (try simp only [errW_none, errW_some])))
    go_ret
    exact ⟨_, by first | rfl | (simp [errW_none, errW_some] <;> rfl) | (simp [*, errW_none, errW_some] <;> rfl), HW.zV HO497.out, HW.zb⟩

/-! ### bsoncore_Element_Value: function 47 -/
def bsoncore_Element_Value.f (k : Nat) (l0 : List Int) : Option (Int × List Int) := (bsoncore_Element_ValueErr.f k l0).bind fun bt500 => (some (bt500.1, bt500.2.1))
theorem bsoncore_Element_Value.mono : ∀ a0 k, LeO (bsoncore_Element_Value.f k a0) (bsoncore_Element_Value.f (k + 1) a0) := by
  intro a0 k
  unfold bsoncore_Element_Value.f
  repeat' first
      | (with_reducible exact bsoncore_Element_ValueErr.mono _ _)
      | (with_reducible exact LeO.refl _)
      | (with_reducible exact LeO.none _)
      | (with_reducible refine LeO.ite ?_ ?_)
      | (with_reducible refine LeO.bind ?_ (fun _ => ?_))
      | exact bsoncore_Element_ValueErr.mono _ _
      | exact LeO.none _
      | refine LeO.ite ?_ ?_
      | refine LeO.bind ?_ (fun _ => ?_)
set_option maxHeartbeats 8000000 in
set_option maxRecDepth 100000 in
theorem bsoncore_Element_Value.calls (k : Nat) (P0_ : Nat → Prop) (A0 : Option Addr) (c0 : Nat) (l0 : List Int) (r1 : Int) (r2 : List Int) (w : World) (hs0 : Kd.V (Kd.int .u8) 5 w w.heap.size (fun k_ => P0_ k_) (.slice A0 l0.length c0) l0) (h : bsoncore_Element_Value.f k l0 = some (r1, r2)) :
    Calls Tryd.prog 47 #[.slice A0 l0.length c0] w fun e w' => ∃ v1_ : Value, e = .returned (.agg #[.int .u8 r1, v1_]) ∧ Kd.V (Kd.int .u8) 5 w' w.heap.size (fun k_ => (P0_ k_ ∨ w.heap.size ≤ k_)) v1_ r2 ∧ Below w.heap.size w w' := by
  have hu77 := Tryd.underlying77; have HO0 := Aside0.mk (show Kd.V (Kd.int .u8) 5 w w.heap.size (fun k_ => (P0_ k_ ∨ w.heap.size ≤ k_)) (.slice A0 l0.length c0) l0 from Kd.V_mono hs0 (fun k_ hk => .inl hk)); have HB := Aside0.mk (Below.refl w.heap.size w); have H : ((bsoncore_Element_ValueErr.f k l0).bind fun bt500 => (some (bt500.1, bt500.2.1))) = some (r1, r2) := h; clear h; replace H := Option.bind_eq_some_iff.mp H; obtain ⟨⟨t500, t501, t504⟩, A20, H⟩ := H; replace H : (some (t500, t501)) = some (r1, r2) := H; have A2 := Aside0.mk A20; clear A20
  as_aux_lemma =>
    simp only [Option.some.injEq, Prod.mk.injEq] at H
    obtain ⟨rfl, rfl⟩ := H
    go_enter Tryd.func47, Tryd.ntmps47
    go_wp2_with (first | ((with_reducible refine gate_dst (N := 2) rfl ?_); refine box_event ?hg (N := 2) ?hd (cs := #[.int .u8 0, .slice none 0 0]) (t := 77) ?hr ?_; (case hd => rfl); (case hg => rfl); (case hr => first | (go_simp; done) | (go_simp; rfl)); intro gb499 hg w3 hbox hb; have n0_ := Aside0.mk (Kd.V_below (Kd.V_elderB (HW.zV HO0.out) gb499 (Nat.le_of_eq hg.symm)) hb); have n1_ := Aside0.mk (below_step HW.zb hb); have n2_ := Aside0.mk (hbox); have n4_ := Aside0.mk ((by rw [hg]; exact (below_size HW.zb) : w.heap.size ≤ gb499)); clear HO0; clear HB; have HO0 := n0_; have HB := n1_; have BK499 := n2_; have GE499 := n4_; clear n0_ n1_ n2_ n4_; clear hb hbox hg) | ((with_reducible refine gate_callee (f := 37) rfl ?_); refine HW.gz (some 7) rfl rfl Tryd.func37 (by kernel_rfl) rfl #[.slice A0 l0.length c0] rfl ?_; (with_reducible refine (bsoncore_Element_ValueErr.calls k (fun k_ => ((P0_ k_ ∨ w.heap.size ≤ k_) ∧ k_ ≠ gb499)) _ _ l0 t500 t501 t504 _ ?side1 A2.out).mono ?_); (case side1 => exact HO0.out); rintro e w4 ⟨v502, rfl, ho0, hb⟩; refine ⟨_, rfl, ?_⟩; have n1_ := Aside0.mk (Kd.V_lower (Kd.V_mono (ok' := fun k_ => (P0_ k_ ∨ w.heap.size ≤ k_) ∧ k_ ≠ gb499) ho0 (fun k_ hk_ => ⟨Or.elim hk_ (fun hs_ => hs_.1) (fun hn_ => (.inr (Nat.le_trans (below_size HW.zb) hn_))), Or.elim hk_ (fun hs_ => hs_.2) (fun hn_ => (Kd.freshB (g := gb499) (o := .cells #[.int .u8 0, .slice none 0 0] 77 (0, 0)) (HW.zB BK499.out) k_ hn_))⟩)) (below_size HW.zb)); have n2_ := Aside0.mk (blk_below (g := gb499) (o := .cells #[.int .u8 0, .slice none 0 0] 77 (0, 0)) (HW.zB BK499.out) hb); have n3_ := Aside0.mk (below_step HW.zb hb); clear BK499; clear HB; have HO503 := n1_; have BK499 := n2_; have HB := n3_; clear n1_ n2_ n3_; (try clear hb); (try clear hb2); (try clear hk); (try clear hi); (try clear ho0); (try simp only [errW_none, errW_some])) | ((with_reducible refine gate_dst (N := 3) rfl ?_); refine box_event ?hg (N := 3) ?hd (cs := #[.int .u8 0, .slice none 0 0]) (t := 77) ?hr ?_; (case hd => rfl); (case hg => rfl); (case hr => first | (go_simp; done) | (go_simp; rfl)); intro gb505 hg w5 hbox hb; have n1_ := Aside0.mk (Kd.V_below (Kd.V_elderB (HW.zV HO503.out) gb505 (Nat.le_of_eq hg.symm)) hb); have n2_ := Aside0.mk (blk_below (g := gb499) (o := .cells #[.int .u8 0, .slice none 0 0] 77 (0, 0)) (HW.zB BK499.out) hb); have n3_ := Aside0.mk (below_step HW.zb hb); have n4_ := Aside0.mk (hbox); have n6_ := Aside0.mk ((by rw [hg]; exact (below_size HW.zb) : w.heap.size ≤ gb505)); have n7_ := Aside0.mk ((by rw [hg]; exact Nat.ne_of_lt (blk_lt (g := gb499) (o := .cells #[.int .u8 0, .slice none 0 0] 77 (0, 0)) (HW.zB BK499.out)) : gb499 ≠ gb505)); have n8_ := Aside0.mk ((by rw [hg]; exact Nat.ne_of_gt (blk_lt (g := gb499) (o := .cells #[.int .u8 0, .slice none 0 0] 77 (0, 0)) (HW.zB BK499.out)) : gb505 ≠ gb499)); clear HO503; clear BK499; clear HB; have HO503 := n1_; have BK499 := n2_; have HB := n3_; have BK505 := n4_; have GE505 := n6_; have NB499_505 := n7_; have NB505_499 := n8_; clear n1_ n2_ n3_ n4_ n6_ n7_ n8_; clear hb hbox hg; have hnb6 := NB505_499.out; have hnc6 := NB499_505.out; have hcz7_0 := HW.zc BK505.out 0 (.int .u8 0); have hcz7_1 := HW.zc BK505.out 1 (.slice none 0 0); have hfz8_0 := blk_frozen BK505.out 0; have hfz8_1 := blk_frozen BK505.out 1; obtain ⟨Ao9, co9, eo9⟩ := Kd.V_slice HO503.out; subst eo9; have hcz10_0 := HW.zc BK499.out 0 (.int .u8 0); have hcz10_1 := HW.zc BK499.out 1 (.slice none 0 0); have hfz11_0 := blk_frozen BK499.out 0; have hfz11_1 := blk_frozen BK499.out 1))
    refine bodyPost_ret (results_cell_row rfl _ _ gb499 77 #[.int .u8 t500, .slice Ao9 t501.length co9] (0, 0) _ rfl (by (with_reducible repeat (first | refine blk_drewN ?_ _ | refine blk_drew ?_ | refine blk_alloc ?_ _)); refine blk_put (cs := #[.int .u8 t500, .slice none 0 0]) ?_ 1 _ rfl; (with_reducible repeat (first | refine blk_drewN ?_ _ | refine blk_drew ?_ | refine blk_alloc ?_ _)); refine blk_put (cs := #[.int .u8 0, .slice none 0 0]) ?_ 0 _ rfl; (with_reducible repeat (first | refine blk_drewN ?_ _ | refine blk_drew ?_ | refine blk_alloc ?_ _)); refine blk_far ?_ NB499_505.out _; (with_reducible repeat (first | refine blk_drewN ?_ _ | refine blk_drew ?_ | refine blk_alloc ?_ _)); refine blk_far ?_ NB499_505.out _; (with_reducible repeat (first | refine blk_drewN ?_ _ | refine blk_drew ?_ | refine blk_alloc ?_ _)); exact BK499.out) Tryd.underlying77 rfl (by kernel_rfl)) rfl ?_
    exact ⟨_, by first | rfl | (simp [errW_none, errW_some] <;> rfl) | (simp [*, errW_none, errW_some] <;> rfl), by (with_reducible repeat (first | apply Kd.V_alloc | apply Kd.V_drewN | apply Kd.V_drew)); exact Kd.V_mono (Kd.V_far (p := ⟨gb499, 1, none⟩) (Kd.V_far (p := ⟨gb499, 0, none⟩) (Kd.V_far (p := ⟨gb505, 1, none⟩) (Kd.V_far (p := ⟨gb505, 0, none⟩) (Kd.V_mono (Kd.V_mono HO503.out (fun k_ hk => (⟨hk, hk.2⟩ : _ ∧ k_ ≠ gb505))) (fun k_ hk => (⟨hk, hk.1.1.2⟩ : _ ∧ k_ ≠ gb499))) (fun _ hk => hk.1.2) (.int .u8 t500)) (fun _ hk => hk.1.2) (.slice Ao9 t501.length co9)) (fun _ hk => hk.2) (.int .u8 t500)) (fun _ hk => hk.2) (.slice Ao9 t501.length co9)) (fun _ hk => hk.1.1.1.1), HW.zb⟩

/-! ### bsoncore_readLengthBytes: function 64 -/
def bsoncore_readLengthBytes.f (l0 : List Int) : Option (List Int × List Int × Bool) := (bsoncore_ReadLength.f l0).bind fun bt506 => (if bt506.2.2 = true then (if bt506.1 < 4 then (some (([] : List Int), l0, false)) else (if (l0.length : Int) < (wrap64 (bt506.1)) then (some (([] : List Int), l0, false)) else (if 0 ≤ bt506.1 then (if bt506.1 ≤ (l0.length : Int) then (some ((l0.take (bt506.1 : Int).toNat), (l0.drop (bt506.1 : Int).toNat), true)) else (none)) else (none)))) else (some (([] : List Int), l0, false)))
set_option maxHeartbeats 8000000 in
set_option maxRecDepth 100000 in
theorem bsoncore_readLengthBytes.calls (P0_ : Nat → Prop) (A0 : Option Addr) (c0 : Nat) (l0 : List Int) (r1 : List Int) (r2 : List Int) (r3 : Bool) (w : World) (hs0 : Kd.V (Kd.int .u8) 5 w w.heap.size (fun k_ => P0_ k_) (.slice A0 l0.length c0) l0) (h : bsoncore_readLengthBytes.f l0 = some (r1, r2, r3)) :
    Calls Tryd.prog 64 #[.slice A0 l0.length c0] w fun e w' => ∃ v0_ v1_ : Value, e = .returned (.tuple #[v0_, v1_, .bool r3]) ∧ Kd.V (Kd.int .u8) 5 w' w.heap.size (fun k_ => (P0_ k_ ∨ w.heap.size ≤ k_)) v0_ r1 ∧ Kd.V (Kd.int .u8) 5 w' w.heap.size (fun k_ => (P0_ k_ ∨ w.heap.size ≤ k_)) v1_ r2 ∧ Below w.heap.size w w' := by
  have HO0 := Aside0.mk (show Kd.V (Kd.int .u8) 5 w w.heap.size (fun k_ => (P0_ k_ ∨ w.heap.size ≤ k_)) (.slice A0 l0.length c0) l0 from Kd.V_mono hs0 (fun k_ hk => .inl hk)); have HB := Aside0.mk (Below.refl w.heap.size w); have H : ((bsoncore_ReadLength.f l0).bind fun bt506 => (if bt506.2.2 = true then (if bt506.1 < 4 then (some (([] : List Int), l0, false)) else (if (l0.length : Int) < (wrap64 (bt506.1)) then (some (([] : List Int), l0, false)) else (if 0 ≤ bt506.1 then (if bt506.1 ≤ (l0.length : Int) then (some ((l0.take (bt506.1 : Int).toNat), (l0.drop (bt506.1 : Int).toNat), true)) else (none)) else (none)))) else (some (([] : List Int), l0, false)))) = some (r1, r2, r3) := h; clear h; replace H := Option.bind_eq_some_iff.mp H; obtain ⟨⟨t506, t507, t510⟩, A20, H⟩ := H; replace H : (if t510 = true then (if t506 < 4 then (some (([] : List Int), l0, false)) else (if (l0.length : Int) < (wrap64 (t506)) then (some (([] : List Int), l0, false)) else (if 0 ≤ t506 then (if t506 ≤ (l0.length : Int) then (some ((l0.take (t506 : Int).toNat), (l0.drop (t506 : Int).toNat), true)) else (none)) else (none)))) else (some (([] : List Int), l0, false))) = some (r1, r2, r3) := H; have A2 := Aside0.mk A20; clear A20
  by_cases c3 : t510 = true
  rotate_left
  · replace c3 := Bool.eq_false_iff.mpr c3
    subst c3
    have H1 : (some (([] : List Int), l0, false)) = some (r1, r2, r3) := by rw [if_neg (show ¬ (false = true) by decide)] at H; exact H
    clear H; have H := H1; clear H1
    as_aux_lemma =>
      simp only [Option.some.injEq, Prod.mk.injEq] at H
      obtain ⟨rfl, rfl, rfl⟩ := H
      go_enter Tryd.func64, Tryd.ntmps64
      go_wp2_with (first | (go_at_call 43; (with_reducible refine (bsoncore_ReadLength.calls (fun k_ => (P0_ k_ ∨ w.heap.size ≤ k_)) _ _ l0 t506 t507 false _ ?side1 A2.out).mono ?_); (case side1 => exact HO0.out); rintro e w15 ⟨v508, rfl, ho0, hb⟩; have n0_ := Aside0.mk (Kd.V_below (HW.zV HO0.out) hb); have n2_ := Aside0.mk (below_step HW.zb hb); clear HO0; clear HB; have HO0 := n0_; have HB := n2_; clear n0_ n2_; (try clear hb); (try clear hb2); (try clear hk); (try clear hi); (try clear ho0)))
      repeat (go_quiet (first | (go_at_call 43; (with_reducible refine (bsoncore_ReadLength.calls (fun k_ => (P0_ k_ ∨ w.heap.size ≤ k_)) _ _ l0 t506 t507 false _ ?side1 A2.out).mono ?_); (case side1 => exact HO0.out); rintro e w15 ⟨v508, rfl, ho0, hb⟩; have n0_ := Aside0.mk (Kd.V_below (HW.zV HO0.out) hb); have n2_ := Aside0.mk (below_step HW.zb hb); clear HO0; clear HB; have HO0 := n0_; have HB := n2_; clear n0_ n2_; (try clear hb); (try clear hb2); (try clear hk); (try clear hi); (try clear ho0))); try go_wp2_with (first | (go_at_call 43; (with_reducible refine (bsoncore_ReadLength.calls (fun k_ => (P0_ k_ ∨ w.heap.size ≤ k_)) _ _ l0 t506 t507 false _ ?side1 A2.out).mono ?_); (case side1 => exact HO0.out); rintro e w15 ⟨v508, rfl, ho0, hb⟩; have n0_ := Aside0.mk (Kd.V_below (HW.zV HO0.out) hb); have n2_ := Aside0.mk (below_step HW.zb hb); clear HO0; clear HB; have HO0 := n0_; have HB := n2_; clear n0_ n2_; (try clear hb); (try clear hb2); (try clear hk); (try clear hi); (try clear ho0))))
      go_ret3
      exact ⟨_, _, by first | rfl | (simp [errW_none, errW_some] <;> rfl) | (simp [*, errW_none, errW_some] <;> rfl), Kd.V_nil _ _ _ _ _, HW.zV HO0.out, HW.zb⟩
  subst c3
  have H1 : (if t506 < 4 then (some (([] : List Int), l0, false)) else (if (l0.length : Int) < (wrap64 (t506)) then (some (([] : List Int), l0, false)) else (if 0 ≤ t506 then (if t506 ≤ (l0.length : Int) then (some ((l0.take (t506 : Int).toNat), (l0.drop (t506 : Int).toNat), true)) else (none)) else (none)))) = some (r1, r2, r3) := by rw [if_pos rfl] at H; exact H
  clear H; have H := H1; clear H1
  by_cases c4 : t506 < 4
  · rw [if_pos c4] at H
    have c4b0 : decide (t506 < 4) = true := decide_eq_true c4; clear c4
    as_aux_lemma =>
      simp only [Option.some.injEq, Prod.mk.injEq] at H
      obtain ⟨rfl, rfl, rfl⟩ := H
      go_enter Tryd.func64, Tryd.ntmps64
      go_wp2_with (first | (go_at_call 43; (with_reducible refine (bsoncore_ReadLength.calls (fun k_ => (P0_ k_ ∨ w.heap.size ≤ k_)) _ _ l0 t506 t507 true _ ?side1 A2.out).mono ?_); (case side1 => exact HO0.out); rintro e w5 ⟨v508, rfl, ho0, hb⟩; have n0_ := Aside0.mk (Kd.V_below (HW.zV HO0.out) hb); have n2_ := Aside0.mk (below_step HW.zb hb); clear HO0; clear HB; have HO0 := n0_; have HB := n2_; clear n0_ n2_; (try clear hb); (try clear hb2); (try clear hk); (try clear hi); (try clear ho0)))
      repeat (go_quiet (first | (go_at_call 43; (with_reducible refine (bsoncore_ReadLength.calls (fun k_ => (P0_ k_ ∨ w.heap.size ≤ k_)) _ _ l0 t506 t507 true _ ?side1 A2.out).mono ?_); (case side1 => exact HO0.out); rintro e w5 ⟨v508, rfl, ho0, hb⟩; have n0_ := Aside0.mk (Kd.V_below (HW.zV HO0.out) hb); have n2_ := Aside0.mk (below_step HW.zb hb); clear HO0; clear HB; have HO0 := n0_; have HB := n2_; clear n0_ n2_; (try clear hb); (try clear hb2); (try clear hk); (try clear hi); (try clear ho0))); try go_wp2_with (first | (go_at_call 43; (with_reducible refine (bsoncore_ReadLength.calls (fun k_ => (P0_ k_ ∨ w.heap.size ≤ k_)) _ _ l0 t506 t507 true _ ?side1 A2.out).mono ?_); (case side1 => exact HO0.out); rintro e w5 ⟨v508, rfl, ho0, hb⟩; have n0_ := Aside0.mk (Kd.V_below (HW.zV HO0.out) hb); have n2_ := Aside0.mk (below_step HW.zb hb); clear HO0; clear HB; have HO0 := n0_; have HB := n2_; clear n0_ n2_; (try clear hb); (try clear hb2); (try clear hk); (try clear hi); (try clear ho0))))
      go_ret3
      exact ⟨_, _, by first | rfl | (simp [errW_none, errW_some] <;> rfl) | (simp [*, errW_none, errW_some] <;> rfl), Kd.V_nil _ _ _ _ _, HW.zV HO0.out, HW.zb⟩
  rw [if_neg c4] at H; have c4b0 : decide (t506 < 4) = false := decide_eq_false c4; clear c4
  by_cases c6 : (l0.length : Int) < (wrap64 (t506))
  · rw [if_pos c6] at H
    have c6b0 : decide ((l0.length : Int) < (wrap64 (t506))) = true := decide_eq_true c6; clear c6
    as_aux_lemma =>
      simp only [Option.some.injEq, Prod.mk.injEq] at H
      obtain ⟨rfl, rfl, rfl⟩ := H
      go_enter Tryd.func64, Tryd.ntmps64
      go_wp2_with (first | (go_at_call 43; (with_reducible refine (bsoncore_ReadLength.calls (fun k_ => (P0_ k_ ∨ w.heap.size ≤ k_)) _ _ l0 t506 t507 true _ ?side1 A2.out).mono ?_); (case side1 => exact HO0.out); rintro e w7 ⟨v508, rfl, ho0, hb⟩; have n0_ := Aside0.mk (Kd.V_below (HW.zV HO0.out) hb); have n2_ := Aside0.mk (below_step HW.zb hb); clear HO0; clear HB; have HO0 := n0_; have HB := n2_; clear n0_ n2_; (try clear hb); (try clear hb2); (try clear hk); (try clear hi); (try clear ho0)))
      repeat (go_quiet (first | (go_at_call 43; (with_reducible refine (bsoncore_ReadLength.calls (fun k_ => (P0_ k_ ∨ w.heap.size ≤ k_)) _ _ l0 t506 t507 true _ ?side1 A2.out).mono ?_); (case side1 => exact HO0.out); rintro e w7 ⟨v508, rfl, ho0, hb⟩; have n0_ := Aside0.mk (Kd.V_below (HW.zV HO0.out) hb); have n2_ := Aside0.mk (below_step HW.zb hb); clear HO0; clear HB; have HO0 := n0_; have HB := n2_; clear n0_ n2_; (try clear hb); (try clear hb2); (try clear hk); (try clear hi); (try clear ho0))); try go_wp2_with (first | (go_at_call 43; (with_reducible refine (bsoncore_ReadLength.calls (fun k_ => (P0_ k_ ∨ w.heap.size ≤ k_)) _ _ l0 t506 t507 true _ ?side1 A2.out).mono ?_); (case side1 => exact HO0.out); rintro e w7 ⟨v508, rfl, ho0, hb⟩; have n0_ := Aside0.mk (Kd.V_below (HW.zV HO0.out) hb); have n2_ := Aside0.mk (below_step HW.zb hb); clear HO0; clear HB; have HO0 := n0_; have HB := n2_; clear n0_ n2_; (try clear hb); (try clear hb2); (try clear hk); (try clear hi); (try clear ho0))))
      go_ret3
      exact ⟨_, _, by first | rfl | (simp [errW_none, errW_some] <;> rfl) | (simp [*, errW_none, errW_some] <;> rfl), Kd.V_nil _ _ _ _ _, HW.zV HO0.out, HW.zb⟩
  rw [if_neg c6] at H; have c6b0 : decide ((l0.length : Int) < (wrap64 (t506))) = false := decide_eq_false c6; clear c6
  by_cases c8 : 0 ≤ t506
  rotate_left
  · rw [if_neg c8] at H
    exact absurd H (by simp)
  rw [if_pos c8] at H; have c8b0 := eq_true c8; have c8b1 : decide (0 ≤ t506) = true := decide_eq_true c8; clear c8
  by_cases c9 : t506 ≤ (l0.length : Int)
  rotate_left
  · rw [if_neg c9] at H
    exact absurd H (by simp)
  rw [if_pos c9] at H; have c9b0 := eq_true c9; have c9b1 : decide (t506 ≤ (l0.length : Int)) = true := decide_eq_true c9; clear c9; obtain ⟨y511, hy511⟩ : ∃ y_ : List Int, y_ = (l0.take (t506 : Int).toNat) := ⟨_, rfl⟩
  replace H : (some (y511, (l0.drop (t506 : Int).toNat), true)) = some (r1, r2, r3) := by first | (rw [hy511]; with_reducible exact H) | (have H2_ := (Option.bind_some _ _).symm.trans H; rw [hy511]; with_reducible exact H2_) | (have H2_ := (Option.bind_some _ _).symm.trans H; with_reducible exact H2_) | with_reducible exact H | (rw [hy511]; exact H) | exact H
  have Ny511 := Aside0.mk hy511; clear hy511
  have c10b0 := eq_true (of_decide_eq_true (by first | (with_reducible assumption) | assumption) : 0 ≤ t506)
  have c11b0 := eq_true (of_decide_eq_true (by first | (with_reducible assumption) | assumption) : t506 ≤ (l0.length : Int))
  obtain ⟨y516, hy516⟩ : ∃ y_ : List Int, y_ = (l0.drop (t506 : Int).toNat) := ⟨_, rfl⟩
  replace H : (some (y511, y516, true)) = some (r1, r2, r3) := by first | (rw [hy516]; with_reducible exact H) | (have H2_ := (Option.bind_some _ _).symm.trans H; rw [hy516]; with_reducible exact H2_) | (have H2_ := (Option.bind_some _ _).symm.trans H; with_reducible exact H2_) | with_reducible exact H | (rw [hy516]; exact H) | exact H
  have Ny516 := Aside0.mk hy516; clear hy516
  as_aux_lemma =>
    simp only [Option.some.injEq, Prod.mk.injEq] at H
    obtain ⟨rfl, rfl, rfl⟩ := H
    go_enter Tryd.func64, Tryd.ntmps64
    go_wp2_with (first | (go_at_call 43; (with_reducible refine (bsoncore_ReadLength.calls (fun k_ => (P0_ k_ ∨ w.heap.size ≤ k_)) _ _ l0 t506 t507 true _ ?side1 A2.out).mono ?_); (case side1 => exact HO0.out); rintro e w12 ⟨v508, rfl, ho0, hb⟩; have n0_ := Aside0.mk (Kd.V_below (HW.zV HO0.out) hb); have n2_ := Aside0.mk (below_step HW.zb hb); clear HO0; clear HB; have HO0 := n0_; have HB := n2_; clear n0_ n2_; (try clear hb); (try clear hb2); (try clear hk); (try clear hi); (try clear ho0); have q13 : (t506 : Int) ≤ ((l0.length : Int) : Int) := of_decide_eq_true (by first | (with_reducible assumption) | assumption); obtain ⟨i013, hi013, _, hsz13, _⟩ := info_parts info5; have hroom13 : l0.length ≤ c0 := (Kd.V_reads' HO0.out).2.1; have hC13 : Kd.F (Kd.int .u8) _ _ A0 l0.length l0 := (Kd.V_at (base := w.heap.size) HO0.out).2.2; have hcut13 := cut_to (P := Tryd.prog) 23 5 .i32 Tryd.underlying23 hi013 A0 l0.length c0 t506 (of_decide_eq_true (by first | (with_reducible assumption) | assumption)) q13 hroom13; have hr13 := Kd.F_take (m := (t506 : Int).toNat) hC13 (by omega); have hy13 : y511.length = (t506 : Int).toNat := (by rw [Ny511.out, List.length_take]; omega); rw [← Ny511.out] at hr13; rw [← hy13] at hcut13; have HO515 := Aside0.mk (show Kd.V (Kd.int .u8) 5 _ w.heap.size _ (.slice A0 y511.length c0) y511 from Kd.V_mk (by omega) hr13); have HC515 := Aside0.mk (show y511.length ≤ c0 from by omega); clear hr13 hC13 hroom13 hi013 hsz13; have KY13 := Aside0.mk hy13; clear hy13; replace q13 := eq_true q13; have q14 : (t506 : Int) ≤ ((l0.length : Int) : Int) := of_decide_eq_true (by first | (with_reducible assumption) | assumption); obtain ⟨i014, hi014, _, hsz14, _⟩ := info_parts info5; have hroom14 : l0.length ≤ c0 := (Kd.V_reads' HO0.out).2.1; have hC14 : Kd.F (Kd.int .u8) _ _ A0 l0.length l0 := (Kd.V_at (base := w.heap.size) HO0.out).2.2; have q014 : (0 : Int) ≤ (t506 : Int) := of_decide_eq_true (by first | (with_reducible assumption) | assumption); have hcut14 := cut_from (P := Tryd.prog) 23 5 .i32 Tryd.underlying23 hi014 1 hsz14 A0 l0.length c0 t506 q014 q14; have hr14 := Kd.F_cut (m := (t506 : Int).toNat) (c := c0) hC14 (by omega) hroom14; obtain ⟨A14, hA14⟩ : ∃ A1, A1 = (if c0 = (t506 : Int).toNat then A0 else (A0 : Option Addr).map (·.add ((t506 : Int).toNat * 1))) := ⟨_, rfl⟩; obtain ⟨c14, hc14⟩ : ∃ c1, c1 = c0 - (t506 : Int).toNat := ⟨_, rfl⟩; have hy14 : y516.length = l0.length - (t506 : Int).toNat := (by rw [Ny516.out, List.length_drop] <;> omega); rw [show (l0).drop (t506 : Int).toNat = y516 from Ny516.out.symm] at hr14; replace hr14 : Kd.F (Kd.int .u8) _ _ A14 y516.length y516 := (by rw [hA14]; exact hr14); rw [← hy14, ← hA14, ← hc14] at hcut14; have HO520 := Aside0.mk (show Kd.V (Kd.int .u8) 5 _ w.heap.size _ (.slice A14 y516.length c14) y516 from Kd.V_mk (by rw [hy14, hc14]; exact Nat.sub_le_sub_right hroom14 _) hr14); have HC520 := Aside0.mk (show y516.length ≤ c14 from by rw [hy14, hc14]; exact Nat.sub_le_sub_right hroom14 _); clear hr14 hC14 hroom14 hi014 hsz14 hc14; have KY14 := Aside0.mk hy14; have KA14 := Aside0.mk hA14; clear hy14 hA14; replace q14 := eq_true q14))
    repeat (go_quiet (first | (go_at_call 43; (with_reducible refine (bsoncore_ReadLength.calls (fun k_ => (P0_ k_ ∨ w.heap.size ≤ k_)) _ _ l0 t506 t507 true _ ?side1 A2.out).mono ?_); (case side1 => exact HO0.out); rintro e w12 ⟨v508, rfl, ho0, hb⟩; have n0_ := Aside0.mk (Kd.V_below (HW.zV HO0.out) hb); have n2_ := Aside0.mk (below_step HW.zb hb); clear HO0; clear HB; have HO0 := n0_; have HB := n2_; clear n0_ n2_; (try clear hb); (try clear hb2); (try clear hk); (try clear hi); (try clear ho0); have q13 : (t506 : Int) ≤ ((l0.length : Int) : Int) := of_decide_eq_true (by first | (with_reducible assumption) | assumption); obtain ⟨i013, hi013, _, hsz13, _⟩ := info_parts info5; have hroom13 : l0.length ≤ c0 := (Kd.V_reads' HO0.out).2.1; have hC13 : Kd.F (Kd.int .u8) _ _ A0 l0.length l0 := (Kd.V_at (base := w.heap.size) HO0.out).2.2; have hcut13 := cut_to (P := Tryd.prog) 23 5 .i32 Tryd.underlying23 hi013 A0 l0.length c0 t506 (of_decide_eq_true (by first | (with_reducible assumption) | assumption)) q13 hroom13; have hr13 := Kd.F_take (m := (t506 : Int).toNat) hC13 (by omega); have hy13 : y511.length = (t506 : Int).toNat := (by rw [Ny511.out, List.length_take]; omega); rw [← Ny511.out] at hr13; rw [← hy13] at hcut13; have HO515 := Aside0.mk (show Kd.V (Kd.int .u8) 5 _ w.heap.size _ (.slice A0 y511.length c0) y511 from Kd.V_mk (by omega) hr13); have HC515 := Aside0.mk (show y511.length ≤ c0 from by omega); clear hr13 hC13 hroom13 hi013 hsz13; have KY13 := Aside0.mk hy13; clear hy13; replace q13 := eq_true q13; have q14 : (t506 : Int) ≤ ((l0.length : Int) : Int) := of_decide_eq_true (by first | (with_reducible assumption) | assumption); obtain ⟨i014, hi014, _, hsz14, _⟩ := info_parts info5; have hroom14 : l0.length ≤ c0 := (Kd.V_reads' HO0.out).2.1; have hC14 : Kd.F (Kd.int .u8) _ _ A0 l0.length l0 := (Kd.V_at (base := w.heap.size) HO0.out).2.2; have q014 : (0 : Int) ≤ (t506 : Int) := of_decide_eq_true (by first | (with_reducible assumption) | assumption); have hcut14 := cut_from (P := Tryd.prog) 23 5 .i32 Tryd.underlying23 hi014 1 hsz14 A0 l0.length c0 t506 q014 q14; have hr14 := Kd.F_cut (m := (t506 : Int).toNat) (c := c0) hC14 (by omega) hroom14; obtain ⟨A14, hA14⟩ : ∃ A1, A1 = (if c0 = (t506 : Int).toNat then A0 else (A0 : Option Addr).map (·.add ((t506 : Int).toNat * 1))) := ⟨_, rfl⟩; obtain ⟨c14, hc14⟩ : ∃ c1, c1 = c0 - (t506 : Int).toNat := ⟨_, rfl⟩; have hy14 : y516.length = l0.length - (t506 : Int).toNat := (by rw [Ny516.out, List.length_drop] <;> omega); rw [show (l0).drop (t506 : Int).toNat = y516 from Ny516.out.symm] at hr14; replace hr14 : Kd.F (Kd.int .u8) _ _ A14 y516.length y516 := (by rw [hA14]; exact hr14); rw [← hy14, ← hA14, ← hc14] at hcut14; have HO520 := Aside0.mk (show Kd.V (Kd.int .u8) 5 _ w.heap.size _ (.slice A14 y516.length c14) y516 from Kd.V_mk (by rw [hy14, hc14]; exact Nat.sub_le_sub_right hroom14 _) hr14); have HC520 := Aside0.mk (show y516.length ≤ c14 from by rw [hy14, hc14]; exact Nat.sub_le_sub_right hroom14 _); clear hr14 hC14 hroom14 hi014 hsz14 hc14; have KY14 := Aside0.mk hy14; have KA14 := Aside0.mk hA14; clear hy14 hA14; replace q14 := eq_true q14)); try go_wp2_with (first | (go_at_call 43; (with_reducible refine (bsoncore_ReadLength.calls (fun k_ => (P0_ k_ ∨ w.heap.size ≤ k_)) _ _ l0 t506 t507 true _ ?side1 A2.out).mono ?_); (case side1 => exact HO0.out); rintro e w12 ⟨v508, rfl, ho0, hb⟩; have n0_ := Aside0.mk (Kd.V_below (HW.zV HO0.out) hb); have n2_ := Aside0.mk (below_step HW.zb hb); clear HO0; clear HB; have HO0 := n0_; have HB := n2_; clear n0_ n2_; (try clear hb); (try clear hb2); (try clear hk); (try clear hi); (try clear ho0); have q13 : (t506 : Int) ≤ ((l0.length : Int) : Int) := of_decide_eq_true (by first | (with_reducible assumption) | assumption); obtain ⟨i013, hi013, _, hsz13, _⟩ := info_parts info5; have hroom13 : l0.length ≤ c0 := (Kd.V_reads' HO0.out).2.1; have hC13 : Kd.F (Kd.int .u8) _ _ A0 l0.length l0 := (Kd.V_at (base := w.heap.size) HO0.out).2.2; have hcut13 := cut_to (P := Tryd.prog) 23 5 .i32 Tryd.underlying23 hi013 A0 l0.length c0 t506 (of_decide_eq_true (by first | (with_reducible assumption) | assumption)) q13 hroom13; have hr13 := Kd.F_take (m := (t506 : Int).toNat) hC13 (by omega); have hy13 : y511.length = (t506 : Int).toNat := (by rw [Ny511.out, List.length_take]; omega); rw [← Ny511.out] at hr13; rw [← hy13] at hcut13; have HO515 := Aside0.mk (show Kd.V (Kd.int .u8) 5 _ w.heap.size _ (.slice A0 y511.length c0) y511 from Kd.V_mk (by omega) hr13); have HC515 := Aside0.mk (show y511.length ≤ c0 from by omega); clear hr13 hC13 hroom13 hi013 hsz13; have KY13 := Aside0.mk hy13; clear hy13; replace q13 := eq_true q13; have q14 : (t506 : Int) ≤ ((l0.length : Int) : Int) := of_decide_eq_true (by first | (with_reducible assumption) | assumption); obtain ⟨i014, hi014, _, hsz14, _⟩ := info_parts info5; have hroom14 : l0.length ≤ c0 := (Kd.V_reads' HO0.out).2.1; have hC14 : Kd.F (Kd.int .u8) _ _ A0 l0.length l0 := (Kd.V_at (base := w.heap.size) HO0.out).2.2; have q014 : (0 : Int) ≤ (t506 : Int) := of_decide_eq_true (by first | (with_reducible assumption) | assumption); have hcut14 := cut_from (P := Tryd.prog) 23 5 .i32 Tryd.underlying23 hi014 1 hsz14 A0 l0.length c0 t506 q014 q14; have hr14 := Kd.F_cut (m := (t506 : Int).toNat) (c := c0) hC14 (by omega) hroom14; obtain ⟨A14, hA14⟩ : ∃ A1, A1 = (if c0 = (t506 : Int).toNat then A0 else (A0 : Option Addr).map (·.add ((t506 : Int).toNat * 1))) := ⟨_, rfl⟩; obtain ⟨c14, hc14⟩ : ∃ c1, c1 = c0 - (t506 : Int).toNat := ⟨_, rfl⟩; have hy14 : y516.length = l0.length - (t506 : Int).toNat := (by rw [Ny516.out, List.length_drop] <;> omega); rw [show (l0).drop (t506 : Int).toNat = y516 from Ny516.out.symm] at hr14; replace hr14 : Kd.F (Kd.int .u8) _ _ A14 y516.length y516 := (by rw [hA14]; exact hr14); rw [← hy14, ← hA14, ← hc14] at hcut14; have HO520 := Aside0.mk (show Kd.V (Kd.int .u8) 5 _ w.heap.size _ (.slice A14 y516.length c14) y516 from Kd.V_mk (by rw [hy14, hc14]; exact Nat.sub_le_sub_right hroom14 _) hr14); have HC520 := Aside0.mk (show y516.length ≤ c14 from by rw [hy14, hc14]; exact Nat.sub_le_sub_right hroom14 _); clear hr14 hC14 hroom14 hi014 hsz14 hc14; have KY14 := Aside0.mk hy14; have KA14 := Aside0.mk hA14; clear hy14 hA14; replace q14 := eq_true q14)))
    go_ret3
    exact ⟨_, _, by first | rfl | (simp [errW_none, errW_some] <;> rfl) | (simp [*, errW_none, errW_some] <;> rfl), HW.zV HO515.out, HW.zV HO520.out, HW.zb⟩

/-! ### bsoncore_ReadDocument: function 59 -/
def bsoncore_ReadDocument.f (l0 : List Int) : Option (List Int × List Int × Bool) := (bsoncore_readLengthBytes.f l0).bind fun bt521 => (some (bt521.1, bt521.2.1, bt521.2.2))
set_option maxHeartbeats 8000000 in
set_option maxRecDepth 100000 in
theorem bsoncore_ReadDocument.calls (P0_ : Nat → Prop) (A0 : Option Addr) (c0 : Nat) (l0 : List Int) (r1 : List Int) (r2 : List Int) (r3 : Bool) (w : World) (hs0 : Kd.V (Kd.int .u8) 5 w w.heap.size (fun k_ => P0_ k_) (.slice A0 l0.length c0) l0) (h : bsoncore_ReadDocument.f l0 = some (r1, r2, r3)) :
    Calls Tryd.prog 59 #[.slice A0 l0.length c0] w fun e w' => ∃ v0_ v1_ : Value, e = .returned (.tuple #[v0_, v1_, .bool r3]) ∧ Kd.V (Kd.int .u8) 5 w' w.heap.size (fun k_ => (P0_ k_ ∨ w.heap.size ≤ k_)) v0_ r1 ∧ Kd.V (Kd.int .u8) 5 w' w.heap.size (fun k_ => (P0_ k_ ∨ w.heap.size ≤ k_)) v1_ r2 ∧ Below w.heap.size w w' := by
  have HO0 := Aside0.mk (show Kd.V (Kd.int .u8) 5 w w.heap.size (fun k_ => (P0_ k_ ∨ w.heap.size ≤ k_)) (.slice A0 l0.length c0) l0 from Kd.V_mono hs0 (fun k_ hk => .inl hk)); have HB := Aside0.mk (Below.refl w.heap.size w); have H : ((bsoncore_readLengthBytes.f l0).bind fun bt521 => (some (bt521.1, bt521.2.1, bt521.2.2))) = some (r1, r2, r3) := h; clear h; replace H := Option.bind_eq_some_iff.mp H; obtain ⟨⟨t521, t524, t527⟩, A20, H⟩ := H; replace H : (some (t521, t524, t527)) = some (r1, r2, r3) := H; have A2 := Aside0.mk A20; clear A20
  as_aux_lemma =>
    simp only [Option.some.injEq, Prod.mk.injEq] at H
    obtain ⟨rfl, rfl, rfl⟩ := H
    go_enter Tryd.func59, Tryd.ntmps59
    go_wp2_with (first | ((with_reducible refine gate_callee (f := 64) rfl ?_); refine HW.gz (some 6) rfl rfl Tryd.func64 (by kernel_rfl) rfl #[.slice A0 l0.length c0] rfl ?_; (with_reducible refine (bsoncore_readLengthBytes.calls (fun k_ => (P0_ k_ ∨ w.heap.size ≤ k_)) _ _ l0 t521 t524 t527 _ ?side1 A2.out).mono ?_); (case side1 => exact HO0.out); rintro e w3 ⟨v522, v525, rfl, ho0, ho1, hb⟩; refine ⟨_, rfl, ?_⟩; have n1_ := Aside0.mk (Kd.V_lower (Kd.V_mono (ok' := fun k_ => (P0_ k_ ∨ w.heap.size ≤ k_)) ho0 (fun k_ hk_ => Or.elim hk_ (fun hs_ => hs_) (fun hn_ => (.inr (Nat.le_trans (below_size HW.zb) hn_))))) (below_size HW.zb)); have n2_ := Aside0.mk (Kd.V_lower (Kd.V_mono (ok' := fun k_ => (P0_ k_ ∨ w.heap.size ≤ k_)) ho1 (fun k_ hk_ => Or.elim hk_ (fun hs_ => hs_) (fun hn_ => (.inr (Nat.le_trans (below_size HW.zb) hn_))))) (below_size HW.zb)); have n3_ := Aside0.mk (below_step HW.zb hb); clear HB; have HO523 := n1_; have HO526 := n2_; have HB := n3_; clear n1_ n2_ n3_; (try clear hb); (try clear hb2); (try clear hk); (try clear hi); (try clear ho0); (try clear ho1)))
    go_ret3
    exact ⟨_, _, by first | rfl | (simp [errW_none, errW_some] <;> rfl) | (simp [*, errW_none, errW_some] <;> rfl), HW.zV HO523.out, HW.zV HO526.out, HW.zb⟩

/-! ### bsoncore_Value_Document: function 48 -/
def bsoncore_Value_Document.f (a0_0 : Int) (l0_1 : List Int) : Option (List Int) := if a0_0 = 3 then ((bsoncore_ReadDocument.f l0_1).bind fun bt529 => (if bt529.2.2 = true then (some bt529.1) else (none))) else (none)
set_option maxHeartbeats 8000000 in
set_option maxRecDepth 100000 in
theorem bsoncore_Value_Document.calls (a0_0 : Int) (P0_1_ : Nat → Prop) (A0_1 : Option Addr) (c0_1 : Nat) (l0_1 : List Int) (r : List Int) (w : World) (hs0_1 : Kd.V (Kd.int .u8) 5 w w.heap.size (fun k_ => P0_1_ k_) (.slice A0_1 l0_1.length c0_1) l0_1) (h : bsoncore_Value_Document.f a0_0 l0_1 = some r) :
    Calls Tryd.prog 48 #[.agg #[.int .u8 a0_0, .slice A0_1 l0_1.length c0_1]] w fun e w' => ∃ v0_ : Value, e = .returned (v0_) ∧ Kd.V (Kd.int .u8) 5 w' w.heap.size (fun k_ => (P0_1_ k_ ∨ w.heap.size ≤ k_)) v0_ r ∧ Below w.heap.size w w' := by
  have hu77 := Tryd.underlying77; have hu124 := Tryd.underlying124; have HO0_1 := Aside0.mk (show Kd.V (Kd.int .u8) 5 w w.heap.size (fun k_ => (P0_1_ k_ ∨ w.heap.size ≤ k_)) (.slice A0_1 l0_1.length c0_1) l0_1 from Kd.V_mono hs0_1 (fun k_ hk => .inl hk)); have HB := Aside0.mk (Below.refl w.heap.size w); have H : (if a0_0 = 3 then ((bsoncore_ReadDocument.f l0_1).bind fun bt529 => (if bt529.2.2 = true then (some bt529.1) else (none))) else (none)) = some r := h; clear h
  by_cases c2 : a0_0 = 3
  rotate_left
  · rw [if_neg c2] at H
    exact absurd H (by simp)
  rw [if_pos c2] at H; have c2b0 : (a0_0 == 3) = true := beq_iff_eq.mpr c2; have c2b1 : (a0_0 != 3) = false := bne_eq_false_iff_eq.mpr c2; clear c2; replace H := Option.bind_eq_some_iff.mp H; obtain ⟨⟨t529, t532, t535⟩, A30, H⟩ := H; replace H : (if t535 = true then (some t529) else (none)) = some r := H; have A3 := Aside0.mk A30; clear A30
  by_cases c4 : t535 = true
  rotate_left
  · replace c4 := Bool.eq_false_iff.mpr c4
    subst c4
    have H1 : (none) = some r := by rw [if_neg (show ¬ (false = true) by decide)] at H; exact H
    clear H; have H := H1; clear H1
    exact absurd H (by simp)
  subst c4
  have H1 : (some t529) = some r := by rw [if_pos rfl] at H; exact H
  clear H; have H := H1; clear H1
  as_aux_lemma =>
    obtain rfl := Option.some.inj H
    go_enter Tryd.func48, Tryd.ntmps48
    go_wp2_with (first | ((with_reducible refine gate_dst (N := 1) rfl ?_); refine box_event ?hg (N := 1) ?hd (cs := #[.int .u8 a0_0, .slice A0_1 l0_1.length c0_1]) (t := 77) ?hr ?_; (case hd => rfl); (case hg => rfl); (case hr => first | (go_simp; done) | (go_simp; rfl)); intro gb528 hg w5 hbox hb; have n0_ := Aside0.mk (Kd.V_below (Kd.V_elderB (HW.zV HO0_1.out) gb528 (Nat.le_of_eq hg.symm)) hb); have n1_ := Aside0.mk (below_step HW.zb hb); have n2_ := Aside0.mk (hbox); have n4_ := Aside0.mk ((by rw [hg]; exact (below_size HW.zb) : w.heap.size ≤ gb528)); clear HO0_1; clear HB; have HO0_1 := n0_; have HB := n1_; have BK528 := n2_; have GE528 := n4_; clear n0_ n1_ n2_ n4_; clear hb hbox hg; have hcz6_0 := HW.zc BK528.out 0 (.int .u8 a0_0); have hcz6_1 := HW.zc BK528.out 1 (.slice A0_1 l0_1.length c0_1)) | ((with_reducible refine gate_callee (f := 59) rfl ?_); refine HW.gz (some 16) rfl rfl Tryd.func59 (by kernel_rfl) rfl #[.slice A0_1 l0_1.length c0_1] rfl ?_; (with_reducible refine (bsoncore_ReadDocument.calls (fun k_ => ((P0_1_ k_ ∨ w.heap.size ≤ k_) ∧ k_ ≠ gb528)) _ _ l0_1 t529 t532 true _ ?side1 A3.out).mono ?_); (case side1 => exact HO0_1.out); rintro e w7 ⟨v530, v533, rfl, ho0, ho1, hb⟩; refine ⟨_, rfl, ?_⟩; have n1_ := Aside0.mk (Kd.V_lower (Kd.V_mono (ok' := fun k_ => (P0_1_ k_ ∨ w.heap.size ≤ k_) ∧ k_ ≠ gb528) ho0 (fun k_ hk_ => ⟨Or.elim hk_ (fun hs_ => hs_.1) (fun hn_ => (.inr (Nat.le_trans (below_size HW.zb) hn_))), Or.elim hk_ (fun hs_ => hs_.2) (fun hn_ => (Kd.freshB (g := gb528) (o := .cells #[.int .u8 a0_0, .slice A0_1 l0_1.length c0_1] 77 (0, 0)) (HW.zB BK528.out) k_ hn_))⟩)) (below_size HW.zb)); have n4_ := Aside0.mk (below_step HW.zb hb); clear HB; have HO531 := n1_; have HB := n4_; clear n1_ n4_; (try clear hb); (try clear hb2); (try clear hk); (try clear hi); (try clear ho0); (try clear ho1)))
    go_ret
    exact ⟨_, by first | rfl | (simp [errW_none, errW_some] <;> rfl) | (simp [*, errW_none, errW_some] <;> rfl), by (with_reducible repeat (first | apply Kd.V_alloc | apply Kd.V_drewN | apply Kd.V_drew)); exact Kd.V_mono HO531.out (fun _ hk => hk.1), HW.zb⟩

end Go.Proofs.YtlcgakpnpdkjjaaDoor.PBz
