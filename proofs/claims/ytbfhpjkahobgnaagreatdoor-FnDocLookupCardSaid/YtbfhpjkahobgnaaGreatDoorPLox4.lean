import Derived.Test.YtbfhpjkahobgnaaGreatDoorPLox0
import Derived.Test.YtbfhpjkahobgnaaGreatDoorPLox1
import Derived.Test.YtbfhpjkahobgnaaGreatDoorPLox2
namespace Go.Proofs.YtbfhpjkahobgnaaGreatDoor.PLo
open Go.RowKit Go.Proofs.YtbfhpjkahobgnaaGreatDoorW.PrintWords Go.Proofs.YtbfhpjkahobgnaaGreatDoorW.PrintLast Go.Proofs.YtbfhpjkahobgnaaGreatDoorW.PrintMore
attribute [local go_sem] max2_int min2_int max_two min_two max_three min_three max_four min_four
set_option linter.unusedVariables false
set_option maxHeartbeats 8000000
set_option maxRecDepth 100000
set_option linter.unusedSimpArgs false
mutual
def bsoncore_ReadElement.l0 : Nat → List Int → Int → Int → Option (List Int × List Int × Bool)
  | 0, _, _, _ => none
  | k + 1, x0, x5, x6 => if x6 < (x0.length : Int) then (if 0 ≤ x6 then (bsoncore_ReadElement.j1 k x0 x5 x6 ((rd x0 x6) != 0)) else (none)) else (bsoncore_ReadElement.j1 k x0 x5 x6 false)
def bsoncore_ReadElement.j1 : Nat → List Int → Int → Int → Bool → Option (List Int × List Int × Bool)
  | 0, _, _, _, _ => none
  | k + 1, x0, x5, x6, x27 => if x27 = true then (bsoncore_ReadElement.l0 k x0 x5 (wrap64 (x6 + 1))) else (if x6 ≥ (x0.length : Int) then (some (([] : List Int), x0, false)) else (if 0 ≤ (wrap64 (x6 + 1)) then (if (wrap64 (x6 + 1)) ≤ (x0.length : Int) then ((bsoncore_valueLength.f k (x0.drop ((wrap64 (x6 + 1)) : Int).toNat) x5).bind fun bt204 => (if bt204.2 = true then (if (wrap64 ((wrap64 (x6 + 1)) + (wrap64 (bt204.1)))) > (x0.length : Int) then (some (([] : List Int), x0, false)) else (if 0 ≤ (wrap64 ((wrap64 (x6 + 1)) + (wrap64 (bt204.1)))) then (if (wrap64 ((wrap64 (x6 + 1)) + (wrap64 (bt204.1)))) ≤ (x0.length : Int) then (some ((x0.take ((wrap64 ((wrap64 (x6 + 1)) + (wrap64 (bt204.1)))) : Int).toNat), (x0.drop ((wrap64 ((wrap64 (x6 + 1)) + (wrap64 (bt204.1)))) : Int).toNat), true)) else (none)) else (none))) else (some (([] : List Int), x0, false)))) else (none)) else (none)))
end
def bsoncore_ReadElement.f (k : Nat) (l0 : List Int) : Option (List Int × List Int × Bool) := if (l0.length : Int) < 1 then (some (([] : List Int), l0, false)) else (if 0 < (l0.length : Int) then (bsoncore_ReadElement.l0 k l0 (rd l0 0) 1) else (none))
theorem bsoncore_ReadElement.mono_l : ∀ k, (∀ y0 y1 y2, LeO (bsoncore_ReadElement.l0 k y0 y1 y2) (bsoncore_ReadElement.l0 (k + 1) y0 y1 y2)) ∧ (∀ y0 y1 y2 y3, LeO (bsoncore_ReadElement.j1 k y0 y1 y2 y3) (bsoncore_ReadElement.j1 (k + 1) y0 y1 y2 y3))
  | 0 => ⟨fun _ _ _ r h => by simp [bsoncore_ReadElement.l0] at h, fun _ _ _ _ r h => by simp [bsoncore_ReadElement.j1] at h⟩
  | k + 1 => by
    obtain ⟨ih0, ih1⟩ := bsoncore_ReadElement.mono_l k
    refine ⟨?_, ?_⟩
    · intro y0 y1 y2
      unfold bsoncore_ReadElement.l0
      have m0_ := @ih0; have m1_ := @ih1; have m2_ := @bsoncore_valueLength.mono; exact HW.mo
    · intro y0 y1 y2 y3
      unfold bsoncore_ReadElement.j1
      have m0_ := @ih0; have m1_ := @ih1; have m2_ := @bsoncore_valueLength.mono; exact HW.mo
theorem bsoncore_ReadElement.mono : ∀ a0 k, LeO (bsoncore_ReadElement.f k a0) (bsoncore_ReadElement.f (k + 1) a0) := by
  intro a0 k
  obtain ⟨ih0, ih1⟩ := bsoncore_ReadElement.mono_l k
  unfold bsoncore_ReadElement.f
  have m0_ := @ih0; have m1_ := @ih1; have m2_ := @bsoncore_valueLength.mono; exact HW.mo
theorem bsoncore_ReadElement.calls (k : Nat) (P0_ : Nat → Prop) (A0 : Option Addr) (c0 : Nat) (l0 : List Int) (r1 : List Int) (r2 : List Int) (r3 : Bool) (w : World) (hs0 : Kd.V (Kd.int .u8) 5 w w.heap.size (fun k_ => P0_ k_) (.slice A0 l0.length c0) l0) (h : bsoncore_ReadElement.f k l0 = some (r1, r2, r3)) :
    Calls Tryz.prog 76 #[.slice A0 l0.length c0] w fun e w' => ∃ v0_ v1_ : Value, e = .returned (.tuple #[v0_, v1_, .bool r3]) ∧ Kd.V (Kd.int .u8) 5 w' w.heap.size (fun k_ => (P0_ k_ ∨ w.heap.size ≤ k_)) v0_ r1 ∧ Kd.V (Kd.int .u8) 5 w' w.heap.size (fun k_ => (P0_ k_ ∨ w.heap.size ≤ k_)) v1_ r2 ∧ Below w.heap.size w w' := by
  have HO0 := Aside0.mk (show Kd.V (Kd.int .u8) 5 w w.heap.size (fun k_ => (P0_ k_ ∨ w.heap.size ≤ k_)) (.slice A0 l0.length c0) l0 from Kd.V_mono hs0 (fun k_ hk => .inl hk)); have HB := Aside0.mk (Below.refl w.heap.size w); have H : (if (l0.length : Int) < 1 then (some (([] : List Int), l0, false)) else (if 0 < (l0.length : Int) then (bsoncore_ReadElement.l0 k l0 (rd l0 0) 1) else (none))) = some (r1, r2, r3) := h; clear h
  by_cases c2 : (l0.length : Int) < 1
  · rw [if_pos c2] at H
    have c2b0 : decide ((l0.length : Int) < 1) = true := decide_eq_true c2
    have c2b1 : decide (l0.length < 1) = true := decide_eq_true (by omega)
    clear c2
    as_aux_lemma =>
      simp only [Option.some.injEq, Prod.mk.injEq] at H
      obtain ⟨rfl, rfl, rfl⟩ := H
      go_enter Tryz.func76, Tryz.ntmps76
      go_wp2
      repeat (go_quiet (fail); try go_wp2)
      go_ret3
      exact ⟨_, _, rfl, Kd.V_nil _ _ _ _ _, HW.zV HO0.out, HW.zb⟩
  rw [if_neg c2] at H; have c2b0 : decide ((l0.length : Int) < 1) = false := decide_eq_false c2
  have c2b1 : decide (l0.length < 1) = false := decide_eq_false (by omega)
  clear c2
  by_cases c3 : 0 < (l0.length : Int)
  rotate_left
  · rw [if_neg c3] at H
    exact absurd H (by simp)
  rw [if_pos c3] at H; have c3b0 : decide (0 < (l0.length : Int)) = true := decide_eq_true c3
  have c3b1 : decide (0 < l0.length) = true := decide_eq_true (by omega)
  clear c3; have H' := Aside0.mk H; clear H
  have p197 : 0 ≤ (0 : Int) := (by omega)
  have q197 : 0 < (l0.length : Int) := HW.od
  obtain ⟨ad197, e197, hx197_0⟩ := Kd.at_int (Kd.V_reads' HO0.out).2.2 0 p197 q197
  cases e197
  have qi197 : (0 < l0.length) = True := eq_true (by omega)
  (try rw [show ((0 : Int)).toNat = 0 from rfl] at hx197_0)
  (try rw [Addr.add_zero'] at hx197_0)
  replace p197 := eq_true p197; replace q197 := eq_true q197
  go_enter Tryz.func76, Tryz.ntmps76
  go_wp2
  repeat (go_quiet (fail); try go_wp2)
  go_loopg [6] k (fun kq v6 w' => ∃ (x6_1 : Int), v6 = .int .i64 x6_1 ∧ Aside0 (bsoncore_ReadElement.l0 kq l0 (rd l0 0) x6_1 = some (r1, r2, r3)) ∧ Aside0 (kq ≤ k) ∧ Aside0 (Kd.V (Kd.int .u8) 5 w' w.heap.size (fun k_ => (P0_ k_ ∨ w.heap.size ≤ k_)) (.slice (some ad197) l0.length c0) l0) ∧ Aside0 (Below w.heap.size w w'))
  case atStart => exact ⟨(1), HW.rs, H', ⟨Nat.le_refl _⟩, ⟨HW.zV HO0.out⟩, ⟨HW.zb⟩⟩
  case round =>
    clear H'
    (try clear p1); (try clear q1); (try clear hx1); (try clear qi1); (try clear c2); (try clear c2b0); (try clear c2b1); (try clear p2); (try clear c3); (try clear c3b0); (try clear c3b1); (try clear hx197_0); (try clear p197); (try clear q197)
    obtain ⟨x6_1, rfl, HA, HK1, HO_0, HB⟩ := hrel
    cases gk with
    | zero => exact absurd HA.out (by simp [bsoncore_ReadElement.l0])
    | succ k1 =>
      have H := HA.out; clear HA
      simp only [bsoncore_ReadElement.l0] at H
      have HC4 := Aside0.mk H; clear H
      go_upto_region 5 with (fail)
      repeat (go_quiet (fail); go_upto_region 5 with (fail))
      go_cut [27] (fun v27 wc => ∃ (kq : Nat) (x27_3 : Bool), v27 = .bool x27_3 ∧ Aside0 (bsoncore_ReadElement.j1 kq l0 (rd l0 0) x6_1 x27_3 = some (r1, r2, r3)) ∧ Aside0 (kq ≤ k1) ∧ Aside0 (Kd.V (Kd.int .u8) 5 wc w.heap.size (fun k_ => (P0_ k_ ∨ w.heap.size ≤ k_)) (.slice (some ad197) l0.length c0) l0) ∧ Aside0 (Below w.heap.size w wc))
      case first =>
        have H := HC4.out; clear HC4
        by_cases c5 : x6_1 < (l0.length : Int)
        rotate_left
        · rw [if_neg c5] at H
          have c5b0 : decide (x6_1 < (l0.length : Int)) = false := decide_eq_false c5; clear c5
          (first | rw [c5b0] | (simp only [i64_w, i32_w]; rw [c5b0]) | skip)
          as_aux_lemma =>
            have H' := Aside0.mk H; clear H
            go_wp2
            repeat (go_quiet (fail); try go_wp2)
            go_meet
            case rel => exact ⟨_, (false), HW.rs, H', ⟨by have := HK1.out; first | omega | exact Nat.le_refl _⟩, ⟨HW.zV HO_0.out⟩, ⟨HW.zb⟩⟩
        rw [if_pos c5] at H; have c5b0 : decide (x6_1 < (l0.length : Int)) = true := decide_eq_true c5; clear c5
        (first | rw [c5b0] | (simp only [i64_w, i32_w]; rw [c5b0]) | skip)
        by_cases c6 : 0 ≤ x6_1
        rotate_left
        · rw [if_neg c6] at H
          exact absurd H (by simp)
        rw [if_pos c6] at H; have c6b0 : decide (0 ≤ x6_1) = true := decide_eq_true c6; clear c6
        as_aux_lemma =>
          have H' := Aside0.mk H; clear H
          have p198 : 0 ≤ (x6_1 : Int) := HW.od
          have q198 : x6_1 < (l0.length : Int) := HW.od
          obtain ⟨ad198, e198, hx198_0⟩ := Kd.at_int (Kd.V_reads' HO_0.out).2.2 x6_1 p198 q198
          obtain rfl : ad197 = ad198 := (by injection e198)
          replace p198 := eq_true p198; replace q198 := eq_true q198
          go_wp2
          repeat (go_quiet (fail); try go_wp2)
          go_meet
          case rel => exact ⟨_, (((rd l0 x6_1) != 0)), HW.rs, H', ⟨by have := HK1.out; first | omega | exact Nat.le_refl _⟩, ⟨HW.zV HO_0.out⟩, ⟨HW.zb⟩⟩
      case rest =>
        clear HC4
        (try clear p1); (try clear q1); (try clear hx1); (try clear qi1); (try clear c2); (try clear c2b0); (try clear c2b1); (try clear p2); (try clear c3); (try clear c3b0); (try clear c3b1); (try clear c5); (try clear c5b0); (try clear c6); (try clear c6b0); (try clear hx197_0); (try clear hx198_0); (try clear p1); (try clear p197); (try clear p198); (try clear p2); (try clear q1); (try clear q197); (try clear q198)
        obtain ⟨kq, x27_3, rfl, HA, HJ3, HO_0, HB⟩ := hcut
        cases kq with
        | zero => exact absurd HA.out (by simp [bsoncore_ReadElement.j1])
        | succ kj3 =>
          have H := HA.out; clear HA
          simp only [bsoncore_ReadElement.j1] at H
          by_cases c7 : x27_3 = true
          · subst c7
            have H1 : (bsoncore_ReadElement.l0 kj3 l0 (rd l0 0) (wrap64 (x6_1 + 1))) = some (r1, r2, r3) := by rw [if_pos rfl] at H; exact H
            clear H; have H := H1; clear H1
            as_aux_lemma =>
              have H' := Aside0.mk H; clear H
              go_wp2
              repeat (go_quiet (fail); try go_wp2)
              go_roundg kj3
              case measure => have := HK1.out; have := HJ3.out; omega
              case rel => exact ⟨(wrap64 (x6_1 + 1)), HW.rs, H', ⟨by have := HK1.out; have := HJ3.out; omega⟩, ⟨HW.zV HO_0.out⟩, ⟨HW.zb⟩⟩
          replace c7 := Bool.eq_false_iff.mpr c7; subst c7
          have H1 : (if x6_1 ≥ (l0.length : Int) then (some (([] : List Int), l0, false)) else (if 0 ≤ (wrap64 (x6_1 + 1)) then (if (wrap64 (x6_1 + 1)) ≤ (l0.length : Int) then ((bsoncore_valueLength.f kj3 (l0.drop ((wrap64 (x6_1 + 1)) : Int).toNat) (rd l0 0)).bind fun bt204 => (if bt204.2 = true then (if (wrap64 ((wrap64 (x6_1 + 1)) + (wrap64 (bt204.1)))) > (l0.length : Int) then (some (([] : List Int), l0, false)) else (if 0 ≤ (wrap64 ((wrap64 (x6_1 + 1)) + (wrap64 (bt204.1)))) then (if (wrap64 ((wrap64 (x6_1 + 1)) + (wrap64 (bt204.1)))) ≤ (l0.length : Int) then (some ((l0.take ((wrap64 ((wrap64 (x6_1 + 1)) + (wrap64 (bt204.1)))) : Int).toNat), (l0.drop ((wrap64 ((wrap64 (x6_1 + 1)) + (wrap64 (bt204.1)))) : Int).toNat), true)) else (none)) else (none))) else (some (([] : List Int), l0, false)))) else (none)) else (none))) = some (r1, r2, r3) := by rw [if_neg (show ¬ (false = true) by decide)] at H; exact H
          clear H; have H := H1; clear H1
          by_cases c8 : x6_1 ≥ (l0.length : Int)
          · rw [if_pos c8] at H
            have c8b0 : decide ((l0.length : Int) ≤ x6_1) = true := decide_eq_true c8; clear c8
            as_aux_lemma =>
              simp only [Option.some.injEq, Prod.mk.injEq] at H
              obtain ⟨rfl, rfl, rfl⟩ := H
              go_wp2
              repeat (go_quiet (fail); try go_wp2)
              go_ret3
              exact ⟨_, _, rfl, Kd.V_nil _ _ _ _ _, HW.zV HO_0.out, HW.zb⟩
          rw [if_neg c8] at H; have c8b0 : decide ((l0.length : Int) ≤ x6_1) = false := decide_eq_false c8; clear c8; obtain ⟨ji9, hji9⟩ : ∃ j_ : Int, (wrap64 (x6_1 + 1)) = j_ := ⟨_, rfl⟩
          replace H : (if 0 ≤ (ji9) then (if (ji9) ≤ (l0.length : Int) then ((bsoncore_valueLength.f kj3 (l0.drop ((ji9) : Int).toNat) (rd l0 0)).bind fun bt204 => (if bt204.2 = true then (if (wrap64 ((ji9) + (wrap64 (bt204.1)))) > (l0.length : Int) then (some (([] : List Int), l0, false)) else (if 0 ≤ (wrap64 ((ji9) + (wrap64 (bt204.1)))) then (if (wrap64 ((ji9) + (wrap64 (bt204.1)))) ≤ (l0.length : Int) then (some ((l0.take ((wrap64 ((ji9) + (wrap64 (bt204.1)))) : Int).toNat), (l0.drop ((wrap64 ((ji9) + (wrap64 (bt204.1)))) : Int).toNat), true)) else (none)) else (none))) else (some (([] : List Int), l0, false)))) else (none)) else (none)) = some (r1, r2, r3) := by first | (rw [hji9] at H; exact H) | (simp only [hji9] at H ⊢; exact H)
          have hji9w : (IntKind.i64.wrap (x6_1 + 1)) = ji9 := (i64_w _).trans hji9
          by_cases c10 : 0 ≤ (ji9)
          rotate_left
          · rw [if_neg c10] at H
            exact absurd H (by simp)
          rw [if_pos c10] at H; have c10b0 := eq_true c10; have c10b1 : decide (0 ≤ (ji9)) = true := decide_eq_true c10; clear c10
          by_cases c11 : (ji9) ≤ (l0.length : Int)
          rotate_left
          · rw [if_neg c11] at H
            exact absurd H (by simp)
          rw [if_pos c11] at H; have c11b0 := eq_true c11; have c11b1 : decide ((ji9) ≤ (l0.length : Int)) = true := decide_eq_true c11; clear c11; obtain ⟨y199, hy199⟩ : ∃ y_ : List Int, y_ = (l0.drop ((ji9) : Int).toNat) := ⟨_, rfl⟩
          replace H : ((bsoncore_valueLength.f kj3 y199 (rd l0 0)).bind fun bt204 => (if bt204.2 = true then (if (wrap64 ((ji9) + (wrap64 (bt204.1)))) > (l0.length : Int) then (some (([] : List Int), l0, false)) else (if 0 ≤ (wrap64 ((ji9) + (wrap64 (bt204.1)))) then (if (wrap64 ((ji9) + (wrap64 (bt204.1)))) ≤ (l0.length : Int) then (some ((l0.take ((wrap64 ((ji9) + (wrap64 (bt204.1)))) : Int).toNat), (l0.drop ((wrap64 ((ji9) + (wrap64 (bt204.1)))) : Int).toNat), true)) else (none)) else (none))) else (some (([] : List Int), l0, false)))) = some (r1, r2, r3) := by (try rw [hy199]); exact HW.rp
          have Ny199 := Aside0.mk hy199; clear hy199; replace H := Option.bind_eq_some_iff.mp H; obtain ⟨⟨t204, t205⟩, A120, H⟩ := H; replace H : (if t205 = true then (if (wrap64 ((ji9) + (wrap64 (t204)))) > (l0.length : Int) then (some (([] : List Int), l0, false)) else (if 0 ≤ (wrap64 ((ji9) + (wrap64 (t204)))) then (if (wrap64 ((ji9) + (wrap64 (t204)))) ≤ (l0.length : Int) then (some ((l0.take ((wrap64 ((ji9) + (wrap64 (t204)))) : Int).toNat), (l0.drop ((wrap64 ((ji9) + (wrap64 (t204)))) : Int).toNat), true)) else (none)) else (none))) else (some (([] : List Int), l0, false))) = some (r1, r2, r3) := H; have A12 := Aside0.mk A120; clear A120
          by_cases c13 : t205 = true
          rotate_left
          · replace c13 := Bool.eq_false_iff.mpr c13
            subst c13
            have H1 : (some (([] : List Int), l0, false)) = some (r1, r2, r3) := by rw [if_neg (show ¬ (false = true) by decide)] at H; exact H
            clear H; have H := H1; clear H1
            as_aux_lemma =>
              simp only [Option.some.injEq, Prod.mk.injEq] at H
              obtain ⟨rfl, rfl, rfl⟩ := H
              have q26 : ((ji9) : Int) ≤ ((l0.length : Int) : Int) := HW.od
              obtain ⟨i026, hi026, _, hsz26, _⟩ := info_parts info5; have hroom26 : l0.length ≤ c0 := (Kd.V_reads' HO_0.out).2.1; have hC26 : Kd.F (Kd.int .u8) _ _ (some ad197) l0.length l0 := (Kd.V_at (base := w.heap.size) HO_0.out).2.2
              have q026 : (0 : Int) ≤ ((ji9) : Int) := HW.od
              have hcut26 := cut_from (P := Tryz.prog) 22 5 .i64 Tryz.underlying22 hi026 1 hsz26 (some ad197) l0.length c0 (ji9) q026 q26
              have hr26 := Kd.F_cut (m := ((ji9) : Int).toNat) (c := c0) hC26 (by omega) hroom26
              obtain ⟨A26, hA26⟩ : ∃ A1, A1 = (if c0 = ((ji9) : Int).toNat then (some ad197) else ((some ad197) : Option Addr).map (·.add (((ji9) : Int).toNat * 1))) := ⟨_, rfl⟩; obtain ⟨c26, hc26⟩ : ∃ c1, c1 = c0 - ((ji9) : Int).toNat := ⟨_, rfl⟩
              have hy26 : y199.length = l0.length - ((ji9) : Int).toNat := (by rw [Ny199.out, List.length_drop] <;> omega)
              rw [show (l0).drop ((ji9) : Int).toNat = y199 from Ny199.out.symm] at hr26
              replace hr26 : Kd.F (Kd.int .u8) _ _ A26 y199.length y199 := (by rw [hA26]; exact hr26)
              rw [← hy26, ← hA26, ← hc26] at hcut26
              have HO203 := Aside0.mk (show Kd.V (Kd.int .u8) 5 _ w.heap.size _ (.slice A26 y199.length c26) y199 from Kd.V_mk (by rw [hy26, hc26]; exact Nat.sub_le_sub_right hroom26 _) hr26)
              have HC203 := Aside0.mk (show y199.length ≤ c26 from by rw [hy26, hc26]; exact Nat.sub_le_sub_right hroom26 _)
              clear hr26 hC26 hroom26 hi026 hsz26 hc26; have KY26 := Aside0.mk hy26; have KA26 := Aside0.mk hA26; clear hy26 hA26; replace q26 := eq_true q26
              go_wp2_with (first | (go_at_call 124; (with_reducible refine (bsoncore_valueLength.calls kj3 _ _ y199 (rd l0 0) t204 false _ ?side1 ?side2 A12.out).mono ?_); (case side1 => repeat (first | exact (Kd.V_reads' HO203.out).2.2 | (with_reducible refine Kd.C_alloc ?_ _) | (with_reducible refine Kd.C_drewN ?_ _) | (with_reducible refine Kd.C_drew ?_))); (case side2 => exact (Kd.V_reads' HO203.out).2.1); rintro e w27 ⟨rfl, hb⟩; replace HO_0 := Aside0.mk (Kd.V_below (HW.zV HO_0.out) hb); replace HO203 := Aside0.mk (Kd.V_below (HW.zV HO203.out) hb); replace HB := Aside0.mk (below_step HW.zb hb); (try clear hb)))
              repeat (go_quiet (fail); try go_wp2)
              go_ret3
              exact ⟨_, _, by first | rfl | (simp [errW_none, errW_some] <;> rfl) | (simp only [← hji9]; first | rfl | (simp [errW_none, errW_some] <;> rfl)) | (simp [*, errW_none, errW_some] <;> rfl), Kd.V_nil _ _ _ _ _, HW.zV HO_0.out, HW.zb⟩
          subst c13
          have H1 : (if (wrap64 ((ji9) + (wrap64 (t204)))) > (l0.length : Int) then (some (([] : List Int), l0, false)) else (if 0 ≤ (wrap64 ((ji9) + (wrap64 (t204)))) then (if (wrap64 ((ji9) + (wrap64 (t204)))) ≤ (l0.length : Int) then (some ((l0.take ((wrap64 ((ji9) + (wrap64 (t204)))) : Int).toNat), (l0.drop ((wrap64 ((ji9) + (wrap64 (t204)))) : Int).toNat), true)) else (none)) else (none))) = some (r1, r2, r3) := by rw [if_pos rfl] at H; exact H
          clear H; have H := H1; clear H1
          by_cases c14 : (wrap64 ((ji9) + (wrap64 (t204)))) > (l0.length : Int)
          · rw [if_pos c14] at H
            have c14b0 : decide ((l0.length : Int) < (wrap64 ((ji9) + (wrap64 (t204))))) = true := decide_eq_true c14; clear c14
            as_aux_lemma =>
              simp only [Option.some.injEq, Prod.mk.injEq] at H
              obtain ⟨rfl, rfl, rfl⟩ := H
              have q15 : ((ji9) : Int) ≤ ((l0.length : Int) : Int) := HW.od
              obtain ⟨i015, hi015, _, hsz15, _⟩ := info_parts info5; have hroom15 : l0.length ≤ c0 := (Kd.V_reads' HO_0.out).2.1; have hC15 : Kd.F (Kd.int .u8) _ _ (some ad197) l0.length l0 := (Kd.V_at (base := w.heap.size) HO_0.out).2.2
              have q015 : (0 : Int) ≤ ((ji9) : Int) := HW.od
              have hcut15 := cut_from (P := Tryz.prog) 22 5 .i64 Tryz.underlying22 hi015 1 hsz15 (some ad197) l0.length c0 (ji9) q015 q15
              have hr15 := Kd.F_cut (m := ((ji9) : Int).toNat) (c := c0) hC15 (by omega) hroom15
              obtain ⟨A15, hA15⟩ : ∃ A1, A1 = (if c0 = ((ji9) : Int).toNat then (some ad197) else ((some ad197) : Option Addr).map (·.add (((ji9) : Int).toNat * 1))) := ⟨_, rfl⟩; obtain ⟨c15, hc15⟩ : ∃ c1, c1 = c0 - ((ji9) : Int).toNat := ⟨_, rfl⟩
              have hy15 : y199.length = l0.length - ((ji9) : Int).toNat := (by rw [Ny199.out, List.length_drop] <;> omega)
              rw [show (l0).drop ((ji9) : Int).toNat = y199 from Ny199.out.symm] at hr15
              replace hr15 : Kd.F (Kd.int .u8) _ _ A15 y199.length y199 := (by rw [hA15]; exact hr15)
              rw [← hy15, ← hA15, ← hc15] at hcut15
              have HO203 := Aside0.mk (show Kd.V (Kd.int .u8) 5 _ w.heap.size _ (.slice A15 y199.length c15) y199 from Kd.V_mk (by rw [hy15, hc15]; exact Nat.sub_le_sub_right hroom15 _) hr15)
              have HC203 := Aside0.mk (show y199.length ≤ c15 from by rw [hy15, hc15]; exact Nat.sub_le_sub_right hroom15 _)
              clear hr15 hC15 hroom15 hi015 hsz15 hc15; have KY15 := Aside0.mk hy15; have KA15 := Aside0.mk hA15; clear hy15 hA15; replace q15 := eq_true q15
              go_wp2_with (first | (go_at_call 124; (with_reducible refine (bsoncore_valueLength.calls kj3 _ _ y199 (rd l0 0) t204 true _ ?side1 ?side2 A12.out).mono ?_); (case side1 => repeat (first | exact (Kd.V_reads' HO203.out).2.2 | (with_reducible refine Kd.C_alloc ?_ _) | (with_reducible refine Kd.C_drewN ?_ _) | (with_reducible refine Kd.C_drew ?_))); (case side2 => exact (Kd.V_reads' HO203.out).2.1); rintro e w16 ⟨rfl, hb⟩; replace HO_0 := Aside0.mk (Kd.V_below (HW.zV HO_0.out) hb); replace HO203 := Aside0.mk (Kd.V_below (HW.zV HO203.out) hb); replace HB := Aside0.mk (below_step HW.zb hb); (try clear hb)))
              repeat (go_quiet (fail); try go_wp2)
              go_ret3
              exact ⟨_, _, by first | rfl | (simp [errW_none, errW_some] <;> rfl) | (simp only [← hji9]; first | rfl | (simp [errW_none, errW_some] <;> rfl)) | (simp [*, errW_none, errW_some] <;> rfl), Kd.V_nil _ _ _ _ _, HW.zV HO_0.out, HW.zb⟩
          rw [if_neg c14] at H; have c14b0 : decide ((l0.length : Int) < (wrap64 ((ji9) + (wrap64 (t204))))) = false := decide_eq_false c14; clear c14; obtain ⟨ji17, hji17⟩ : ∃ j_ : Int, (wrap64 ((ji9) + (wrap64 (t204)))) = j_ := ⟨_, rfl⟩
          replace H : (if 0 ≤ (ji17) then (if (ji17) ≤ (l0.length : Int) then (some ((l0.take ((ji17) : Int).toNat), (l0.drop ((ji17) : Int).toNat), true)) else (none)) else (none)) = some (r1, r2, r3) := by first | (rw [hji17] at H; exact H) | (simp only [hji17] at H ⊢; exact H)
          (try rw [hji17] at c14b0)
          (try rw [hji17] at A12)
          have hji17w : (IntKind.i64.wrap ((ji9) + (wrap64 (t204)))) = ji17 := (i64_w _).trans hji17
          by_cases c18 : 0 ≤ (ji17)
          rotate_left
          · rw [if_neg c18] at H
            exact absurd H (by simp)
          rw [if_pos c18] at H; have c18b0 := eq_true c18; have c18b1 : decide (0 ≤ (ji17)) = true := decide_eq_true c18; clear c18
          by_cases c19 : (ji17) ≤ (l0.length : Int)
          rotate_left
          · rw [if_neg c19] at H
            exact absurd H (by simp)
          rw [if_pos c19] at H; have c19b0 := eq_true c19; have c19b1 : decide ((ji17) ≤ (l0.length : Int)) = true := decide_eq_true c19; clear c19; obtain ⟨y206, hy206⟩ : ∃ y_ : List Int, y_ = (l0.take ((ji17) : Int).toNat) := ⟨_, rfl⟩
          replace H : (some (y206, (l0.drop ((ji17) : Int).toNat), true)) = some (r1, r2, r3) := by (try rw [hy206]); exact HW.rp
          have Ny206 := Aside0.mk hy206; clear hy206
          have c20b0 := eq_true (HW.od : 0 ≤ (ji17))
          have c21b0 := eq_true (HW.od : (ji17) ≤ (l0.length : Int))
          obtain ⟨y211, hy211⟩ : ∃ y_ : List Int, y_ = (l0.drop ((ji17) : Int).toNat) := ⟨_, rfl⟩
          replace H : (some (y206, y211, true)) = some (r1, r2, r3) := by (try rw [hy211]); exact HW.rp
          have Ny211 := Aside0.mk hy211; clear hy211
          as_aux_lemma =>
            simp only [Option.some.injEq, Prod.mk.injEq] at H
            obtain ⟨rfl, rfl, rfl⟩ := H
            have q22 : ((ji9) : Int) ≤ ((l0.length : Int) : Int) := HW.od
            obtain ⟨i022, hi022, _, hsz22, _⟩ := info_parts info5; have hroom22 : l0.length ≤ c0 := (Kd.V_reads' HO_0.out).2.1; have hC22 : Kd.F (Kd.int .u8) _ _ (some ad197) l0.length l0 := (Kd.V_at (base := w.heap.size) HO_0.out).2.2
            have q022 : (0 : Int) ≤ ((ji9) : Int) := HW.od
            have hcut22 := cut_from (P := Tryz.prog) 22 5 .i64 Tryz.underlying22 hi022 1 hsz22 (some ad197) l0.length c0 (ji9) q022 q22
            have hr22 := Kd.F_cut (m := ((ji9) : Int).toNat) (c := c0) hC22 (by omega) hroom22
            obtain ⟨A22, hA22⟩ : ∃ A1, A1 = (if c0 = ((ji9) : Int).toNat then (some ad197) else ((some ad197) : Option Addr).map (·.add (((ji9) : Int).toNat * 1))) := ⟨_, rfl⟩; obtain ⟨c22, hc22⟩ : ∃ c1, c1 = c0 - ((ji9) : Int).toNat := ⟨_, rfl⟩
            have hy22 : y199.length = l0.length - ((ji9) : Int).toNat := (by rw [Ny199.out, List.length_drop] <;> omega)
            rw [show (l0).drop ((ji9) : Int).toNat = y199 from Ny199.out.symm] at hr22
            replace hr22 : Kd.F (Kd.int .u8) _ _ A22 y199.length y199 := (by rw [hA22]; exact hr22)
            rw [← hy22, ← hA22, ← hc22] at hcut22
            have HO203 := Aside0.mk (show Kd.V (Kd.int .u8) 5 _ w.heap.size _ (.slice A22 y199.length c22) y199 from Kd.V_mk (by rw [hy22, hc22]; exact Nat.sub_le_sub_right hroom22 _) hr22)
            have HC203 := Aside0.mk (show y199.length ≤ c22 from by rw [hy22, hc22]; exact Nat.sub_le_sub_right hroom22 _)
            clear hr22 hC22 hroom22 hi022 hsz22 hc22; have KY22 := Aside0.mk hy22; have KA22 := Aside0.mk hA22; clear hy22 hA22; replace q22 := eq_true q22
            go_wp2_with (first | (go_at_call 124; (with_reducible refine (bsoncore_valueLength.calls kj3 _ _ y199 (rd l0 0) t204 true _ ?side1 ?side2 A12.out).mono ?_); (case side1 => repeat (first | exact (Kd.V_reads' HO203.out).2.2 | (with_reducible refine Kd.C_alloc ?_ _) | (with_reducible refine Kd.C_drewN ?_ _) | (with_reducible refine Kd.C_drew ?_))); (case side2 => exact (Kd.V_reads' HO203.out).2.1); rintro e w23 ⟨rfl, hb⟩; replace HO_0 := Aside0.mk (Kd.V_below (HW.zV HO_0.out) hb); replace HO203 := Aside0.mk (Kd.V_below (HW.zV HO203.out) hb); replace HB := Aside0.mk (below_step HW.zb hb); (try clear hb); have q24 : ((ji17) : Int) ≤ ((l0.length : Int) : Int) := HW.od; obtain ⟨i024, hi024, _, hsz24, _⟩ := info_parts info5; have hroom24 : l0.length ≤ c0 := (Kd.V_reads' HO_0.out).2.1; have hC24 : Kd.F (Kd.int .u8) _ _ (some ad197) l0.length l0 := (Kd.V_at (base := w.heap.size) HO_0.out).2.2; have hcut24 := cut_to (P := Tryz.prog) 22 5 .i64 Tryz.underlying22 hi024 (some ad197) l0.length c0 (ji17) (HW.od) q24 hroom24; have hr24 := Kd.F_take (m := ((ji17) : Int).toNat) hC24 (by omega); have hy24 : y206.length = ((ji17) : Int).toNat := (by rw [Ny206.out, List.length_take]; omega); rw [← Ny206.out] at hr24; rw [← hy24] at hcut24; have HO210 := Aside0.mk (show Kd.V (Kd.int .u8) 5 _ w.heap.size _ (.slice (some ad197) y206.length c0) y206 from Kd.V_mk (by omega) hr24); have HC210 := Aside0.mk (show y206.length ≤ c0 from by omega); clear hr24 hC24 hroom24 hi024 hsz24; have KY24 := Aside0.mk hy24; clear hy24; replace q24 := eq_true q24; have q25 : ((ji17) : Int) ≤ ((l0.length : Int) : Int) := HW.od; obtain ⟨i025, hi025, _, hsz25, _⟩ := info_parts info5; have hroom25 : l0.length ≤ c0 := (Kd.V_reads' HO_0.out).2.1; have hC25 : Kd.F (Kd.int .u8) _ _ (some ad197) l0.length l0 := (Kd.V_at (base := w.heap.size) HO_0.out).2.2; have q025 : (0 : Int) ≤ ((ji17) : Int) := HW.od; have hcut25 := cut_from (P := Tryz.prog) 22 5 .i64 Tryz.underlying22 hi025 1 hsz25 (some ad197) l0.length c0 (ji17) q025 q25; have hr25 := Kd.F_cut (m := ((ji17) : Int).toNat) (c := c0) hC25 (by omega) hroom25; obtain ⟨A25, hA25⟩ : ∃ A1, A1 = (if c0 = ((ji17) : Int).toNat then (some ad197) else ((some ad197) : Option Addr).map (·.add (((ji17) : Int).toNat * 1))) := ⟨_, rfl⟩; obtain ⟨c25, hc25⟩ : ∃ c1, c1 = c0 - ((ji17) : Int).toNat := ⟨_, rfl⟩; have hy25 : y211.length = l0.length - ((ji17) : Int).toNat := (by rw [Ny211.out, List.length_drop] <;> omega); rw [show (l0).drop ((ji17) : Int).toNat = y211 from Ny211.out.symm] at hr25; replace hr25 : Kd.F (Kd.int .u8) _ _ A25 y211.length y211 := (by rw [hA25]; exact hr25); rw [← hy25, ← hA25, ← hc25] at hcut25; have HO215 := Aside0.mk (show Kd.V (Kd.int .u8) 5 _ w.heap.size _ (.slice A25 y211.length c25) y211 from Kd.V_mk (by rw [hy25, hc25]; exact Nat.sub_le_sub_right hroom25 _) hr25); have HC215 := Aside0.mk (show y211.length ≤ c25 from by rw [hy25, hc25]; exact Nat.sub_le_sub_right hroom25 _); clear hr25 hC25 hroom25 hi025 hsz25 hc25; have KY25 := Aside0.mk hy25; have KA25 := Aside0.mk hA25; clear hy25 hA25; replace q25 := eq_true q25))
            repeat (go_quiet (fail); try go_wp2)
            go_ret3
            exact ⟨_, _, by first | rfl | (simp [errW_none, errW_some] <;> rfl) | (simp only [← hji9, ← hji17]; first | rfl | (simp [errW_none, errW_some] <;> rfl)) | (simp [*, errW_none, errW_some] <;> rfl), HW.zV HO210.out, HW.zV HO215.out, HW.zb⟩
def bsoncore_Element_KeyBytesErr.f (l0 : List Int) : Option (List Int × Option (Int × ByteArray)) := if (l0.length : Int) = 0 then (none) else (if 1 ≤ (l0.length : Int) then ((bytes_IndexByte.f (l0.drop 1) 0).bind fun t221 => (if t221 = (-1) then (none) else (if 1 ≤ (wrap64 (t221 + 1)) then (if (wrap64 (t221 + 1)) ≤ (l0.length : Int) then (some (((l0.take ((wrap64 (t221 + 1)) : Int).toNat).drop 1), none)) else (none)) else (none)))) else (none))
theorem bsoncore_Element_KeyBytesErr.calls (ρ : Nat → Addr) (P0_ : Nat → Prop) (A0 : Option Addr) (c0 : Nat) (l0 : List Int) (r1 : List Int) (r2 : Option (Int × ByteArray)) (w : World) (hs0 : Kd.V (Kd.int .u8) 5 w w.heap.size (fun k_ => P0_ k_) (.slice A0 l0.length c0) l0) (h : bsoncore_Element_KeyBytesErr.f l0 = some (r1, r2)) :
    Calls Tryz.prog 125 #[.slice A0 l0.length c0] w fun e w' => ∃ v0_ v1_ : Value, e = .returned (.tuple #[v0_, v1_]) ∧ Er.ErrR ρ v1_ r2 ∧ Kd.V (Kd.int .u8) 5 w' w.heap.size (fun k_ => (P0_ k_ ∨ w.heap.size ≤ k_)) v0_ r1 ∧ Below w.heap.size w w' := by
  have hu59 := Tryz.underlying59; have HO0 := Aside0.mk (show Kd.V (Kd.int .u8) 5 w w.heap.size (fun k_ => (P0_ k_ ∨ w.heap.size ≤ k_)) (.slice A0 l0.length c0) l0 from Kd.V_mono hs0 (fun k_ hk => .inl hk)); have HB := Aside0.mk (Below.refl w.heap.size w); have H : (if (l0.length : Int) = 0 then (none) else (if 1 ≤ (l0.length : Int) then ((bytes_IndexByte.f (l0.drop 1) 0).bind fun t221 => (if t221 = (-1) then (none) else (if 1 ≤ (wrap64 (t221 + 1)) then (if (wrap64 (t221 + 1)) ≤ (l0.length : Int) then (some (((l0.take ((wrap64 (t221 + 1)) : Int).toNat).drop 1), none)) else (none)) else (none)))) else (none))) = some (r1, r2) := h; clear h
  by_cases c2 : (l0.length : Int) = 0
  · rw [if_pos c2] at H
    exact absurd H (by simp)
  rw [if_neg c2] at H; have c2b0 : ((l0.length : Int) == 0) = false := beq_eq_false_iff_ne.mpr c2; have c2b1 : ((l0.length : Int) != 0) = true := bne_iff_ne.mpr c2
  have c2b2 : ¬ (l0 = []) := fun h_ => c2 (by rw [h_]; rfl)
  by_cases c3 : 1 ≤ (l0.length : Int)
  rotate_left
  · rw [if_neg c3] at H
    exact absurd H (by simp)
  rw [if_pos c3] at H; have c3b0 := eq_true c3; have c3b1 : decide (1 ≤ (l0.length : Int)) = true := decide_eq_true c3; clear c3; obtain ⟨y216, hy216⟩ : ∃ y_ : List Int, y_ = (l0.drop 1) := ⟨_, rfl⟩
  replace H : ((bytes_IndexByte.f y216 0).bind fun t221 => (if t221 = (-1) then (none) else (if 1 ≤ (wrap64 (t221 + 1)) then (if (wrap64 (t221 + 1)) ≤ (l0.length : Int) then (some (((l0.take ((wrap64 (t221 + 1)) : Int).toNat).drop 1), none)) else (none)) else (none)))) = some (r1, r2) := by (try rw [hy216]); exact HW.rp
  have Ny216 := Aside0.mk hy216; clear hy216; replace H := Option.bind_eq_some_iff.mp H; obtain ⟨t221, A40, H⟩ := H; replace H : (if t221 = (-1) then (none) else (if 1 ≤ (wrap64 (t221 + 1)) then (if (wrap64 (t221 + 1)) ≤ (l0.length : Int) then (some (((l0.take ((wrap64 (t221 + 1)) : Int).toNat).drop 1), none)) else (none)) else (none))) = some (r1, r2) := H; have A4 := Aside0.mk A40; clear A40
  by_cases c5 : t221 = (-1)
  · rw [if_pos c5] at H
    exact absurd H (by simp)
  rw [if_neg c5] at H; have c5b0 : (t221 == (-1)) = false := beq_eq_false_iff_ne.mpr c5; have c5b1 : (t221 != (-1)) = true := bne_iff_ne.mpr c5
  by_cases c6 : 1 ≤ (wrap64 (t221 + 1))
  rotate_left
  · rw [if_neg c6] at H
    exact absurd H (by simp)
  rw [if_pos c6] at H; have c6b0 := eq_true c6; have c6b1 : decide (1 ≤ (wrap64 (t221 + 1))) = true := decide_eq_true c6
  by_cases c7 : (wrap64 (t221 + 1)) ≤ (l0.length : Int)
  rotate_left
  · rw [if_neg c7] at H
    exact absurd H (by simp)
  rw [if_pos c7] at H; have c7b0 := eq_true c7; have c7b1 : decide ((wrap64 (t221 + 1)) ≤ (l0.length : Int)) = true := decide_eq_true c7; obtain ⟨y222, hy222⟩ : ∃ y_ : List Int, y_ = ((l0.take ((wrap64 (t221 + 1)) : Int).toNat).drop 1) := ⟨_, rfl⟩
  replace H : (some (y222, none)) = some (r1, r2) := by (try rw [hy222]); exact HW.rp
  have Ny222 := Aside0.mk hy222; clear hy222
  as_aux_lemma =>
    simp only [Option.some.injEq, Prod.mk.injEq] at H
    obtain ⟨rfl, rfl⟩ := H
    have q8 : (1 : Int) ≤ ((l0.length : Int) : Int) := HW.od
    obtain ⟨i08, hi08, _, hsz8, _⟩ := info_parts info5; have hroom8 : l0.length ≤ c0 := (Kd.V_reads' HO0.out).2.1; have hC8 : Kd.F (Kd.int .u8) _ _ A0 l0.length l0 := (Kd.V_at (base := w.heap.size) HO0.out).2.2
    have hcut8 := cut_from (P := Tryz.prog) 57 5 .i64 Tryz.underlying57 hi08 1 hsz8 A0 l0.length c0 1 (by omega) q8
    have hr8 := Kd.F_cut (m := (1 : Int).toNat) (c := c0) hC8 (by omega) hroom8
    obtain ⟨A8, hA8⟩ : ∃ A1, A1 = (if c0 = (1 : Int).toNat then A0 else (A0 : Option Addr).map (·.add ((1 : Int).toNat * 1))) := ⟨_, rfl⟩; obtain ⟨c8, hc8⟩ : ∃ c1, c1 = c0 - (1 : Int).toNat := ⟨_, rfl⟩
    have hy8 : y216.length = l0.length - (1 : Int).toNat := (by rw [Ny216.out, List.length_drop] <;> omega)
    rw [show (l0).drop (1 : Int).toNat = y216 from Ny216.out.symm] at hr8
    replace hr8 : Kd.F (Kd.int .u8) _ _ A8 y216.length y216 := (by rw [hA8]; exact hr8)
    rw [← hy8, ← hA8, ← hc8] at hcut8
    have HO220 := Aside0.mk (show Kd.V (Kd.int .u8) 5 _ w.heap.size _ (.slice A8 y216.length c8) y216 from Kd.V_mk (by rw [hy8, hc8]; exact Nat.sub_le_sub_right hroom8 _) hr8)
    have HC220 := Aside0.mk (show y216.length ≤ c8 from by rw [hy8, hc8]; exact Nat.sub_le_sub_right hroom8 _)
    clear hr8 hC8 hroom8 hi08 hsz8 hc8; have KY8 := Aside0.mk hy8; have KA8 := Aside0.mk hA8; clear hy8 hA8; replace q8 := eq_true q8
    go_enter Tryz.func125, Tryz.ntmps125
    go_wp2_with (first | ((with_reducible refine gate_callee (f := 127) rfl ?_); refine HW.gz (some 11) rfl rfl Tryz.func127 (by kernel_rfl) rfl #[.slice A8 y216.length c8, .int .u8 0] rfl ?_; (with_reducible refine (bytes_IndexByte.calls _ _ y216 0 t221 _ ?side1 ?side2 A4.out).mono ?_); (case side1 => repeat (first | exact (Kd.V_reads' HO220.out).2.2 | (with_reducible refine Kd.C_alloc ?_ _) | (with_reducible refine Kd.C_drewN ?_ _) | (with_reducible refine Kd.C_drew ?_))); (case side2 => exact (Kd.V_reads' HO220.out).2.1); rintro e w' ⟨rfl, ⟨nd, rfl⟩⟩; refine ⟨_, rfl, ?_⟩; have q9 : ((wrap64 (t221 + 1)) : Int) ≤ ((l0.length : Int) : Int) := HW.od; obtain ⟨i09, hi09, _, hsz9, _⟩ := info_parts info5; have hroom9 : l0.length ≤ c0 := (Kd.V_reads' HO0.out).2.1; have hC9 : Kd.F (Kd.int .u8) _ _ A0 l0.length l0 := (Kd.V_at (base := w.heap.size) HO0.out).2.2; have ql9 : (1 : Int) ≤ ((wrap64 (t221 + 1)) : Int) := HW.od; have hcut9 := cut_mid (P := Tryz.prog) 57 5 .i64 .i64 Tryz.underlying57 hi09 1 hsz9 A0 l0.length c0 1 (wrap64 (t221 + 1)) (by omega) ql9 q9 hroom9; have hr9 := Kd.F_mid (lo := (1 : Int).toNat) (hi := ((wrap64 (t221 + 1)) : Int).toNat) (c := c0) hC9 (by omega) (by omega) hroom9; obtain ⟨A9, hA9⟩ : ∃ A1, A1 = (if c0 = (1 : Int).toNat then A0 else (A0 : Option Addr).map (·.add ((1 : Int).toNat * 1))) := ⟨_, rfl⟩; obtain ⟨c9, hc9⟩ : ∃ c1, c1 = c0 - (1 : Int).toNat := ⟨_, rfl⟩; have hy9 : y222.length = ((wrap64 (t221 + 1)) : Int).toNat - (1 : Int).toNat := (by rw [Ny222.out, List.length_drop, List.length_take] <;> omega); rw [show ((l0).take ((wrap64 (t221 + 1)) : Int).toNat).drop (1 : Int).toNat = y222 from Ny222.out.symm] at hr9; replace hr9 : Kd.F (Kd.int .u8) _ _ A9 y222.length y222 := (by rw [hA9]; exact hr9); rw [← hy9, ← hA9, ← hc9] at hcut9; have HO226 := Aside0.mk (show Kd.V (Kd.int .u8) 5 _ w.heap.size _ (.slice A9 y222.length c9) y222 from Kd.V_mk (by rw [hy9, hc9]; exact Nat.sub_le_sub_right (Nat.le_trans (by omega) hroom9) _) hr9); have HC226 := Aside0.mk (show y222.length ≤ c9 from by rw [hy9, hc9]; exact Nat.sub_le_sub_right (Nat.le_trans (by omega) hroom9) _); clear hr9 hC9 hroom9 hi09 hsz9 hc9; have KY9 := Aside0.mk hy9; have KA9 := Aside0.mk hA9; clear hy9 hA9; replace q9 := eq_true q9))
    go_ret2
    exact ⟨_, _, rfl, (by first | exact Er.ErrR.nil | (refine Aside0.out ?_; first | with_reducible assumption | assumption) | exact Er.ErrR.val _ | exact Er.ErrR.mal _ | exact Er.ErrR.dep _ _ | (refine Er.ErrR.few _ _ ?_ ?_ <;> first | exact ⟨_, _, _, rfl⟩ | (refine Er.isl_V (Aside0.out ?_); with_reducible assumption)) | (refine Er.ErrR.sent _ _ ?_ ?_ <;> decide)), HW.zV HO226.out, HW.zb⟩
def bsoncore_Element_KeyBytes.f (l0 : List Int) : Option (List Int) := (bsoncore_Element_KeyBytesErr.f l0).bind fun bt227 => (some bt227.1)
theorem bsoncore_Element_KeyBytes.calls (P0_ : Nat → Prop) (A0 : Option Addr) (c0 : Nat) (l0 : List Int) (r : List Int) (w : World) (hs0 : Kd.V (Kd.int .u8) 5 w w.heap.size (fun k_ => P0_ k_) (.slice A0 l0.length c0) l0) (h : bsoncore_Element_KeyBytes.f l0 = some r) :
    Calls Tryz.prog 77 #[.slice A0 l0.length c0] w fun e w' => ∃ v0_ : Value, e = .returned (v0_) ∧ Kd.V (Kd.int .u8) 5 w' w.heap.size (fun k_ => (P0_ k_ ∨ w.heap.size ≤ k_)) v0_ r ∧ Below w.heap.size w w' := by
  have HO0 := Aside0.mk (show Kd.V (Kd.int .u8) 5 w w.heap.size (fun k_ => (P0_ k_ ∨ w.heap.size ≤ k_)) (.slice A0 l0.length c0) l0 from Kd.V_mono hs0 (fun k_ hk => .inl hk)); have HB := Aside0.mk (Below.refl w.heap.size w); have H : ((bsoncore_Element_KeyBytesErr.f l0).bind fun bt227 => (some bt227.1)) = some r := h; clear h; replace H := Option.bind_eq_some_iff.mp H; obtain ⟨⟨t227, t230⟩, A20, H⟩ := H; replace H : (some t227) = some r := H; have A2 := Aside0.mk A20; clear A20
  as_aux_lemma =>
    obtain rfl := Option.some.inj H
    go_enter Tryz.func77, Tryz.ntmps77
    go_wp2_with (first | ((with_reducible refine gate_callee (f := 125) rfl ?_); refine HW.gz (some 7) rfl rfl Tryz.func125 (by kernel_rfl) rfl #[.slice A0 l0.length c0] rfl ?_; (with_reducible refine (bsoncore_Element_KeyBytesErr.calls Er.rho0 (fun k_ => (P0_ k_ ∨ w.heap.size ≤ k_)) _ _ l0 t227 t230 _ ?side1 A2.out).mono ?_); (case side1 => exact HO0.out); rintro e w3 ⟨v228, ve_t230, rfl, hE_t230, ho0, hb⟩; refine ⟨_, rfl, ?_⟩; have HO229 := Aside0.mk (Kd.V_lower (Kd.V_mono (ok' := fun k_ => (P0_ k_ ∨ w.heap.size ≤ k_)) ho0 (fun k_ hk_ => Or.elim hk_ (fun hs_ => hs_) (fun hn_ => (.inr (Nat.le_trans (below_size HW.zb) hn_))))) (below_size HW.zb)); replace HB := Aside0.mk (below_step HW.zb hb); (try clear hb); (try clear ho0); (first | (obtain rfl := Er.ErrR.nil_ hE_t230) | (refine (Er.ErrR.some_ hE_t230 (Aside0.out ?hsE)).elim ?_; (case hsE => with_reducible assumption); rintro T_hE_t230 ⟨X_hE_t230, rfl⟩) | skip); replace hE_t230 := Aside0.mk hE_t230))
    go_ret
    exact ⟨_, rfl, HW.zV HO229.out, HW.zb⟩
def bsoncore_readLengthBytes.f (l0 : List Int) : Option (List Int × List Int × Bool) := (bsoncore_ReadLength.f l0).bind fun bt231 => (if bt231.2.2 = true then (if bt231.1 < 4 then (some (([] : List Int), l0, false)) else (if (l0.length : Int) < (wrap64 (bt231.1)) then (some (([] : List Int), l0, false)) else (if 0 ≤ bt231.1 then (if bt231.1 ≤ (l0.length : Int) then (some ((l0.take (bt231.1 : Int).toNat), (l0.drop (bt231.1 : Int).toNat), true)) else (none)) else (none)))) else (some (([] : List Int), l0, false)))
theorem bsoncore_readLengthBytes.calls (P0_ : Nat → Prop) (A0 : Option Addr) (c0 : Nat) (l0 : List Int) (r1 : List Int) (r2 : List Int) (r3 : Bool) (w : World) (hs0 : Kd.V (Kd.int .u8) 5 w w.heap.size (fun k_ => P0_ k_) (.slice A0 l0.length c0) l0) (h : bsoncore_readLengthBytes.f l0 = some (r1, r2, r3)) :
    Calls Tryz.prog 115 #[.slice A0 l0.length c0] w fun e w' => ∃ v0_ v1_ : Value, e = .returned (.tuple #[v0_, v1_, .bool r3]) ∧ Kd.V (Kd.int .u8) 5 w' w.heap.size (fun k_ => (P0_ k_ ∨ w.heap.size ≤ k_)) v0_ r1 ∧ Kd.V (Kd.int .u8) 5 w' w.heap.size (fun k_ => (P0_ k_ ∨ w.heap.size ≤ k_)) v1_ r2 ∧ Below w.heap.size w w' := by
  have HO0 := Aside0.mk (show Kd.V (Kd.int .u8) 5 w w.heap.size (fun k_ => (P0_ k_ ∨ w.heap.size ≤ k_)) (.slice A0 l0.length c0) l0 from Kd.V_mono hs0 (fun k_ hk => .inl hk)); have HB := Aside0.mk (Below.refl w.heap.size w); have H : ((bsoncore_ReadLength.f l0).bind fun bt231 => (if bt231.2.2 = true then (if bt231.1 < 4 then (some (([] : List Int), l0, false)) else (if (l0.length : Int) < (wrap64 (bt231.1)) then (some (([] : List Int), l0, false)) else (if 0 ≤ bt231.1 then (if bt231.1 ≤ (l0.length : Int) then (some ((l0.take (bt231.1 : Int).toNat), (l0.drop (bt231.1 : Int).toNat), true)) else (none)) else (none)))) else (some (([] : List Int), l0, false)))) = some (r1, r2, r3) := h; clear h; replace H := Option.bind_eq_some_iff.mp H; obtain ⟨⟨t231, t232, t235⟩, A20, H⟩ := H; replace H : (if t235 = true then (if t231 < 4 then (some (([] : List Int), l0, false)) else (if (l0.length : Int) < (wrap64 (t231)) then (some (([] : List Int), l0, false)) else (if 0 ≤ t231 then (if t231 ≤ (l0.length : Int) then (some ((l0.take (t231 : Int).toNat), (l0.drop (t231 : Int).toNat), true)) else (none)) else (none)))) else (some (([] : List Int), l0, false))) = some (r1, r2, r3) := H; have A2 := Aside0.mk A20; clear A20
  by_cases c3 : t235 = true
  rotate_left
  · replace c3 := Bool.eq_false_iff.mpr c3
    subst c3
    have H1 : (some (([] : List Int), l0, false)) = some (r1, r2, r3) := by rw [if_neg (show ¬ (false = true) by decide)] at H; exact H
    clear H; have H := H1; clear H1
    as_aux_lemma =>
      simp only [Option.some.injEq, Prod.mk.injEq] at H
      obtain ⟨rfl, rfl, rfl⟩ := H
      go_enter Tryz.func115, Tryz.ntmps115
      go_wp2_with (first | (go_at_call 74; (with_reducible refine (bsoncore_ReadLength.calls (fun k_ => (P0_ k_ ∨ w.heap.size ≤ k_)) _ _ l0 t231 t232 false _ ?side1 A2.out).mono ?_); (case side1 => exact HO0.out); rintro e w15 ⟨v233, rfl, ho0, hb⟩; replace HO0 := Aside0.mk (Kd.V_below (HW.zV HO0.out) hb); replace HB := Aside0.mk (below_step HW.zb hb); (try clear hb); (try clear ho0)))
      repeat (go_quiet (fail); try go_wp2)
      go_ret3
      exact ⟨_, _, rfl, Kd.V_nil _ _ _ _ _, HW.zV HO0.out, HW.zb⟩
  subst c3
  have H1 : (if t231 < 4 then (some (([] : List Int), l0, false)) else (if (l0.length : Int) < (wrap64 (t231)) then (some (([] : List Int), l0, false)) else (if 0 ≤ t231 then (if t231 ≤ (l0.length : Int) then (some ((l0.take (t231 : Int).toNat), (l0.drop (t231 : Int).toNat), true)) else (none)) else (none)))) = some (r1, r2, r3) := by rw [if_pos rfl] at H; exact H
  clear H; have H := H1; clear H1
  by_cases c4 : t231 < 4
  · rw [if_pos c4] at H
    have c4b0 : decide (t231 < 4) = true := decide_eq_true c4; clear c4
    as_aux_lemma =>
      simp only [Option.some.injEq, Prod.mk.injEq] at H
      obtain ⟨rfl, rfl, rfl⟩ := H
      go_enter Tryz.func115, Tryz.ntmps115
      go_wp2_with (first | (go_at_call 74; (with_reducible refine (bsoncore_ReadLength.calls (fun k_ => (P0_ k_ ∨ w.heap.size ≤ k_)) _ _ l0 t231 t232 true _ ?side1 A2.out).mono ?_); (case side1 => exact HO0.out); rintro e w5 ⟨v233, rfl, ho0, hb⟩; replace HO0 := Aside0.mk (Kd.V_below (HW.zV HO0.out) hb); replace HB := Aside0.mk (below_step HW.zb hb); (try clear hb); (try clear ho0)))
      repeat (go_quiet (fail); try go_wp2)
      go_ret3
      exact ⟨_, _, rfl, Kd.V_nil _ _ _ _ _, HW.zV HO0.out, HW.zb⟩
  rw [if_neg c4] at H; have c4b0 : decide (t231 < 4) = false := decide_eq_false c4; clear c4
  by_cases c6 : (l0.length : Int) < (wrap64 (t231))
  · rw [if_pos c6] at H
    have c6b0 : decide ((l0.length : Int) < (wrap64 (t231))) = true := decide_eq_true c6; clear c6
    as_aux_lemma =>
      simp only [Option.some.injEq, Prod.mk.injEq] at H
      obtain ⟨rfl, rfl, rfl⟩ := H
      go_enter Tryz.func115, Tryz.ntmps115
      go_wp2_with (first | (go_at_call 74; (with_reducible refine (bsoncore_ReadLength.calls (fun k_ => (P0_ k_ ∨ w.heap.size ≤ k_)) _ _ l0 t231 t232 true _ ?side1 A2.out).mono ?_); (case side1 => exact HO0.out); rintro e w7 ⟨v233, rfl, ho0, hb⟩; replace HO0 := Aside0.mk (Kd.V_below (HW.zV HO0.out) hb); replace HB := Aside0.mk (below_step HW.zb hb); (try clear hb); (try clear ho0)))
      repeat (go_quiet (fail); try go_wp2)
      go_ret3
      exact ⟨_, _, rfl, Kd.V_nil _ _ _ _ _, HW.zV HO0.out, HW.zb⟩
  rw [if_neg c6] at H; have c6b0 : decide ((l0.length : Int) < (wrap64 (t231))) = false := decide_eq_false c6; clear c6
  by_cases c8 : 0 ≤ t231
  rotate_left
  · rw [if_neg c8] at H
    exact absurd H (by simp)
  rw [if_pos c8] at H; have c8b0 := eq_true c8; have c8b1 : decide (0 ≤ t231) = true := decide_eq_true c8; clear c8
  by_cases c9 : t231 ≤ (l0.length : Int)
  rotate_left
  · rw [if_neg c9] at H
    exact absurd H (by simp)
  rw [if_pos c9] at H; have c9b0 := eq_true c9; have c9b1 : decide (t231 ≤ (l0.length : Int)) = true := decide_eq_true c9; clear c9; obtain ⟨y236, hy236⟩ : ∃ y_ : List Int, y_ = (l0.take (t231 : Int).toNat) := ⟨_, rfl⟩
  replace H : (some (y236, (l0.drop (t231 : Int).toNat), true)) = some (r1, r2, r3) := by (try rw [hy236]); exact HW.rp
  have Ny236 := Aside0.mk hy236; clear hy236
  have c10b0 := eq_true (HW.od : 0 ≤ t231)
  have c11b0 := eq_true (HW.od : t231 ≤ (l0.length : Int))
  obtain ⟨y241, hy241⟩ : ∃ y_ : List Int, y_ = (l0.drop (t231 : Int).toNat) := ⟨_, rfl⟩
  replace H : (some (y236, y241, true)) = some (r1, r2, r3) := by (try rw [hy241]); exact HW.rp
  have Ny241 := Aside0.mk hy241; clear hy241
  as_aux_lemma =>
    simp only [Option.some.injEq, Prod.mk.injEq] at H
    obtain ⟨rfl, rfl, rfl⟩ := H
    go_enter Tryz.func115, Tryz.ntmps115
    go_wp2_with (first | (go_at_call 74; (with_reducible refine (bsoncore_ReadLength.calls (fun k_ => (P0_ k_ ∨ w.heap.size ≤ k_)) _ _ l0 t231 t232 true _ ?side1 A2.out).mono ?_); (case side1 => exact HO0.out); rintro e w12 ⟨v233, rfl, ho0, hb⟩; replace HO0 := Aside0.mk (Kd.V_below (HW.zV HO0.out) hb); replace HB := Aside0.mk (below_step HW.zb hb); (try clear hb); (try clear ho0); have q13 : (t231 : Int) ≤ ((l0.length : Int) : Int) := HW.od; obtain ⟨i013, hi013, _, hsz13, _⟩ := info_parts info5; have hroom13 : l0.length ≤ c0 := (Kd.V_reads' HO0.out).2.1; have hC13 : Kd.F (Kd.int .u8) _ _ A0 l0.length l0 := (Kd.V_at (base := w.heap.size) HO0.out).2.2; have hcut13 := cut_to (P := Tryz.prog) 22 5 .i32 Tryz.underlying22 hi013 A0 l0.length c0 t231 (HW.od) q13 hroom13; have hr13 := Kd.F_take (m := (t231 : Int).toNat) hC13 (by omega); have hy13 : y236.length = (t231 : Int).toNat := (by rw [Ny236.out, List.length_take]; omega); rw [← Ny236.out] at hr13; rw [← hy13] at hcut13; have HO240 := Aside0.mk (show Kd.V (Kd.int .u8) 5 _ w.heap.size _ (.slice A0 y236.length c0) y236 from Kd.V_mk (by omega) hr13); have HC240 := Aside0.mk (show y236.length ≤ c0 from by omega); clear hr13 hC13 hroom13 hi013 hsz13; have KY13 := Aside0.mk hy13; clear hy13; replace q13 := eq_true q13; have q14 : (t231 : Int) ≤ ((l0.length : Int) : Int) := HW.od; obtain ⟨i014, hi014, _, hsz14, _⟩ := info_parts info5; have hroom14 : l0.length ≤ c0 := (Kd.V_reads' HO0.out).2.1; have hC14 : Kd.F (Kd.int .u8) _ _ A0 l0.length l0 := (Kd.V_at (base := w.heap.size) HO0.out).2.2; have q014 : (0 : Int) ≤ (t231 : Int) := HW.od; have hcut14 := cut_from (P := Tryz.prog) 22 5 .i32 Tryz.underlying22 hi014 1 hsz14 A0 l0.length c0 t231 q014 q14; have hr14 := Kd.F_cut (m := (t231 : Int).toNat) (c := c0) hC14 (by omega) hroom14; obtain ⟨A14, hA14⟩ : ∃ A1, A1 = (if c0 = (t231 : Int).toNat then A0 else (A0 : Option Addr).map (·.add ((t231 : Int).toNat * 1))) := ⟨_, rfl⟩; obtain ⟨c14, hc14⟩ : ∃ c1, c1 = c0 - (t231 : Int).toNat := ⟨_, rfl⟩; have hy14 : y241.length = l0.length - (t231 : Int).toNat := (by rw [Ny241.out, List.length_drop] <;> omega); rw [show (l0).drop (t231 : Int).toNat = y241 from Ny241.out.symm] at hr14; replace hr14 : Kd.F (Kd.int .u8) _ _ A14 y241.length y241 := (by rw [hA14]; exact hr14); rw [← hy14, ← hA14, ← hc14] at hcut14; have HO245 := Aside0.mk (show Kd.V (Kd.int .u8) 5 _ w.heap.size _ (.slice A14 y241.length c14) y241 from Kd.V_mk (by rw [hy14, hc14]; exact Nat.sub_le_sub_right hroom14 _) hr14); have HC245 := Aside0.mk (show y241.length ≤ c14 from by rw [hy14, hc14]; exact Nat.sub_le_sub_right hroom14 _); clear hr14 hC14 hroom14 hi014 hsz14 hc14; have KY14 := Aside0.mk hy14; have KA14 := Aside0.mk hA14; clear hy14 hA14; replace q14 := eq_true q14))
    repeat (go_quiet (fail); try go_wp2)
    go_ret3
    exact ⟨_, _, rfl, HW.zV HO240.out, HW.zV HO245.out, HW.zb⟩
def bsoncore_ReadDocument.f (l0 : List Int) : Option (List Int × List Int × Bool) := (bsoncore_readLengthBytes.f l0).bind fun bt246 => (some (bt246.1, bt246.2.1, bt246.2.2))
theorem bsoncore_ReadDocument.calls (P0_ : Nat → Prop) (A0 : Option Addr) (c0 : Nat) (l0 : List Int) (r1 : List Int) (r2 : List Int) (r3 : Bool) (w : World) (hs0 : Kd.V (Kd.int .u8) 5 w w.heap.size (fun k_ => P0_ k_) (.slice A0 l0.length c0) l0) (h : bsoncore_ReadDocument.f l0 = some (r1, r2, r3)) :
    Calls Tryz.prog 51 #[.slice A0 l0.length c0] w fun e w' => ∃ v0_ v1_ : Value, e = .returned (.tuple #[v0_, v1_, .bool r3]) ∧ Kd.V (Kd.int .u8) 5 w' w.heap.size (fun k_ => (P0_ k_ ∨ w.heap.size ≤ k_)) v0_ r1 ∧ Kd.V (Kd.int .u8) 5 w' w.heap.size (fun k_ => (P0_ k_ ∨ w.heap.size ≤ k_)) v1_ r2 ∧ Below w.heap.size w w' := by
  have HO0 := Aside0.mk (show Kd.V (Kd.int .u8) 5 w w.heap.size (fun k_ => (P0_ k_ ∨ w.heap.size ≤ k_)) (.slice A0 l0.length c0) l0 from Kd.V_mono hs0 (fun k_ hk => .inl hk)); have HB := Aside0.mk (Below.refl w.heap.size w); have H : ((bsoncore_readLengthBytes.f l0).bind fun bt246 => (some (bt246.1, bt246.2.1, bt246.2.2))) = some (r1, r2, r3) := h; clear h; replace H := Option.bind_eq_some_iff.mp H; obtain ⟨⟨t246, t249, t252⟩, A20, H⟩ := H; replace H : (some (t246, t249, t252)) = some (r1, r2, r3) := H; have A2 := Aside0.mk A20; clear A20
  as_aux_lemma =>
    simp only [Option.some.injEq, Prod.mk.injEq] at H
    obtain ⟨rfl, rfl, rfl⟩ := H
    go_enter Tryz.func51, Tryz.ntmps51
    go_wp2_with (first | ((with_reducible refine gate_callee (f := 115) rfl ?_); refine HW.gz (some 6) rfl rfl Tryz.func115 (by kernel_rfl) rfl #[.slice A0 l0.length c0] rfl ?_; (with_reducible refine (bsoncore_readLengthBytes.calls (fun k_ => (P0_ k_ ∨ w.heap.size ≤ k_)) _ _ l0 t246 t249 t252 _ ?side1 A2.out).mono ?_); (case side1 => exact HO0.out); rintro e w3 ⟨v247, v250, rfl, ho0, ho1, hb⟩; refine ⟨_, rfl, ?_⟩; have HO248 := Aside0.mk (Kd.V_lower (Kd.V_mono (ok' := fun k_ => (P0_ k_ ∨ w.heap.size ≤ k_)) ho0 (fun k_ hk_ => Or.elim hk_ (fun hs_ => hs_) (fun hn_ => (.inr (Nat.le_trans (below_size HW.zb) hn_))))) (below_size HW.zb)); have HO251 := Aside0.mk (Kd.V_lower (Kd.V_mono (ok' := fun k_ => (P0_ k_ ∨ w.heap.size ≤ k_)) ho1 (fun k_ hk_ => Or.elim hk_ (fun hs_ => hs_) (fun hn_ => (.inr (Nat.le_trans (below_size HW.zb) hn_))))) (below_size HW.zb)); replace HB := Aside0.mk (below_step HW.zb hb); (try clear hb); (try clear ho0); (try clear ho1)))
    go_ret3
    exact ⟨_, _, rfl, HW.zV HO248.out, HW.zV HO251.out, HW.zb⟩
def bsoncore_Value_Document.f (a0_0 : Int) (l0_1 : List Int) : Option (List Int) := if a0_0 = 3 then ((bsoncore_ReadDocument.f l0_1).bind fun bt254 => (if bt254.2.2 = true then (some bt254.1) else (none))) else (none)
theorem bsoncore_Value_Document.calls (a0_0 : Int) (P0_1_ : Nat → Prop) (A0_1 : Option Addr) (c0_1 : Nat) (l0_1 : List Int) (r : List Int) (w : World) (hs0_1 : Kd.V (Kd.int .u8) 5 w w.heap.size (fun k_ => P0_1_ k_) (.slice A0_1 l0_1.length c0_1) l0_1) (h : bsoncore_Value_Document.f a0_0 l0_1 = some r) :
    Calls Tryz.prog 78 #[.agg #[.int .u8 a0_0, .slice A0_1 l0_1.length c0_1]] w fun e w' => ∃ v0_ : Value, e = .returned (v0_) ∧ Kd.V (Kd.int .u8) 5 w' w.heap.size (fun k_ => (P0_1_ k_ ∨ w.heap.size ≤ k_)) v0_ r ∧ Below w.heap.size w w' := by
  have hu67 := Tryz.underlying67; have hu191 := Tryz.underlying191; have HO0_1 := Aside0.mk (show Kd.V (Kd.int .u8) 5 w w.heap.size (fun k_ => (P0_1_ k_ ∨ w.heap.size ≤ k_)) (.slice A0_1 l0_1.length c0_1) l0_1 from Kd.V_mono hs0_1 (fun k_ hk => .inl hk)); have HB := Aside0.mk (Below.refl w.heap.size w); have H : (if a0_0 = 3 then ((bsoncore_ReadDocument.f l0_1).bind fun bt254 => (if bt254.2.2 = true then (some bt254.1) else (none))) else (none)) = some r := h; clear h
  by_cases c2 : a0_0 = 3
  rotate_left
  · rw [if_neg c2] at H
    exact absurd H (by simp)
  rw [if_pos c2] at H; have c2b0 : (a0_0 == 3) = true := beq_iff_eq.mpr c2; have c2b1 : (a0_0 != 3) = false := bne_eq_false_iff_eq.mpr c2; clear c2; replace H := Option.bind_eq_some_iff.mp H; obtain ⟨⟨t254, t257, t260⟩, A30, H⟩ := H; replace H : (if t260 = true then (some t254) else (none)) = some r := H; have A3 := Aside0.mk A30; clear A30
  by_cases c4 : t260 = true
  rotate_left
  · replace c4 := Bool.eq_false_iff.mpr c4
    subst c4
    have H1 : (none) = some r := by rw [if_neg (show ¬ (false = true) by decide)] at H; exact H
    clear H; have H := H1; clear H1
    exact absurd H (by simp)
  subst c4
  have H1 : (some t254) = some r := by rw [if_pos rfl] at H; exact H
  clear H; have H := H1; clear H1
  as_aux_lemma =>
    obtain rfl := Option.some.inj H
    go_enter Tryz.func78, Tryz.ntmps78
    go_wp2_with (first | ((with_reducible refine gate_dst (N := 1) rfl ?_); refine box_event ?hg (N := 1) ?hd (cs := #[.int .u8 a0_0, .slice A0_1 l0_1.length c0_1]) (t := 67) ?hr ?_; (case hd => rfl); (case hg => rfl); (case hr => first | (go_simp; done) | (go_simp; rfl)); intro gb253 hg w5 hbox hb; replace HO0_1 := Aside0.mk (Kd.V_below (Kd.V_elderB (HW.zV HO0_1.out) gb253 (Nat.le_of_eq hg.symm)) hb); have BK253 := Aside0.mk (hbox); have GE253 := Aside0.mk ((by rw [hg]; exact (below_size HW.zb) : w.heap.size ≤ gb253)); replace HB := Aside0.mk (below_step HW.zb hb); clear hb hbox hg; obtain ⟨hcz6_0, hcz6_1⟩ := HW.k2 BK253.out) | ((with_reducible refine gate_callee (f := 51) rfl ?_); refine HW.gz (some 16) rfl rfl Tryz.func51 (by kernel_rfl) rfl #[.slice A0_1 l0_1.length c0_1] rfl ?_; (with_reducible refine (bsoncore_ReadDocument.calls (fun k_ => ((P0_1_ k_ ∨ w.heap.size ≤ k_) ∧ k_ ≠ gb253)) _ _ l0_1 t254 t257 true _ ?side1 A3.out).mono ?_); (case side1 => exact HO0_1.out); rintro e w7 ⟨v255, v258, rfl, ho0, ho1, hb⟩; refine ⟨_, rfl, ?_⟩; have HO256 := Aside0.mk (Kd.V_lower (Kd.V_mono (ok' := fun k_ => (P0_1_ k_ ∨ w.heap.size ≤ k_) ∧ k_ ≠ gb253) ho0 (fun k_ hk_ => ⟨Or.elim hk_ (fun hs_ => hs_.1) (fun hn_ => (.inr (Nat.le_trans (below_size HW.zb) hn_))), Or.elim hk_ (fun hs_ => hs_.2) (fun hn_ => (Kd.freshB (g := gb253) (o := .cells #[.int .u8 a0_0, .slice A0_1 l0_1.length c0_1] 67 (0, 0)) (HW.zB BK253.out) k_ hn_))⟩)) (below_size HW.zb)); replace HB := Aside0.mk (below_step HW.zb hb); (try clear hb); (try clear ho0); (try clear ho1)))
    go_ret
    exact ⟨_, rfl, by (with_reducible repeat (first | apply Kd.V_alloc | apply Kd.V_drewN | apply Kd.V_drew)); exact Kd.V_mono HO256.out (fun _ hk => hk.1), HW.zb⟩
def bsoncore_ReadArray.f (l0 : List Int) : Option (List Int × List Int × Bool) := (bsoncore_readLengthBytes.f l0).bind fun bt267 => (some (bt267.1, bt267.2.1, bt267.2.2))
theorem bsoncore_ReadArray.calls (P0_ : Nat → Prop) (A0 : Option Addr) (c0 : Nat) (l0 : List Int) (r1 : List Int) (r2 : List Int) (r3 : Bool) (w : World) (hs0 : Kd.V (Kd.int .u8) 5 w w.heap.size (fun k_ => P0_ k_) (.slice A0 l0.length c0) l0) (h : bsoncore_ReadArray.f l0 = some (r1, r2, r3)) :
    Calls Tryz.prog 52 #[.slice A0 l0.length c0] w fun e w' => ∃ v0_ v1_ : Value, e = .returned (.tuple #[v0_, v1_, .bool r3]) ∧ Kd.V (Kd.int .u8) 5 w' w.heap.size (fun k_ => (P0_ k_ ∨ w.heap.size ≤ k_)) v0_ r1 ∧ Kd.V (Kd.int .u8) 5 w' w.heap.size (fun k_ => (P0_ k_ ∨ w.heap.size ≤ k_)) v1_ r2 ∧ Below w.heap.size w w' := by
  have HO0 := Aside0.mk (show Kd.V (Kd.int .u8) 5 w w.heap.size (fun k_ => (P0_ k_ ∨ w.heap.size ≤ k_)) (.slice A0 l0.length c0) l0 from Kd.V_mono hs0 (fun k_ hk => .inl hk)); have HB := Aside0.mk (Below.refl w.heap.size w); have H : ((bsoncore_readLengthBytes.f l0).bind fun bt267 => (some (bt267.1, bt267.2.1, bt267.2.2))) = some (r1, r2, r3) := h; clear h; replace H := Option.bind_eq_some_iff.mp H; obtain ⟨⟨t267, t270, t273⟩, A20, H⟩ := H; replace H : (some (t267, t270, t273)) = some (r1, r2, r3) := H; have A2 := Aside0.mk A20; clear A20
  as_aux_lemma =>
    simp only [Option.some.injEq, Prod.mk.injEq] at H
    obtain ⟨rfl, rfl, rfl⟩ := H
    go_enter Tryz.func52, Tryz.ntmps52
    go_wp2_with (first | ((with_reducible refine gate_callee (f := 115) rfl ?_); refine HW.gz (some 6) rfl rfl Tryz.func115 (by kernel_rfl) rfl #[.slice A0 l0.length c0] rfl ?_; (with_reducible refine (bsoncore_readLengthBytes.calls (fun k_ => (P0_ k_ ∨ w.heap.size ≤ k_)) _ _ l0 t267 t270 t273 _ ?side1 A2.out).mono ?_); (case side1 => exact HO0.out); rintro e w3 ⟨v268, v271, rfl, ho0, ho1, hb⟩; refine ⟨_, rfl, ?_⟩; have HO269 := Aside0.mk (Kd.V_lower (Kd.V_mono (ok' := fun k_ => (P0_ k_ ∨ w.heap.size ≤ k_)) ho0 (fun k_ hk_ => Or.elim hk_ (fun hs_ => hs_) (fun hn_ => (.inr (Nat.le_trans (below_size HW.zb) hn_))))) (below_size HW.zb)); have HO272 := Aside0.mk (Kd.V_lower (Kd.V_mono (ok' := fun k_ => (P0_ k_ ∨ w.heap.size ≤ k_)) ho1 (fun k_ hk_ => Or.elim hk_ (fun hs_ => hs_) (fun hn_ => (.inr (Nat.le_trans (below_size HW.zb) hn_))))) (below_size HW.zb)); replace HB := Aside0.mk (below_step HW.zb hb); (try clear hb); (try clear ho0); (try clear ho1)))
    go_ret3
    exact ⟨_, _, rfl, HW.zV HO269.out, HW.zV HO272.out, HW.zb⟩
def bsoncore_Value_Array.f (a0_0 : Int) (l0_1 : List Int) : Option (List Int) := if a0_0 = 4 then ((bsoncore_ReadArray.f l0_1).bind fun bt275 => (if bt275.2.2 = true then (some bt275.1) else (none))) else (none)
theorem bsoncore_Value_Array.calls (a0_0 : Int) (P0_1_ : Nat → Prop) (A0_1 : Option Addr) (c0_1 : Nat) (l0_1 : List Int) (r : List Int) (w : World) (hs0_1 : Kd.V (Kd.int .u8) 5 w w.heap.size (fun k_ => P0_1_ k_) (.slice A0_1 l0_1.length c0_1) l0_1) (h : bsoncore_Value_Array.f a0_0 l0_1 = some r) :
    Calls Tryz.prog 79 #[.agg #[.int .u8 a0_0, .slice A0_1 l0_1.length c0_1]] w fun e w' => ∃ v0_ : Value, e = .returned (v0_) ∧ Kd.V (Kd.int .u8) 5 w' w.heap.size (fun k_ => (P0_1_ k_ ∨ w.heap.size ≤ k_)) v0_ r ∧ Below w.heap.size w w' := by
  have hu67 := Tryz.underlying67; have hu191 := Tryz.underlying191; have HO0_1 := Aside0.mk (show Kd.V (Kd.int .u8) 5 w w.heap.size (fun k_ => (P0_1_ k_ ∨ w.heap.size ≤ k_)) (.slice A0_1 l0_1.length c0_1) l0_1 from Kd.V_mono hs0_1 (fun k_ hk => .inl hk)); have HB := Aside0.mk (Below.refl w.heap.size w); have H : (if a0_0 = 4 then ((bsoncore_ReadArray.f l0_1).bind fun bt275 => (if bt275.2.2 = true then (some bt275.1) else (none))) else (none)) = some r := h; clear h
  by_cases c2 : a0_0 = 4
  rotate_left
  · rw [if_neg c2] at H
    exact absurd H (by simp)
  rw [if_pos c2] at H; have c2b0 : (a0_0 == 4) = true := beq_iff_eq.mpr c2; have c2b1 : (a0_0 != 4) = false := bne_eq_false_iff_eq.mpr c2; clear c2; replace H := Option.bind_eq_some_iff.mp H; obtain ⟨⟨t275, t278, t281⟩, A30, H⟩ := H; replace H : (if t281 = true then (some t275) else (none)) = some r := H; have A3 := Aside0.mk A30; clear A30
  by_cases c4 : t281 = true
  rotate_left
  · replace c4 := Bool.eq_false_iff.mpr c4
    subst c4
    have H1 : (none) = some r := by rw [if_neg (show ¬ (false = true) by decide)] at H; exact H
    clear H; have H := H1; clear H1
    exact absurd H (by simp)
  subst c4
  have H1 : (some t275) = some r := by rw [if_pos rfl] at H; exact H
  clear H; have H := H1; clear H1
  as_aux_lemma =>
    obtain rfl := Option.some.inj H
    go_enter Tryz.func79, Tryz.ntmps79
    go_wp2_with (first | ((with_reducible refine gate_dst (N := 1) rfl ?_); refine box_event ?hg (N := 1) ?hd (cs := #[.int .u8 a0_0, .slice A0_1 l0_1.length c0_1]) (t := 67) ?hr ?_; (case hd => rfl); (case hg => rfl); (case hr => first | (go_simp; done) | (go_simp; rfl)); intro gb274 hg w5 hbox hb; replace HO0_1 := Aside0.mk (Kd.V_below (Kd.V_elderB (HW.zV HO0_1.out) gb274 (Nat.le_of_eq hg.symm)) hb); have BK274 := Aside0.mk (hbox); have GE274 := Aside0.mk ((by rw [hg]; exact (below_size HW.zb) : w.heap.size ≤ gb274)); replace HB := Aside0.mk (below_step HW.zb hb); clear hb hbox hg; obtain ⟨hcz6_0, hcz6_1⟩ := HW.k2 BK274.out) | ((with_reducible refine gate_callee (f := 52) rfl ?_); refine HW.gz (some 16) rfl rfl Tryz.func52 (by kernel_rfl) rfl #[.slice A0_1 l0_1.length c0_1] rfl ?_; (with_reducible refine (bsoncore_ReadArray.calls (fun k_ => ((P0_1_ k_ ∨ w.heap.size ≤ k_) ∧ k_ ≠ gb274)) _ _ l0_1 t275 t278 true _ ?side1 A3.out).mono ?_); (case side1 => exact HO0_1.out); rintro e w7 ⟨v276, v279, rfl, ho0, ho1, hb⟩; refine ⟨_, rfl, ?_⟩; have HO277 := Aside0.mk (Kd.V_lower (Kd.V_mono (ok' := fun k_ => (P0_1_ k_ ∨ w.heap.size ≤ k_) ∧ k_ ≠ gb274) ho0 (fun k_ hk_ => ⟨Or.elim hk_ (fun hs_ => hs_.1) (fun hn_ => (.inr (Nat.le_trans (below_size HW.zb) hn_))), Or.elim hk_ (fun hs_ => hs_.2) (fun hn_ => (Kd.freshB (g := gb274) (o := .cells #[.int .u8 a0_0, .slice A0_1 l0_1.length c0_1] 67 (0, 0)) (HW.zB BK274.out) k_ hn_))⟩)) (below_size HW.zb)); replace HB := Aside0.mk (below_step HW.zb hb); (try clear hb); (try clear ho0); (try clear ho1)))
    go_ret
    exact ⟨_, rfl, by (with_reducible repeat (first | apply Kd.V_alloc | apply Kd.V_drewN | apply Kd.V_drew)); exact Kd.V_mono HO277.out (fun _ hk => hk.1), HW.zb⟩
def bsoncore_Element_KeyErr.f (l0 : List Int) : Option (ByteArray × Option (Int × ByteArray)) := (bsoncore_Element_KeyBytesErr.f l0).bind fun bt288 => (some (strOfNums bt288.1, bt288.2))
theorem bsoncore_Element_KeyErr.calls (ρ : Nat → Addr) (A0 : Option Addr) (c0 : Nat) (l0 : List Int) (r1 : ByteArray) (r2 : Option (Int × ByteArray)) (w : World) (hr0 : Kd.C (Kd.int .u8) w A0 l0.length l0) (hc0 : l0.length ≤ c0) (h : bsoncore_Element_KeyErr.f l0 = some (r1, r2)) :
    Calls Tryz.prog 126 #[.slice A0 l0.length c0] w fun e w' => ∃ v1_ : Value, e = .returned (.tuple #[.string r1, v1_]) ∧ Er.ErrR ρ v1_ r2 ∧ Below w.heap.size w w' := by
  have HR0 := Aside0.mk hr0; have HC0 := Aside0.mk hc0; clear hr0 hc0; have HB := Aside0.mk (Below.refl w.heap.size w); have H : ((bsoncore_Element_KeyBytesErr.f l0).bind fun bt288 => (some (strOfNums bt288.1, bt288.2))) = some (r1, r2) := h; clear h; replace H := Option.bind_eq_some_iff.mp H; obtain ⟨⟨t288, t291⟩, A20, H⟩ := H; replace H : (some (strOfNums t288, t291)) = some (r1, r2) := H; have A2 := Aside0.mk A20; clear A20
  as_aux_lemma =>
    simp only [Option.some.injEq, Prod.mk.injEq] at H
    obtain ⟨rfl, rfl⟩ := H
    go_enter Tryz.func126, Tryz.ntmps126
    go_wp2_with (first | ((with_reducible refine gate_callee (f := 125) rfl ?_); refine HW.gz (some 8) rfl rfl Tryz.func125 (by kernel_rfl) rfl #[.slice A0 l0.length c0] rfl ?_; (with_reducible refine (bsoncore_Element_KeyBytesErr.calls ρ (fun k_ => k_ < w.heap.size) _ _ l0 t288 t291 _ ?side1 A2.out).mono ?_); (case side1 => exact Kd.V_mk HC0.out (Kd.F_below (Kd.C_F (Kd.heap_int .u8) HR0.out) HW.zb)); rintro e w3 ⟨v289, ve_t291, rfl, hE_t291, ho0, hb⟩; refine ⟨_, rfl, ?_⟩; have HO290 := Aside0.mk (Kd.V_lower (Kd.V_mono (ok' := fun k_ => True) ho0 (fun k_ hk_ => trivial)) (below_size HW.zb)); replace HB := Aside0.mk (below_step HW.zb hb); (try clear hb); (try clear ho0); (first | (obtain rfl := Er.ErrR.nil_ hE_t291) | (refine (Er.ErrR.some_ hE_t291 (Aside0.out ?hsE)).elim ?_; (case hsE => with_reducible assumption); rintro T_hE_t291 ⟨X_hE_t291, rfl⟩) | skip); replace hE_t291 := Aside0.mk hE_t291; have hcv4 := HW.V_string (P := Tryz.prog) Tryz.underlying22 Tryz.underlying5 Tryz.underlying9 (HO290.out)))
    go_ret2
    exact ⟨_, rfl, (by first | exact Er.ErrR.nil | (refine Aside0.out ?_; first | with_reducible assumption | assumption) | exact Er.ErrR.val _ | exact Er.ErrR.mal _ | exact Er.ErrR.dep _ _ | (refine Er.ErrR.few _ _ ?_ ?_ <;> first | exact ⟨_, _, _, rfl⟩ | (refine Er.isl_V (Aside0.out ?_); with_reducible assumption)) | (refine Er.ErrR.sent _ _ ?_ ?_ <;> decide)), HW.zb⟩
def bsoncore_Element_Key.f (l0 : List Int) : Option (ByteArray) := (bsoncore_Element_KeyErr.f l0).bind fun bt292 => (some bt292.1)
theorem bsoncore_Element_Key.calls (A0 : Option Addr) (c0 : Nat) (l0 : List Int) (r : ByteArray) (w : World) (hr0 : Kd.C (Kd.int .u8) w A0 l0.length l0) (hc0 : l0.length ≤ c0) (h : bsoncore_Element_Key.f l0 = some r) :
    Calls Tryz.prog 80 #[.slice A0 l0.length c0] w fun e w' => e = .returned (.string r) ∧ Below w.heap.size w w' := by
  have HR0 := Aside0.mk hr0; have HC0 := Aside0.mk hc0; clear hr0 hc0; have HB := Aside0.mk (Below.refl w.heap.size w); have H : ((bsoncore_Element_KeyErr.f l0).bind fun bt292 => (some bt292.1)) = some r := h; clear h; replace H := Option.bind_eq_some_iff.mp H; obtain ⟨⟨t292, t293⟩, A20, H⟩ := H; replace H : (some t292) = some r := H; have A2 := Aside0.mk A20; clear A20
  as_aux_lemma =>
    obtain rfl := Option.some.inj H
    go_enter Tryz.func80, Tryz.ntmps80
    go_wp2_with (first | ((with_reducible refine gate_callee (f := 126) rfl ?_); refine HW.gz (some 7) rfl rfl Tryz.func126 (by kernel_rfl) rfl #[.slice A0 l0.length c0] rfl ?_; (with_reducible refine (bsoncore_Element_KeyErr.calls Er.rho0 _ _ l0 t292 t293 _ ?side1 ?side2 A2.out).mono ?_); (case side1 => repeat (first | exact HR0.out | (with_reducible refine Kd.C_alloc ?_ _) | (with_reducible refine Kd.C_drewN ?_ _) | (with_reducible refine Kd.C_drew ?_))); (case side2 => exact HC0.out); rintro e w3 ⟨ve_t293, rfl, hE_t293, hb⟩; refine ⟨_, rfl, ?_⟩; replace HB := Aside0.mk (below_step HW.zb hb); (try clear hb); (first | (obtain rfl := Er.ErrR.nil_ hE_t293) | (refine (Er.ErrR.some_ hE_t293 (Aside0.out ?hsE)).elim ?_; (case hsE => with_reducible assumption); rintro T_hE_t293 ⟨X_hE_t293, rfl⟩) | skip); replace hE_t293 := Aside0.mk hE_t293))
    go_ret
    exact ⟨rfl, HW.zb⟩
end Go.Proofs.YtbfhpjkahobgnaaGreatDoor.PLo
