import Derived.LaidEql
import Derived.Stop.Asserts
import Derived.Test.YtbfhpjkahobgnaaGreatDoorPIxx0
import Derived.Test.YtbfhpjkahobgnaaGreatDoorPIxx4
import Derived.Test.YtbfhpjkahobgnaaGreatDoorPIxx5
namespace Go.Proofs.YtbfhpjkahobgnaaGreatDoor.PIx
open Go.Proofs.YtbfhpjkahobgnaaGreatDoor.HW (tt ff)
open Go.RowKit Go.Proofs.YtbfhpjkahobgnaaGreatDoorW.PrintWords Go.Proofs.YtbfhpjkahobgnaaGreatDoorW.PrintLast Go.Proofs.YtbfhpjkahobgnaaGreatDoorW.PrintMore
attribute [local go_sem] max2_int min2_int max_two min_two max_three min_three max_four min_four
set_option linter.unusedVariables false
set_option maxHeartbeats 8000000
set_option maxRecDepth 100000
set_option linter.unusedSimpArgs false
mutual
def bsoncore_ReadElement.l0 : Nat → List Int → Int → Int → Option (List Int × List Int × Bool)
  | 0, _, _, _ => none
  | k + 1, x0, x5, x6 => if x6 < (x0.length : Int) then (if 0 ≤ x6 then (bsoncore_ReadElement.j1 k x0 x5 x6 ((rd x0 x6) != 0)) else (none)) else (bsoncore_ReadElement.j1 k x0 x5 x6 false)
def bsoncore_ReadElement.j1 : Nat → List Int → Int → Int → Bool → Option (List Int × List Int × Bool)
  | 0, _, _, _, _ => none
  | k + 1, x0, x5, x6, x27 => if x27 = true then (bsoncore_ReadElement.l0 k x0 x5 (wrap64 (x6 + 1))) else (if x6 ≥ (x0.length : Int) then (some (([] : List Int), x0, false)) else (if 0 ≤ (wrap64 (x6 + 1)) then (if (wrap64 (x6 + 1)) ≤ (x0.length : Int) then ((bsoncore_valueLength.f k (x0.drop ((wrap64 (x6 + 1)) : Int).toNat) x5).bind fun bt233 => (if bt233.2 = true then (if (wrap64 ((wrap64 (x6 + 1)) + (wrap64 (bt233.1)))) > (x0.length : Int) then (some (([] : List Int), x0, false)) else (if 0 ≤ (wrap64 ((wrap64 (x6 + 1)) + (wrap64 (bt233.1)))) then (if (wrap64 ((wrap64 (x6 + 1)) + (wrap64 (bt233.1)))) ≤ (x0.length : Int) then (some ((x0.take ((wrap64 ((wrap64 (x6 + 1)) + (wrap64 (bt233.1)))) : Int).toNat), (x0.drop ((wrap64 ((wrap64 (x6 + 1)) + (wrap64 (bt233.1)))) : Int).toNat), true)) else (none)) else (none))) else (some (([] : List Int), x0, false)))) else (none)) else (none)))
end
def bsoncore_ReadElement.f (k : Nat) (l0 : List Int) : Option (List Int × List Int × Bool) := if (l0.length : Int) < 1 then (some (([] : List Int), l0, false)) else (if 0 < (l0.length : Int) then (bsoncore_ReadElement.l0 k l0 (rd l0 0) 1) else (none))
theorem bsoncore_ReadElement.mono_l : ∀ k, (∀ y0 y1 y2, LeO (bsoncore_ReadElement.l0 k y0 y1 y2) (bsoncore_ReadElement.l0 (k + 1) y0 y1 y2)) ∧ (∀ y0 y1 y2 y3, LeO (bsoncore_ReadElement.j1 k y0 y1 y2 y3) (bsoncore_ReadElement.j1 (k + 1) y0 y1 y2 y3))
  | 0 => ⟨fun _ _ _ r h => by simp [bsoncore_ReadElement.l0] at h, fun _ _ _ _ r h => by simp [bsoncore_ReadElement.j1] at h⟩
  | k + 1 => by
    obtain ⟨ih0, ih1⟩ := bsoncore_ReadElement.mono_l k
    refine ⟨?_, ?_⟩
    · intro y0 y1 y2
      unfold bsoncore_ReadElement.l0
      have m0_ := @ih0; have m1_ := @ih1; have m2_ := @bsoncore_valueLength.mono; exact HW.mo
    · intro y0 y1 y2 y3
      unfold bsoncore_ReadElement.j1
      have m0_ := @ih0; have m1_ := @ih1; have m2_ := @bsoncore_valueLength.mono; exact HW.mo
theorem bsoncore_ReadElement.mono : ∀ a0 k, LeO (bsoncore_ReadElement.f k a0) (bsoncore_ReadElement.f (k + 1) a0) := by
  intro a0 k
  obtain ⟨ih0, ih1⟩ := bsoncore_ReadElement.mono_l k
  unfold bsoncore_ReadElement.f
  have m0_ := @ih0; have m1_ := @ih1; have m2_ := @bsoncore_valueLength.mono; exact HW.mo
theorem bsoncore_ReadElement.calls (k : Nat) (P0_ : Nat → Prop) (A0 : Option Addr) (c0 : Nat) (l0 : List Int) (r1 : List Int) (r2 : List Int) (r3 : Bool) (w : World) (hs0 : Kd.V (Kd.int .u8) 5 w w.heap.size (fun k_ => P0_ k_) (.slice A0 l0.length c0) l0) (h : bsoncore_ReadElement.f k l0 = some (r1, r2, r3)) :
    Calls Tryz.prog 76 #[.slice A0 l0.length c0] w fun e w' => ∃ v0_ v1_ : Value, e = .returned (.tuple #[v0_, v1_, .bool r3]) ∧ Kd.V (Kd.int .u8) 5 w' w.heap.size (fun k_ => (P0_ k_ ∨ w.heap.size ≤ k_)) v0_ r1 ∧ Kd.V (Kd.int .u8) 5 w' w.heap.size (fun k_ => (P0_ k_ ∨ w.heap.size ≤ k_)) v1_ r2 ∧ Below w.heap.size w w' := by
  have HO0 := Aside0.mk (show Kd.V (Kd.int .u8) 5 w w.heap.size (fun k_ => (P0_ k_ ∨ w.heap.size ≤ k_)) (.slice A0 l0.length c0) l0 from Kd.V_mono hs0 (fun k_ hk => .inl hk)); have HB := Aside0.mk (Below.refl w.heap.size w); have H : (if (l0.length : Int) < 1 then (some (([] : List Int), l0, false)) else (if 0 < (l0.length : Int) then (bsoncore_ReadElement.l0 k l0 (rd l0 0) 1) else (none))) = some (r1, r2, r3) := h; clear h
  by_cases c2 : (l0.length : Int) < 1
  · rw [if_pos c2] at H
    have c2b0 : decide ((l0.length : Int) < 1) = true := decide_eq_true c2
    have c2b1 : decide (l0.length < 1) = true := decide_eq_true (by omega)
    clear c2
    as_aux_lemma =>
      simp only [Option.some.injEq, Prod.mk.injEq] at H
      obtain ⟨rfl, rfl, rfl⟩ := H
      go_enter Tryz.func76, Tryz.ntmps76
      go_wp2
      repeat (go_quiet (fail); try go_wp2)
      go_ret3
      exact ⟨_, _, rfl, Kd.V_nil _ _ _ _ _, HW.zV HO0.out, HW.zb⟩
  rw [if_neg c2] at H; have c2b0 : decide ((l0.length : Int) < 1) = false := decide_eq_false c2
  have c2b1 : decide (l0.length < 1) = false := decide_eq_false (by omega)
  clear c2
  by_cases c3 : 0 < (l0.length : Int)
  rotate_left
  · rw [if_neg c3] at H
    exact absurd H (by simp)
  rw [if_pos c3] at H; have c3b0 : decide (0 < (l0.length : Int)) = true := decide_eq_true c3
  have c3b1 : decide (0 < l0.length) = true := decide_eq_true (by omega)
  clear c3; have H' := Aside0.mk H; clear H
  have p226 : 0 ≤ (0 : Int) := (by omega)
  have q226 : 0 < (l0.length : Int) := HW.od
  obtain ⟨ad226, e226, hx226_0⟩ := Kd.at_int (Kd.V_reads' HO0.out).2.2 0 p226 q226
  cases e226
  have qi226 : (0 < l0.length) = True := eq_true (by omega)
  (try rw [show ((0 : Int)).toNat = 0 from rfl] at hx226_0)
  (try rw [Addr.add_zero'] at hx226_0)
  replace p226 := eq_true p226; replace q226 := eq_true q226
  go_enter Tryz.func76, Tryz.ntmps76
  go_wp2
  repeat (go_quiet (fail); try go_wp2)
  go_loopg [6] k (fun kq v6 w' => ∃ (x6_1 : Int), v6 = .int .i64 x6_1 ∧ Aside0 (bsoncore_ReadElement.l0 kq l0 (rd l0 0) x6_1 = some (r1, r2, r3)) ∧ Aside0 (kq ≤ k) ∧ Aside0 (Kd.V (Kd.int .u8) 5 w' w.heap.size (fun k_ => (P0_ k_ ∨ w.heap.size ≤ k_)) (.slice (some ad226) l0.length c0) l0) ∧ Aside0 (Below w.heap.size w w'))
  case atStart => exact ⟨(1), HW.rs, H', ⟨Nat.le_refl _⟩, ⟨HW.zV HO0.out⟩, ⟨HW.zb⟩⟩
  case round =>
    clear H'
    (try clear c2); (try clear c2b0); (try clear c2b1); (try clear p2); (try clear q2); (try clear hx2); (try clear qi2); (try clear c3); (try clear c3b0); (try clear c3b1); (try clear hx226_0); (try clear p226); (try clear q226)
    obtain ⟨x6_1, rfl, HA, HK1, HO_0, HB⟩ := hrel
    cases gk with
    | zero => exact absurd HA.out (by simp [bsoncore_ReadElement.l0])
    | succ k1 =>
      have H := HA.out; clear HA
      simp only [bsoncore_ReadElement.l0] at H
      have HC4 := Aside0.mk H; clear H
      go_upto_region 5 with (fail)
      repeat (go_quiet (fail); go_upto_region 5 with (fail))
      go_cut [27] (fun v27 wc => ∃ (kq : Nat) (x27_3 : Bool), v27 = .bool x27_3 ∧ Aside0 (bsoncore_ReadElement.j1 kq l0 (rd l0 0) x6_1 x27_3 = some (r1, r2, r3)) ∧ Aside0 (kq ≤ k1) ∧ Aside0 (Kd.V (Kd.int .u8) 5 wc w.heap.size (fun k_ => (P0_ k_ ∨ w.heap.size ≤ k_)) (.slice (some ad226) l0.length c0) l0) ∧ Aside0 (Below w.heap.size w wc))
      case first =>
        have H := HC4.out; clear HC4
        by_cases c5 : x6_1 < (l0.length : Int)
        rotate_left
        · rw [if_neg c5] at H
          have c5b0 : decide (x6_1 < (l0.length : Int)) = false := decide_eq_false c5; clear c5
          (first | rw [c5b0] | (simp only [i64_w, i32_w]; rw [c5b0]) | skip)
          as_aux_lemma =>
            have H' := Aside0.mk H; clear H
            go_wp2
            repeat (go_quiet (fail); try go_wp2)
            go_meet
            case rel => exact ⟨_, (false), HW.rs, H', ⟨by have := HK1.out; first | omega | exact Nat.le_refl _⟩, ⟨HW.zV HO_0.out⟩, ⟨HW.zb⟩⟩
        rw [if_pos c5] at H; have c5b0 : decide (x6_1 < (l0.length : Int)) = true := decide_eq_true c5; clear c5
        (first | rw [c5b0] | (simp only [i64_w, i32_w]; rw [c5b0]) | skip)
        by_cases c6 : 0 ≤ x6_1
        rotate_left
        · rw [if_neg c6] at H
          exact absurd H (by simp)
        rw [if_pos c6] at H; have c6b0 : decide (0 ≤ x6_1) = true := decide_eq_true c6; clear c6
        as_aux_lemma =>
          have H' := Aside0.mk H; clear H
          have p227 : 0 ≤ (x6_1 : Int) := HW.od
          have q227 : x6_1 < (l0.length : Int) := HW.od
          obtain ⟨ad227, e227, hx227_0⟩ := Kd.at_int (Kd.V_reads' HO_0.out).2.2 x6_1 p227 q227
          obtain rfl : ad226 = ad227 := (by injection e227)
          replace p227 := eq_true p227; replace q227 := eq_true q227
          go_wp2
          repeat (go_quiet (fail); try go_wp2)
          go_meet
          case rel => exact ⟨_, (((rd l0 x6_1) != 0)), HW.rs, H', ⟨by have := HK1.out; first | omega | exact Nat.le_refl _⟩, ⟨HW.zV HO_0.out⟩, ⟨HW.zb⟩⟩
      case rest =>
        clear HC4
        (try clear c2); (try clear c2b0); (try clear c2b1); (try clear p2); (try clear q2); (try clear hx2); (try clear qi2); (try clear c3); (try clear c3b0); (try clear c3b1); (try clear c5); (try clear c5b0); (try clear c6); (try clear c6b0); (try clear hx226_0); (try clear hx227_0); (try clear p2); (try clear p226); (try clear p227); (try clear q2); (try clear q226); (try clear q227)
        obtain ⟨kq, x27_3, rfl, HA, HJ3, HO_0, HB⟩ := hcut
        cases kq with
        | zero => exact absurd HA.out (by simp [bsoncore_ReadElement.j1])
        | succ kj3 =>
          have H := HA.out; clear HA
          simp only [bsoncore_ReadElement.j1] at H
          by_cases c7 : x27_3 = true
          · subst c7
            have H1 : (bsoncore_ReadElement.l0 kj3 l0 (rd l0 0) (wrap64 (x6_1 + 1))) = some (r1, r2, r3) := by rw [if_pos rfl] at H; exact H
            clear H; have H := H1; clear H1
            as_aux_lemma =>
              have H' := Aside0.mk H; clear H
              go_wp2
              repeat (go_quiet (fail); try go_wp2)
              go_roundg kj3
              case measure => have := HK1.out; have := HJ3.out; omega
              case rel => exact ⟨(wrap64 (x6_1 + 1)), HW.rs, H', ⟨by have := HK1.out; have := HJ3.out; omega⟩, ⟨HW.zV HO_0.out⟩, ⟨HW.zb⟩⟩
          replace c7 := Bool.eq_false_iff.mpr c7; subst c7
          have H1 : (if x6_1 ≥ (l0.length : Int) then (some (([] : List Int), l0, false)) else (if 0 ≤ (wrap64 (x6_1 + 1)) then (if (wrap64 (x6_1 + 1)) ≤ (l0.length : Int) then ((bsoncore_valueLength.f kj3 (l0.drop ((wrap64 (x6_1 + 1)) : Int).toNat) (rd l0 0)).bind fun bt233 => (if bt233.2 = true then (if (wrap64 ((wrap64 (x6_1 + 1)) + (wrap64 (bt233.1)))) > (l0.length : Int) then (some (([] : List Int), l0, false)) else (if 0 ≤ (wrap64 ((wrap64 (x6_1 + 1)) + (wrap64 (bt233.1)))) then (if (wrap64 ((wrap64 (x6_1 + 1)) + (wrap64 (bt233.1)))) ≤ (l0.length : Int) then (some ((l0.take ((wrap64 ((wrap64 (x6_1 + 1)) + (wrap64 (bt233.1)))) : Int).toNat), (l0.drop ((wrap64 ((wrap64 (x6_1 + 1)) + (wrap64 (bt233.1)))) : Int).toNat), true)) else (none)) else (none))) else (some (([] : List Int), l0, false)))) else (none)) else (none))) = some (r1, r2, r3) := by rw [if_neg (show ¬ (false = true) by decide)] at H; exact H
          clear H; have H := H1; clear H1
          by_cases c8 : x6_1 ≥ (l0.length : Int)
          · rw [if_pos c8] at H
            have c8b0 : decide ((l0.length : Int) ≤ x6_1) = true := decide_eq_true c8; clear c8
            as_aux_lemma =>
              simp only [Option.some.injEq, Prod.mk.injEq] at H
              obtain ⟨rfl, rfl, rfl⟩ := H
              go_wp2
              repeat (go_quiet (fail); try go_wp2)
              go_ret3
              exact ⟨_, _, rfl, Kd.V_nil _ _ _ _ _, HW.zV HO_0.out, HW.zb⟩
          rw [if_neg c8] at H; have c8b0 : decide ((l0.length : Int) ≤ x6_1) = false := decide_eq_false c8; clear c8; obtain ⟨ji9, hji9⟩ : ∃ j_ : Int, (wrap64 (x6_1 + 1)) = j_ := ⟨_, rfl⟩
          replace H : (if 0 ≤ (ji9) then (if (ji9) ≤ (l0.length : Int) then ((bsoncore_valueLength.f kj3 (l0.drop ((ji9) : Int).toNat) (rd l0 0)).bind fun bt233 => (if bt233.2 = true then (if (wrap64 ((ji9) + (wrap64 (bt233.1)))) > (l0.length : Int) then (some (([] : List Int), l0, false)) else (if 0 ≤ (wrap64 ((ji9) + (wrap64 (bt233.1)))) then (if (wrap64 ((ji9) + (wrap64 (bt233.1)))) ≤ (l0.length : Int) then (some ((l0.take ((wrap64 ((ji9) + (wrap64 (bt233.1)))) : Int).toNat), (l0.drop ((wrap64 ((ji9) + (wrap64 (bt233.1)))) : Int).toNat), true)) else (none)) else (none))) else (some (([] : List Int), l0, false)))) else (none)) else (none)) = some (r1, r2, r3) := by first | (rw [hji9] at H; exact H) | (simp only [hji9] at H ⊢; exact H)
          have hji9w : (IntKind.i64.wrap (x6_1 + 1)) = ji9 := (i64_w _).trans hji9
          by_cases c10 : 0 ≤ (ji9)
          rotate_left
          · rw [if_neg c10] at H
            exact absurd H (by simp)
          rw [if_pos c10] at H; have c10b0 := eq_true c10; have c10b1 : decide (0 ≤ (ji9)) = true := decide_eq_true c10; clear c10
          by_cases c11 : (ji9) ≤ (l0.length : Int)
          rotate_left
          · rw [if_neg c11] at H
            exact absurd H (by simp)
          rw [if_pos c11] at H; have c11b0 := eq_true c11; have c11b1 : decide ((ji9) ≤ (l0.length : Int)) = true := decide_eq_true c11; clear c11; obtain ⟨y228, hy228⟩ : ∃ y_ : List Int, y_ = (l0.drop ((ji9) : Int).toNat) := ⟨_, rfl⟩
          replace H : ((bsoncore_valueLength.f kj3 y228 (rd l0 0)).bind fun bt233 => (if bt233.2 = true then (if (wrap64 ((ji9) + (wrap64 (bt233.1)))) > (l0.length : Int) then (some (([] : List Int), l0, false)) else (if 0 ≤ (wrap64 ((ji9) + (wrap64 (bt233.1)))) then (if (wrap64 ((ji9) + (wrap64 (bt233.1)))) ≤ (l0.length : Int) then (some ((l0.take ((wrap64 ((ji9) + (wrap64 (bt233.1)))) : Int).toNat), (l0.drop ((wrap64 ((ji9) + (wrap64 (bt233.1)))) : Int).toNat), true)) else (none)) else (none))) else (some (([] : List Int), l0, false)))) = some (r1, r2, r3) := by (try rw [hy228]); exact HW.rp
          have Ny228 := Aside0.mk hy228; clear hy228; replace H := Option.bind_eq_some_iff.mp H; obtain ⟨⟨t233, t234⟩, A120, H⟩ := H; replace H : (if t234 = true then (if (wrap64 ((ji9) + (wrap64 (t233)))) > (l0.length : Int) then (some (([] : List Int), l0, false)) else (if 0 ≤ (wrap64 ((ji9) + (wrap64 (t233)))) then (if (wrap64 ((ji9) + (wrap64 (t233)))) ≤ (l0.length : Int) then (some ((l0.take ((wrap64 ((ji9) + (wrap64 (t233)))) : Int).toNat), (l0.drop ((wrap64 ((ji9) + (wrap64 (t233)))) : Int).toNat), true)) else (none)) else (none))) else (some (([] : List Int), l0, false))) = some (r1, r2, r3) := H; have A12 := Aside0.mk A120; clear A120
          by_cases c13 : t234 = true
          rotate_left
          · replace c13 := Bool.eq_false_iff.mpr c13
            subst c13
            have H1 : (some (([] : List Int), l0, false)) = some (r1, r2, r3) := by rw [if_neg (show ¬ (false = true) by decide)] at H; exact H
            clear H; have H := H1; clear H1
            as_aux_lemma =>
              simp only [Option.some.injEq, Prod.mk.injEq] at H
              obtain ⟨rfl, rfl, rfl⟩ := H
              have q26 : ((ji9) : Int) ≤ ((l0.length : Int) : Int) := HW.od
              obtain ⟨i026, hi026, _, hsz26, _⟩ := info_parts info5; have hroom26 : l0.length ≤ c0 := (Kd.V_reads' HO_0.out).2.1; have hC26 : Kd.F (Kd.int .u8) _ _ (some ad226) l0.length l0 := (Kd.V_at (base := w.heap.size) HO_0.out).2.2
              have q026 : (0 : Int) ≤ ((ji9) : Int) := HW.od
              have hcut26 := cut_from (P := Tryz.prog) 22 5 .i64 Tryz.underlying22 hi026 1 hsz26 (some ad226) l0.length c0 (ji9) q026 q26
              have hr26 := Kd.F_cut (m := ((ji9) : Int).toNat) (c := c0) hC26 (by omega) hroom26
              obtain ⟨A26, hA26⟩ : ∃ A1, A1 = (if c0 = ((ji9) : Int).toNat then (some ad226) else ((some ad226) : Option Addr).map (·.add (((ji9) : Int).toNat * 1))) := ⟨_, rfl⟩; obtain ⟨c26, hc26⟩ : ∃ c1, c1 = c0 - ((ji9) : Int).toNat := ⟨_, rfl⟩
              have hy26 : y228.length = l0.length - ((ji9) : Int).toNat := (by rw [Ny228.out, List.length_drop] <;> omega)
              rw [show (l0).drop ((ji9) : Int).toNat = y228 from Ny228.out.symm] at hr26
              replace hr26 : Kd.F (Kd.int .u8) _ _ A26 y228.length y228 := (by rw [hA26]; exact hr26)
              rw [← hy26, ← hA26, ← hc26] at hcut26
              have HO232 := Aside0.mk (show Kd.V (Kd.int .u8) 5 _ w.heap.size _ (.slice A26 y228.length c26) y228 from Kd.V_mk (by rw [hy26, hc26]; exact Nat.sub_le_sub_right hroom26 _) hr26)
              have HC232 := Aside0.mk (show y228.length ≤ c26 from by rw [hy26, hc26]; exact Nat.sub_le_sub_right hroom26 _)
              clear hr26 hC26 hroom26 hi026 hsz26 hc26; have KY26 := Aside0.mk hy26; have KA26 := Aside0.mk hA26; clear hy26 hA26; replace q26 := eq_true q26
              go_wp2_with (first | (go_at_call 124; (with_reducible refine (bsoncore_valueLength.calls kj3 _ _ y228 (rd l0 0) t233 false _ ?side1 ?side2 A12.out).mono ?_); (case side1 => repeat (first | exact (Kd.V_reads' HO232.out).2.2 | (with_reducible refine Kd.C_alloc ?_ _) | (with_reducible refine Kd.C_drewN ?_ _) | (with_reducible refine Kd.C_drew ?_))); (case side2 => exact (Kd.V_reads' HO232.out).2.1); rintro e w27 ⟨rfl, hb⟩; replace HO_0 := Aside0.mk (Kd.V_below (HW.zV HO_0.out) hb); replace HO232 := Aside0.mk (Kd.V_below (HW.zV HO232.out) hb); replace HB := Aside0.mk (below_step HW.zb hb); (try clear hb)))
              repeat (go_quiet (fail); try go_wp2)
              go_ret3
              exact ⟨_, _, by first | rfl | (simp [errW_none, errW_some] <;> rfl) | (simp only [← hji9]; first | rfl | (simp [errW_none, errW_some] <;> rfl)) | (simp [*, errW_none, errW_some] <;> rfl), Kd.V_nil _ _ _ _ _, HW.zV HO_0.out, HW.zb⟩
          subst c13
          have H1 : (if (wrap64 ((ji9) + (wrap64 (t233)))) > (l0.length : Int) then (some (([] : List Int), l0, false)) else (if 0 ≤ (wrap64 ((ji9) + (wrap64 (t233)))) then (if (wrap64 ((ji9) + (wrap64 (t233)))) ≤ (l0.length : Int) then (some ((l0.take ((wrap64 ((ji9) + (wrap64 (t233)))) : Int).toNat), (l0.drop ((wrap64 ((ji9) + (wrap64 (t233)))) : Int).toNat), true)) else (none)) else (none))) = some (r1, r2, r3) := by rw [if_pos rfl] at H; exact H
          clear H; have H := H1; clear H1
          by_cases c14 : (wrap64 ((ji9) + (wrap64 (t233)))) > (l0.length : Int)
          · rw [if_pos c14] at H
            have c14b0 : decide ((l0.length : Int) < (wrap64 ((ji9) + (wrap64 (t233))))) = true := decide_eq_true c14; clear c14
            as_aux_lemma =>
              simp only [Option.some.injEq, Prod.mk.injEq] at H
              obtain ⟨rfl, rfl, rfl⟩ := H
              have q15 : ((ji9) : Int) ≤ ((l0.length : Int) : Int) := HW.od
              obtain ⟨i015, hi015, _, hsz15, _⟩ := info_parts info5; have hroom15 : l0.length ≤ c0 := (Kd.V_reads' HO_0.out).2.1; have hC15 : Kd.F (Kd.int .u8) _ _ (some ad226) l0.length l0 := (Kd.V_at (base := w.heap.size) HO_0.out).2.2
              have q015 : (0 : Int) ≤ ((ji9) : Int) := HW.od
              have hcut15 := cut_from (P := Tryz.prog) 22 5 .i64 Tryz.underlying22 hi015 1 hsz15 (some ad226) l0.length c0 (ji9) q015 q15
              have hr15 := Kd.F_cut (m := ((ji9) : Int).toNat) (c := c0) hC15 (by omega) hroom15
              obtain ⟨A15, hA15⟩ : ∃ A1, A1 = (if c0 = ((ji9) : Int).toNat then (some ad226) else ((some ad226) : Option Addr).map (·.add (((ji9) : Int).toNat * 1))) := ⟨_, rfl⟩; obtain ⟨c15, hc15⟩ : ∃ c1, c1 = c0 - ((ji9) : Int).toNat := ⟨_, rfl⟩
              have hy15 : y228.length = l0.length - ((ji9) : Int).toNat := (by rw [Ny228.out, List.length_drop] <;> omega)
              rw [show (l0).drop ((ji9) : Int).toNat = y228 from Ny228.out.symm] at hr15
              replace hr15 : Kd.F (Kd.int .u8) _ _ A15 y228.length y228 := (by rw [hA15]; exact hr15)
              rw [← hy15, ← hA15, ← hc15] at hcut15
              have HO232 := Aside0.mk (show Kd.V (Kd.int .u8) 5 _ w.heap.size _ (.slice A15 y228.length c15) y228 from Kd.V_mk (by rw [hy15, hc15]; exact Nat.sub_le_sub_right hroom15 _) hr15)
              have HC232 := Aside0.mk (show y228.length ≤ c15 from by rw [hy15, hc15]; exact Nat.sub_le_sub_right hroom15 _)
              clear hr15 hC15 hroom15 hi015 hsz15 hc15; have KY15 := Aside0.mk hy15; have KA15 := Aside0.mk hA15; clear hy15 hA15; replace q15 := eq_true q15
              go_wp2_with (first | (go_at_call 124; (with_reducible refine (bsoncore_valueLength.calls kj3 _ _ y228 (rd l0 0) t233 true _ ?side1 ?side2 A12.out).mono ?_); (case side1 => repeat (first | exact (Kd.V_reads' HO232.out).2.2 | (with_reducible refine Kd.C_alloc ?_ _) | (with_reducible refine Kd.C_drewN ?_ _) | (with_reducible refine Kd.C_drew ?_))); (case side2 => exact (Kd.V_reads' HO232.out).2.1); rintro e w16 ⟨rfl, hb⟩; replace HO_0 := Aside0.mk (Kd.V_below (HW.zV HO_0.out) hb); replace HO232 := Aside0.mk (Kd.V_below (HW.zV HO232.out) hb); replace HB := Aside0.mk (below_step HW.zb hb); (try clear hb)))
              repeat (go_quiet (fail); try go_wp2)
              go_ret3
              exact ⟨_, _, by first | rfl | (simp [errW_none, errW_some] <;> rfl) | (simp only [← hji9]; first | rfl | (simp [errW_none, errW_some] <;> rfl)) | (simp [*, errW_none, errW_some] <;> rfl), Kd.V_nil _ _ _ _ _, HW.zV HO_0.out, HW.zb⟩
          rw [if_neg c14] at H; have c14b0 : decide ((l0.length : Int) < (wrap64 ((ji9) + (wrap64 (t233))))) = false := decide_eq_false c14; clear c14; obtain ⟨ji17, hji17⟩ : ∃ j_ : Int, (wrap64 ((ji9) + (wrap64 (t233)))) = j_ := ⟨_, rfl⟩
          replace H : (if 0 ≤ (ji17) then (if (ji17) ≤ (l0.length : Int) then (some ((l0.take ((ji17) : Int).toNat), (l0.drop ((ji17) : Int).toNat), true)) else (none)) else (none)) = some (r1, r2, r3) := by first | (rw [hji17] at H; exact H) | (simp only [hji17] at H ⊢; exact H)
          (try rw [hji17] at c14b0)
          (try rw [hji17] at A12)
          have hji17w : (IntKind.i64.wrap ((ji9) + (wrap64 (t233)))) = ji17 := (i64_w _).trans hji17
          by_cases c18 : 0 ≤ (ji17)
          rotate_left
          · rw [if_neg c18] at H
            exact absurd H (by simp)
          rw [if_pos c18] at H; have c18b0 := eq_true c18; have c18b1 : decide (0 ≤ (ji17)) = true := decide_eq_true c18; clear c18
          by_cases c19 : (ji17) ≤ (l0.length : Int)
          rotate_left
          · rw [if_neg c19] at H
            exact absurd H (by simp)
          rw [if_pos c19] at H; have c19b0 := eq_true c19; have c19b1 : decide ((ji17) ≤ (l0.length : Int)) = true := decide_eq_true c19; clear c19; obtain ⟨y235, hy235⟩ : ∃ y_ : List Int, y_ = (l0.take ((ji17) : Int).toNat) := ⟨_, rfl⟩
          replace H : (some (y235, (l0.drop ((ji17) : Int).toNat), true)) = some (r1, r2, r3) := by (try rw [hy235]); exact HW.rp
          have Ny235 := Aside0.mk hy235; clear hy235
          have c20b0 := eq_true (HW.od : 0 ≤ (ji17))
          have c21b0 := eq_true (HW.od : (ji17) ≤ (l0.length : Int))
          obtain ⟨y240, hy240⟩ : ∃ y_ : List Int, y_ = (l0.drop ((ji17) : Int).toNat) := ⟨_, rfl⟩
          replace H : (some (y235, y240, true)) = some (r1, r2, r3) := by (try rw [hy240]); exact HW.rp
          have Ny240 := Aside0.mk hy240; clear hy240
          as_aux_lemma =>
            simp only [Option.some.injEq, Prod.mk.injEq] at H
            obtain ⟨rfl, rfl, rfl⟩ := H
            have q22 : ((ji9) : Int) ≤ ((l0.length : Int) : Int) := HW.od
            obtain ⟨i022, hi022, _, hsz22, _⟩ := info_parts info5; have hroom22 : l0.length ≤ c0 := (Kd.V_reads' HO_0.out).2.1; have hC22 : Kd.F (Kd.int .u8) _ _ (some ad226) l0.length l0 := (Kd.V_at (base := w.heap.size) HO_0.out).2.2
            have q022 : (0 : Int) ≤ ((ji9) : Int) := HW.od
            have hcut22 := cut_from (P := Tryz.prog) 22 5 .i64 Tryz.underlying22 hi022 1 hsz22 (some ad226) l0.length c0 (ji9) q022 q22
            have hr22 := Kd.F_cut (m := ((ji9) : Int).toNat) (c := c0) hC22 (by omega) hroom22
            obtain ⟨A22, hA22⟩ : ∃ A1, A1 = (if c0 = ((ji9) : Int).toNat then (some ad226) else ((some ad226) : Option Addr).map (·.add (((ji9) : Int).toNat * 1))) := ⟨_, rfl⟩; obtain ⟨c22, hc22⟩ : ∃ c1, c1 = c0 - ((ji9) : Int).toNat := ⟨_, rfl⟩
            have hy22 : y228.length = l0.length - ((ji9) : Int).toNat := (by rw [Ny228.out, List.length_drop] <;> omega)
            rw [show (l0).drop ((ji9) : Int).toNat = y228 from Ny228.out.symm] at hr22
            replace hr22 : Kd.F (Kd.int .u8) _ _ A22 y228.length y228 := (by rw [hA22]; exact hr22)
            rw [← hy22, ← hA22, ← hc22] at hcut22
            have HO232 := Aside0.mk (show Kd.V (Kd.int .u8) 5 _ w.heap.size _ (.slice A22 y228.length c22) y228 from Kd.V_mk (by rw [hy22, hc22]; exact Nat.sub_le_sub_right hroom22 _) hr22)
            have HC232 := Aside0.mk (show y228.length ≤ c22 from by rw [hy22, hc22]; exact Nat.sub_le_sub_right hroom22 _)
            clear hr22 hC22 hroom22 hi022 hsz22 hc22; have KY22 := Aside0.mk hy22; have KA22 := Aside0.mk hA22; clear hy22 hA22; replace q22 := eq_true q22
            go_wp2_with (first | (go_at_call 124; (with_reducible refine (bsoncore_valueLength.calls kj3 _ _ y228 (rd l0 0) t233 true _ ?side1 ?side2 A12.out).mono ?_); (case side1 => repeat (first | exact (Kd.V_reads' HO232.out).2.2 | (with_reducible refine Kd.C_alloc ?_ _) | (with_reducible refine Kd.C_drewN ?_ _) | (with_reducible refine Kd.C_drew ?_))); (case side2 => exact (Kd.V_reads' HO232.out).2.1); rintro e w23 ⟨rfl, hb⟩; replace HO_0 := Aside0.mk (Kd.V_below (HW.zV HO_0.out) hb); replace HO232 := Aside0.mk (Kd.V_below (HW.zV HO232.out) hb); replace HB := Aside0.mk (below_step HW.zb hb); (try clear hb); have q24 : ((ji17) : Int) ≤ ((l0.length : Int) : Int) := HW.od; obtain ⟨i024, hi024, _, hsz24, _⟩ := info_parts info5; have hroom24 : l0.length ≤ c0 := (Kd.V_reads' HO_0.out).2.1; have hC24 : Kd.F (Kd.int .u8) _ _ (some ad226) l0.length l0 := (Kd.V_at (base := w.heap.size) HO_0.out).2.2; have hcut24 := cut_to (P := Tryz.prog) 22 5 .i64 Tryz.underlying22 hi024 (some ad226) l0.length c0 (ji17) (HW.od) q24 hroom24; have hr24 := Kd.F_take (m := ((ji17) : Int).toNat) hC24 (by omega); have hy24 : y235.length = ((ji17) : Int).toNat := (by rw [Ny235.out, List.length_take]; omega); rw [← Ny235.out] at hr24; rw [← hy24] at hcut24; have HO239 := Aside0.mk (show Kd.V (Kd.int .u8) 5 _ w.heap.size _ (.slice (some ad226) y235.length c0) y235 from Kd.V_mk (by omega) hr24); have HC239 := Aside0.mk (show y235.length ≤ c0 from by omega); clear hr24 hC24 hroom24 hi024 hsz24; have KY24 := Aside0.mk hy24; clear hy24; replace q24 := eq_true q24; have q25 : ((ji17) : Int) ≤ ((l0.length : Int) : Int) := HW.od; obtain ⟨i025, hi025, _, hsz25, _⟩ := info_parts info5; have hroom25 : l0.length ≤ c0 := (Kd.V_reads' HO_0.out).2.1; have hC25 : Kd.F (Kd.int .u8) _ _ (some ad226) l0.length l0 := (Kd.V_at (base := w.heap.size) HO_0.out).2.2; have q025 : (0 : Int) ≤ ((ji17) : Int) := HW.od; have hcut25 := cut_from (P := Tryz.prog) 22 5 .i64 Tryz.underlying22 hi025 1 hsz25 (some ad226) l0.length c0 (ji17) q025 q25; have hr25 := Kd.F_cut (m := ((ji17) : Int).toNat) (c := c0) hC25 (by omega) hroom25; obtain ⟨A25, hA25⟩ : ∃ A1, A1 = (if c0 = ((ji17) : Int).toNat then (some ad226) else ((some ad226) : Option Addr).map (·.add (((ji17) : Int).toNat * 1))) := ⟨_, rfl⟩; obtain ⟨c25, hc25⟩ : ∃ c1, c1 = c0 - ((ji17) : Int).toNat := ⟨_, rfl⟩; have hy25 : y240.length = l0.length - ((ji17) : Int).toNat := (by rw [Ny240.out, List.length_drop] <;> omega); rw [show (l0).drop ((ji17) : Int).toNat = y240 from Ny240.out.symm] at hr25; replace hr25 : Kd.F (Kd.int .u8) _ _ A25 y240.length y240 := (by rw [hA25]; exact hr25); rw [← hy25, ← hA25, ← hc25] at hcut25; have HO244 := Aside0.mk (show Kd.V (Kd.int .u8) 5 _ w.heap.size _ (.slice A25 y240.length c25) y240 from Kd.V_mk (by rw [hy25, hc25]; exact Nat.sub_le_sub_right hroom25 _) hr25); have HC244 := Aside0.mk (show y240.length ≤ c25 from by rw [hy25, hc25]; exact Nat.sub_le_sub_right hroom25 _); clear hr25 hC25 hroom25 hi025 hsz25 hc25; have KY25 := Aside0.mk hy25; have KA25 := Aside0.mk hA25; clear hy25 hA25; replace q25 := eq_true q25))
            repeat (go_quiet (fail); try go_wp2)
            go_ret3
            exact ⟨_, _, by first | rfl | (simp [errW_none, errW_some] <;> rfl) | (simp only [← hji9, ← hji17]; first | rfl | (simp [errW_none, errW_some] <;> rfl)) | (simp [*, errW_none, errW_some] <;> rfl), HW.zV HO239.out, HW.zV HO244.out, HW.zb⟩
theorem code_few (A : Option Addr) (n c : Nat) (A' : Option Addr) (n' c' : Nat) (w : World) :
    Calls Tryz.prog 24 #[.iface 91 (.agg #[.slice A n c, .slice A' n' c'])] w fun e w' => e = .returned (.int .i64 1) ∧ Below w.heap.size w w' := by
  have t1 : ∀ W : World, (Instr.typeAssert (.iface 91 (.agg #[.slice A n c, .slice A' n' c'])) 59 91 true).run Tryz.prog W = .ok (.tuple #[.agg #[.slice A n c, .slice A' n' c'], .bool true]) W := fun W => by rfl
  go_enter Tryz.func24, Tryz.ntmps24
  go_wp2
  go_ret
  exact ⟨rfl, below_alloc (Below.refl _ _) _⟩
theorem few_new (A : Option Addr) (n c : Nat) (A' : Option Addr) (n' c' : Nat) (w : World) : Calls Tryz.prog 75 #[.slice A n c, .slice A' n' c'] w fun e w' => e = .returned (.agg #[.slice A n c, .slice A' n' c']) ∧ Below w.heap.size w w' := by
  have hu := Tryz.underlying91
  go_enter Tryz.func75, Tryz.ntmps75
  go_wp2
  refine bodyPost_ret (results_cell_row rfl _ _ w.heap.size 91 #[.slice A n c, .slice A' n' c'] (0, 0) _ rfl (blk_new w _) Tryz.underlying91 rfl (by kernel_rfl)) rfl ?_
  exact ⟨rfl, below_alloc (Below.refl _ _) _⟩
theorem code_nil (w : World) : Calls Tryz.prog 24 #[.nilIface] w fun e w' => e = .returned (.int .i64 0) ∧ Below w.heap.size w w' := by
  go_enter Tryz.func24, Tryz.ntmps24
  go_wp2
  go_ret
  exact ⟨rfl, Below.refl _ _⟩
open Go.Extern.Stop Go.Stop Go.Extern
theorem isTypeOf (v : Value) (w : World) : (Extern.ReflectliteType.typeOf #[.iface 260 v]).run Tryz.prog w = .ok (.iface 196 (.agg #[.pointer (some ⟨10, 260, none⟩)])) w := by kernel_rfl
theorem cmp_run (w : World) : Sem.run Tryz.prog (callFunc 263 #[.agg #[.pointer (some ⟨10, 260, none⟩)]]) w = .ok (.value (.bool true)) w := by
  rw [run_callFunc_extern Tryz.func263 (by kernel_rfl) (by kernel_rfl) (by kernel_rfl) (e := Extern.ReflectliteType.method fun t => do Extern.Rtype.noPackHeld "Comparable" t; pure (.bool (← typeInfo t).comparable)) (by kernel_rfl)]
  kernel_rfl
theorem isMethodComparable (v : Value) (w : World) : (Go.method 420 196 v "Comparable").run Tryz.prog w = .ok (263, v) w := by kernel_rfl
theorem isComp : (Tryz.prog.info? 260).map (·.comparable) = some true := by kernel_rfl
theorem isSize : (Tryz.prog.info? 262).map (·.size) = some 1 := by kernel_rfl
theorem noIsE (v : Value) (xT : TypeId) (w : World) : (Instr.typeAssert (.iface 260 v) xT 198 true).run Tryz.prog w = .ok (.tuple #[.nilIface, .bool false]) w := run_typeAssert_lacksB Tryz.underlying198 (by kernel_rfl) (by kernel_rfl) v xT w
theorem noUnwrapE (v : Value) (xT : TypeId) (w : World) : (Instr.typeAssert (.iface 260 v) xT 201 true).run Tryz.prog w = .ok (.tuple #[.nilIface, .bool false]) w := run_typeAssert_lacksB Tryz.underlying201 (by kernel_rfl) (by kernel_rfl) v xT w
theorem noUnwrapsE (v : Value) (xT : TypeId) (w : World) : (Instr.typeAssert (.iface 260 v) xT 202 true).run Tryz.prog w = .ok (.tuple #[.nilIface, .bool false]) w := run_typeAssert_lacksB Tryz.underlying202 (by kernel_rfl) (by kernel_rfl) v xT w
theorem is_same (a : Addr) (w : World) :
    Calls Tryz.prog 43 #[.iface 260 (.pointer (some a)), .iface 260 (.pointer (some a))] w fun e w' => e = .returned (.bool true) ∧ Below w.heap.size w w' := by
  obtain ⟨i, hi, hcmp⟩ := Option.map_eq_some_iff.1 isComp; obtain ⟨j, hj, hjs⟩ := Option.map_eq_some_iff.1 isSize
  have h8 := @run_callFunc_extern Tryz.prog 83 _ Extern.ReflectliteType.typeOf Tryz.func83 (by kernel_rfl) (by kernel_rfl) (by kernel_rfl) (by kernel_rfl)
  have h32 := cmp_run; have tT := isTypeOf; have mR := isMethodComparable; have heq := run_eql_iface_ptr_same (P := Tryz.prog) w a Tryz.underlying59 Tryz.underlying260 hi hcmp hj
  go_enter Tryz.func43, Tryz.ntmps43
  go_wp2
  refine wp_loop_rounds 1 ?_
  rw [rounds_succ]
  go_wp2
  go_ret
  exact ⟨rfl, Below.refl _ _⟩
def Sent (w : World) : Prop := ∃ b : Addr, w.cell? ⟨0, 0, none⟩ = some (.iface 260 (.pointer (some b))) ∧ 0 < w.heap.size
theorem Sent.below {w w' : World} {n : Nat} (h : Sent w) (hn : 0 < n) (hb : Below n w w') : Sent w' := by
  obtain ⟨b, h1, h2⟩ := h
  exact ⟨b, (hb.cell (p := ⟨0, 0, none⟩) hn).trans h1, Nat.lt_of_lt_of_le h2 hb.size⟩
theorem Sent.lt {w : World} (h : Sent w) : 0 < w.heap.size := by
  obtain ⟨_, _, h⟩ := h
  exact h
theorem code_out (b : Addr) (w : World) (hS : w.cell? ⟨0, 0, none⟩ = some (.iface 260 (.pointer (some b)))) :
    Calls Tryz.prog 24 #[.iface 260 (.pointer (some b))] w fun e w' => e = .returned (.int .i64 7) ∧ Below w.heap.size w w' := by
  have t0 : ∀ W : World, (Instr.typeAssert (.iface 260 (.pointer (some b))) 59 91 true).run Tryz.prog W = .ok (.tuple #[.agg #[.slice none 0 0, .slice none 0 0], .bool false]) W := fun W => by kernel_rfl
  have t1 : ∀ W : World, (Instr.typeAssert (.iface 260 (.pointer (some b))) 59 92 true).run Tryz.prog W = .ok (.tuple #[.string ⟨#[]⟩, .bool false]) W := fun W => by kernel_rfl
  have t2 : ∀ W : World, (Instr.typeAssert (.iface 260 (.pointer (some b))) 59 93 true).run Tryz.prog W = .ok (.tuple #[.string ⟨#[]⟩, .bool false]) W := fun W => by kernel_rfl
  have t3 : ∀ W : World, (Instr.typeAssert (.iface 260 (.pointer (some b))) 59 95 true).run Tryz.prog W = .ok (.tuple #[.agg #[.string ⟨#[]⟩, .int .u8 0], .bool false]) W := fun W => by kernel_rfl
  go_enter Tryz.func24, Tryz.ntmps24
  go_wp2_with (go_at_call 43; refine (is_same _ _).mono ?_; rintro e w1 ⟨rfl, hb⟩)
  go_ret
  exact ⟨rfl, hb⟩
def idx.l0 : Nat → Int → Int → List Int → Int → Option (List Int × Int)
  | 0, _, _, _, _ => none
  | k + 1, x1, x6, x7, x9 => if x6 > 1 then ((bsoncore_ReadElement.f k x7).bind fun bt => (if bt.2.2 = true then (if x9 = x1 then (some (bt.1, 0)) else (idx.l0 k x1 (wrap32 (x6 - (wrap32 ((bt.1.length : Int))))) bt.2.1 (IntKind.u64.wrap (x9 + 1)))) else (some ([], 1)))) else (some ([], 7))
def idx.f (k : Nat) (l0 : List Int) (a1 : Int) : Option (List Int × Int) := (bsoncore_ReadLength.f l0).bind fun bt => (if bt.2.2 = true then (idx.l0 k a1 (wrap32 (bt.1 - 4)) bt.2.1 0) else (some ([], 1)))
theorem idx.mono_l : ∀ k, (∀ y0 y1 y2 y3, LeO (idx.l0 k y0 y1 y2 y3) (idx.l0 (k + 1) y0 y1 y2 y3))
  | 0 => fun _ _ _ _ r h => by simp [idx.l0] at h
  | k + 1 => by
    have ih0 := idx.mono_l k
    intro y0 y1 y2 y3
    unfold idx.l0
    exact LeO.ite (LeO.bind (bsoncore_ReadElement.mono _ _) (fun _ => LeO.ite (LeO.ite (LeO.refl _) (ih0 _ _ _ _)) (LeO.refl _))) (LeO.refl _)
theorem idx.mono : ∀ a0 a1 k, LeO (idx.f k a0 a1) (idx.f (k + 1) a0 a1) := by
  intro a0 a1 k
  unfold idx.f
  exact LeO.bind (LeO.refl _) (fun _ => LeO.ite (idx.mono_l k _ _ _ _) (LeO.refl _))
def ErrV (b : Addr) (c : Int) (v : Value) : Prop := (c = 0 ∧ v = .nilIface) ∨ (c = 1 ∧ ∃ A n d A' n' d', v = .iface 91 (.agg #[.slice A n d, .slice A' n' d'])) ∨ (c = 7 ∧ v = .iface 260 (.pointer (some b)))
theorem code_err {b : Addr} {c : Int} {v : Value} (w : World) (hS : w.cell? ⟨0, 0, none⟩ = some (.iface 260 (.pointer (some b)))) (h : ErrV b c v) :
    Calls Tryz.prog 24 #[v] w fun e w' => e = .returned (.int .i64 c) ∧ Below w.heap.size w w' := by
  rcases h with ⟨rfl, rfl⟩ | ⟨rfl, A, n, d, A', n', d', rfl⟩ | ⟨rfl, rfl⟩
  · exact code_nil w
  · exact code_few A n d A' n' d' w
  exact code_out b w hS
theorem idx.calls (k : Nat) (P0_ : Nat → Prop) (A0 : Option Addr) (c0 : Nat) (l0 : List Int) (a1 : Int) (r1 : List Int) (cd : Int) (w : World) (b : Addr) (hS : w.cell? ⟨0, 0, none⟩ = some (.iface 260 (.pointer (some b)))) (hs1 : 0 < w.heap.size) (hs0 : Kd.V (Kd.int .u8) 5 w w.heap.size (fun k_ => P0_ k_) (.slice A0 l0.length c0) l0) (h : idx.f k l0 a1 = some (r1, cd)) :
    Calls Tryz.prog 42 #[.slice A0 l0.length c0, .int .u64 a1] w fun e w' => ∃ v0_ ve : Value, e = .returned (.tuple #[v0_, ve]) ∧ ErrV b cd ve ∧ Kd.V (Kd.int .u8) 5 w' w.heap.size (fun k_ => (P0_ k_ ∨ w.heap.size ≤ k_)) v0_ r1 ∧ Below w.heap.size w w' := by
  have HS := Aside0.mk hS; clear hS; have HO0 := Aside0.mk (show Kd.V (Kd.int .u8) 5 w w.heap.size (fun k_ => (P0_ k_ ∨ w.heap.size ≤ k_)) (.slice A0 l0.length c0) l0 from Kd.V_mono hs0 (fun k_ hk => .inl hk)); have HB := Aside0.mk (Below.refl w.heap.size w); have H : ((bsoncore_ReadLength.f l0).bind fun bt => (if bt.2.2 = true then (idx.l0 k a1 (wrap32 (bt.1 - 4)) bt.2.1 0) else (some ([], 1)))) = some (r1, cd) := h; clear h; replace H := Option.bind_eq_some_iff.mp H; obtain ⟨⟨t807, t808, t811⟩, A30, H⟩ := H; replace H : (if t811 = true then (idx.l0 k a1 (wrap32 (t807 - 4)) t808 0) else (some ([], 1))) = some (r1, cd) := H; have A3 := Aside0.mk A30; clear A30
  by_cases c4 : t811 = true
  rotate_left
  · replace c4 := Bool.eq_false_iff.mpr c4
    subst c4
    rw [if_neg (show ¬ (false = true) by decide)] at H
    simp only [Option.some.injEq, Prod.mk.injEq] at H
    obtain ⟨rfl, rfl⟩ := H
    go_enter Tryz.func42, Tryz.ntmps42
    go_wp2_with (first | (go_at_call 74; (with_reducible refine (bsoncore_ReadLength.calls (fun k_ => (P0_ k_ ∨ w.heap.size ≤ k_)) _ _ l0 t807 t808 false _ ?side1 A3.out).mono ?_); (case side1 => exact HO0.out); rintro e w5 ⟨v809, rfl, ho0, hb⟩; replace HO0 := Aside0.mk (Kd.V_below (HW.zV HO0.out) hb); have HO810 := Aside0.mk (Kd.V_lower (Kd.V_mono (ok' := (fun k_ => (P0_ k_ ∨ w.heap.size ≤ k_))) ho0 (fun k_ hk_ => Or.elim hk_ (fun hs_ => hs_) (fun hn_ => (.inr (Nat.le_trans (below_size HW.zb) hn_))))) (below_size HW.zb)); replace HB := Aside0.mk (below_step HW.zb hb); clear hb ho0; obtain ⟨Ao9, co9, eo9⟩ := Kd.V_slice HO810.out; subst eo9) | (go_at_call 75; refine (few_new _ _ _ _ _ _ _).mono ?_; rintro e w19 ⟨rfl, hb9⟩; replace HB := Aside0.mk (below_step HW.zb hb9); clear hb9))
    go_ret2
    exact ⟨_, _, rfl, Or.inr (Or.inl ⟨rfl, _, _, _, _, _, _, rfl⟩), Kd.V_nil _ _ _ _ _, HW.zb⟩
  subst c4; rw [if_pos rfl] at H; have H' := Aside0.mk H; clear H
  go_enter Tryz.func42, Tryz.ntmps42
  go_wp2_with (first | (go_at_call 74; (with_reducible refine (bsoncore_ReadLength.calls (fun k_ => (P0_ k_ ∨ w.heap.size ≤ k_)) _ _ l0 t807 t808 true _ ?side1 A3.out).mono ?_); (case side1 => exact HO0.out); rintro e w5 ⟨v809, rfl, ho0, hb⟩; replace HO0 := Aside0.mk (Kd.V_below (HW.zV HO0.out) hb); have HO810 := Aside0.mk (Kd.V_lower (Kd.V_mono (ok' := (fun k_ => (P0_ k_ ∨ w.heap.size ≤ k_))) ho0 (fun k_ hk_ => Or.elim hk_ (fun hs_ => hs_) (fun hn_ => (.inr (Nat.le_trans (below_size HW.zb) hn_))))) (below_size HW.zb)); replace HB := Aside0.mk (below_step HW.zb hb); clear hb ho0; obtain ⟨Ao9, co9, eo9⟩ := Kd.V_slice HO810.out; subst eo9))
  go_loopg [6, 7, 9] k (fun kq v6 v7 v9 w' => ∃ (x6_1 : Int) (x7_1 : List Int) (x9_1 : Int), v6 = .int .i32 x6_1 ∧ v9 = .int .u64 x9_1 ∧ Aside0 (idx.l0 kq a1 x6_1 x7_1 x9_1 = some (r1, cd)) ∧ Aside0 (kq ≤ k) ∧ Aside0 (Kd.V (Kd.int .u8) 5 w' w.heap.size (fun k_ => (P0_ k_ ∨ w.heap.size ≤ k_)) v7 x7_1) ∧ Aside0 (Below w.heap.size w w'))
  case atStart => exact ⟨(wrap32 (t807 - 4)), (t808), (0), rfl, rfl, H', ⟨Nat.le_refl _⟩, ⟨HW.zV HO810.out⟩, ⟨HW.zb⟩⟩
  case round =>
    clear H'; obtain ⟨x6_1, x7_1, x9_1, rfl, rfl, HA, HK1, HO_7, HB⟩ := hrel
    cases gk with
    | zero => exact absurd HA.out (by simp [idx.l0])
    | succ k1 =>
      have H := HA.out; clear HA
      simp only [idx.l0] at H
      by_cases c6 : x6_1 > 1
      rotate_left
      · rw [if_neg c6] at H
        simp only [Option.some.injEq, Prod.mk.injEq] at H
        obtain ⟨rfl, rfl⟩ := H; have c6b0 : decide (1 < x6_1) = false := decide_eq_false c6; clear c6; have hgl := (HB.out.cell (p := ⟨0, 0, none⟩) hs1).trans HS.out
        go_wp2
        repeat (go_quiet (fail); try go_wp2)
        go_ret2
        exact ⟨_, _, rfl, Or.inr (Or.inr ⟨rfl, rfl⟩), Kd.V_nil _ _ _ _ _, HW.zb⟩
      rw [if_pos c6] at H; have c6b0 : decide (1 < x6_1) = true := decide_eq_true c6; clear c6; replace H := Option.bind_eq_some_iff.mp H; obtain ⟨⟨t818, t821, t824⟩, A70, H⟩ := H; replace H : (if t824 = true then (if x9_1 = a1 then (some (t818, 0)) else (idx.l0 k1 a1 (wrap32 (x6_1 - (wrap32 ((t818.length : Int))))) t821 (IntKind.u64.wrap (x9_1 + 1)))) else (some ([], 1))) = some (r1, cd) := H; have A7 := Aside0.mk A70; clear A70; obtain ⟨Ao10, co10, eo10⟩ := Kd.V_slice HO_7.out; subst eo10
      by_cases c8 : t824 = true
      rotate_left
      · replace c8 := Bool.eq_false_iff.mpr c8
        subst c8
        rw [if_neg (show ¬ (false = true) by decide)] at H
        simp only [Option.some.injEq, Prod.mk.injEq] at H
        obtain ⟨rfl, rfl⟩ := H
        go_wp2_with (first | (go_at_call 76; (with_reducible refine (bsoncore_ReadElement.calls k1 (fun k_ => (P0_ k_ ∨ w.heap.size ≤ k_)) _ _ x7_1 t818 t821 false _ ?side1 A7.out).mono ?_); (case side1 => exact HO_7.out); rintro e w11 ⟨v819, v822, rfl, ho0, ho1, hb⟩; replace HO_7 := Aside0.mk (Kd.V_below (HW.zV HO_7.out) hb); have HO820 := Aside0.mk (Kd.V_lower (Kd.V_mono (ok' := (fun k_ => (P0_ k_ ∨ w.heap.size ≤ k_))) ho0 (fun k_ hk_ => Or.elim hk_ (fun hs_ => hs_) (fun hn_ => (.inr (Nat.le_trans (below_size HW.zb) hn_))))) (below_size HW.zb)); have HO823 := Aside0.mk (Kd.V_lower (Kd.V_mono (ok' := (fun k_ => (P0_ k_ ∨ w.heap.size ≤ k_))) ho1 (fun k_ hk_ => Or.elim hk_ (fun hs_ => hs_) (fun hn_ => (.inr (Nat.le_trans (below_size HW.zb) hn_))))) (below_size HW.zb)); replace HB := Aside0.mk (below_step HW.zb hb); clear hb ho0 ho1; obtain ⟨Ao12, co12, eo12⟩ := Kd.V_slice HO820.out; subst eo12; obtain ⟨Ao13, co13, eo13⟩ := Kd.V_slice HO823.out; subst eo13) | (go_at_call 75; refine (few_new _ _ _ _ _ _ _).mono ?_; rintro e w19 ⟨rfl, hb9⟩; replace HB := Aside0.mk (below_step HW.zb hb9); clear hb9))
        repeat (go_quiet (fail); try go_wp2_with (first | (go_at_call 75; refine (few_new _ _ _ _ _ _ _).mono ?_; rintro e w19 ⟨rfl, hb9⟩; replace HB := Aside0.mk (below_step HW.zb hb9); clear hb9)))
        go_ret2
        exact ⟨_, _, rfl, Or.inr (Or.inl ⟨rfl, _, _, _, _, _, _, rfl⟩), Kd.V_nil _ _ _ _ _, HW.zb⟩
      subst c8; rw [if_pos rfl] at H
      by_cases c9 : x9_1 = a1
      · rw [if_pos c9] at H
        have c9b0 : (x9_1 == a1) = true := beq_iff_eq.mpr c9; have c9b1 : (x9_1 != a1) = false := bne_eq_false_iff_eq.mpr c9; clear c9
        simp only [Option.some.injEq, Prod.mk.injEq] at H
        obtain ⟨rfl, rfl⟩ := H
        go_wp2_with (first | (go_at_call 76; (with_reducible refine (bsoncore_ReadElement.calls k1 (fun k_ => (P0_ k_ ∨ w.heap.size ≤ k_)) _ _ x7_1 t818 t821 true _ ?side1 A7.out).mono ?_); (case side1 => exact HO_7.out); rintro e w11 ⟨v819, v822, rfl, ho0, ho1, hb⟩; replace HO_7 := Aside0.mk (Kd.V_below (HW.zV HO_7.out) hb); have HO820 := Aside0.mk (Kd.V_lower (Kd.V_mono (ok' := (fun k_ => (P0_ k_ ∨ w.heap.size ≤ k_))) ho0 (fun k_ hk_ => Or.elim hk_ (fun hs_ => hs_) (fun hn_ => (.inr (Nat.le_trans (below_size HW.zb) hn_))))) (below_size HW.zb)); have HO823 := Aside0.mk (Kd.V_lower (Kd.V_mono (ok' := (fun k_ => (P0_ k_ ∨ w.heap.size ≤ k_))) ho1 (fun k_ hk_ => Or.elim hk_ (fun hs_ => hs_) (fun hn_ => (.inr (Nat.le_trans (below_size HW.zb) hn_))))) (below_size HW.zb)); replace HB := Aside0.mk (below_step HW.zb hb); clear hb ho0 ho1; obtain ⟨Ao12, co12, eo12⟩ := Kd.V_slice HO820.out; subst eo12; obtain ⟨Ao13, co13, eo13⟩ := Kd.V_slice HO823.out; subst eo13))
        repeat (go_quiet (fail); try go_wp2)
        go_ret2
        exact ⟨_, _, rfl, Or.inl ⟨rfl, rfl⟩, HW.zV HO820.out, HW.zb⟩
      rw [if_neg c9] at H; have c9b0 : (x9_1 == a1) = false := beq_eq_false_iff_ne.mpr c9; have c9b1 : (x9_1 != a1) = true := bne_iff_ne.mpr c9; have H' := Aside0.mk H; clear H
      go_wp2_with (first | (go_at_call 76; (with_reducible refine (bsoncore_ReadElement.calls k1 (fun k_ => (P0_ k_ ∨ w.heap.size ≤ k_)) _ _ x7_1 t818 t821 true _ ?side1 A7.out).mono ?_); (case side1 => exact HO_7.out); rintro e w11 ⟨v819, v822, rfl, ho0, ho1, hb⟩; replace HO_7 := Aside0.mk (Kd.V_below (HW.zV HO_7.out) hb); have HO820 := Aside0.mk (Kd.V_lower (Kd.V_mono (ok' := (fun k_ => (P0_ k_ ∨ w.heap.size ≤ k_))) ho0 (fun k_ hk_ => Or.elim hk_ (fun hs_ => hs_) (fun hn_ => (.inr (Nat.le_trans (below_size HW.zb) hn_))))) (below_size HW.zb)); have HO823 := Aside0.mk (Kd.V_lower (Kd.V_mono (ok' := (fun k_ => (P0_ k_ ∨ w.heap.size ≤ k_))) ho1 (fun k_ hk_ => Or.elim hk_ (fun hs_ => hs_) (fun hn_ => (.inr (Nat.le_trans (below_size HW.zb) hn_))))) (below_size HW.zb)); replace HB := Aside0.mk (below_step HW.zb hb); clear hb ho0 ho1; obtain ⟨Ao12, co12, eo12⟩ := Kd.V_slice HO820.out; subst eo12; obtain ⟨Ao13, co13, eo13⟩ := Kd.V_slice HO823.out; subst eo13))
      repeat (go_quiet (fail); try go_wp2)
      go_roundg k1
      case measure => have := HK1.out; omega
      case rel => exact ⟨(wrap32 (x6_1 - (wrap32 ((t818.length : Int))))), (t821), (IntKind.u64.wrap (x9_1 + 1)), (by first | rfl | (simp; done) | (simp [*]; done)), HW.rs, H', ⟨by have := HK1.out; omega⟩, ⟨HW.zV HO823.out⟩, ⟨HW.zb⟩⟩
theorem dix.calls (k : Nat) (P0_ : Nat → Prop) (A0 : Option Addr) (c0 : Nat) (l0 : List Int) (a1 : Int) (r1 : List Int) (cd : Int) (w : World) (b : Addr) (hS : w.cell? ⟨0, 0, none⟩ = some (.iface 260 (.pointer (some b)))) (hs1 : 0 < w.heap.size) (hs0 : Kd.V (Kd.int .u8) 5 w w.heap.size (fun k_ => P0_ k_) (.slice A0 l0.length c0) l0) (h : idx.f k l0 a1 = some (r1, cd)) :
    Calls Tryz.prog 22 #[.slice A0 l0.length c0, .int .u64 a1] w fun e w' => ∃ v0_ ve : Value, e = .returned (.tuple #[v0_, ve]) ∧ ErrV b cd ve ∧ Kd.V (Kd.int .u8) 5 w' w.heap.size (fun k_ => (P0_ k_ ∨ w.heap.size ≤ k_)) v0_ r1 ∧ Below w.heap.size w w' := by
  go_enter Tryz.func22, Tryz.ntmps22
  go_wp2_with (go_at_call 42; refine (idx.calls k P0_ A0 c0 l0 a1 r1 cd _ b hS hs1 hs0 h).mono ?_; rintro e w1 ⟨v0, ve, rfl, hE, hv, hb⟩)
  go_ret2
  exact ⟨v0, ve, rfl, hE, hv, hb⟩
def impl_Index.f (k : Nat) (l0 : List Int) (a1 : Int) : Option (List Int × Int) := (idx.f k l0 (IntKind.u64.wrap (a1))).bind fun bt835 => ((impl_own.f bt835.1).bind fun t839 => (some (t839, bt835.2)))
theorem impl_Index.mono : ∀ a0 a1 k, LeO (impl_Index.f k a0 a1) (impl_Index.f (k + 1) a0 a1) := by
  intro a0 a1 k
  unfold impl_Index.f
  exact LeO.bind (idx.mono _ _ _) (fun _ => LeO.refl _)
theorem impl_Index.calls (k : Nat) (A0 : Option Addr) (c0 : Nat) (l0 : List Int) (a1 : Int) (r1 : List Int) (r2 : Int) (w : World) (hS0 : Sent w) (hr0 : Kd.C (Kd.int .u8) w A0 l0.length l0) (hc0 : l0.length ≤ c0) (h : impl_Index.f k l0 a1 = some (r1, r2)) :
    Calls Tryz.prog 7 #[.slice A0 l0.length c0, .int .i64 a1] w fun e w' => ∃ v0_ : Value, e = .returned (.tuple #[v0_, .int .i64 r2]) ∧ Kd.R (Kd.int .u8) 5 w' w.heap.size (fun _ => True) v0_ r1 ∧ Below w.heap.size w w' := by
  have HR0 := Aside0.mk hr0; have HC0 := Aside0.mk hc0; clear hr0 hc0; have HB := Aside0.mk (Below.refl w.heap.size w); obtain ⟨b, hS, hs1⟩ := hS0; have HS := Aside0.mk hS; clear hS; have H : ((idx.f k l0 (IntKind.u64.wrap (a1))).bind fun bt835 => ((impl_own.f bt835.1).bind fun t839 => (some (t839, bt835.2)))) = some (r1, r2) := h; clear h; replace H := Option.bind_eq_some_iff.mp H; obtain ⟨⟨t835, t838⟩, A30, H⟩ := H; replace H : ((impl_own.f t835).bind fun t839 => (some (t839, t838))) = some (r1, r2) := H; have A3 := Aside0.mk A30; clear A30; replace H := Option.bind_eq_some_iff.mp H; obtain ⟨t839, A40, H⟩ := H; replace H : (some (t839, t838)) = some (r1, r2) := H; have A4 := Aside0.mk A40; clear A40
  focus
    simp only [Option.some.injEq, Prod.mk.injEq] at H
    obtain ⟨rfl, rfl⟩ := H
    go_enter Tryz.func7, Tryz.ntmps7
    go_wp2_with (first | ((with_reducible refine gate_callee (f := 22) rfl ?_); refine HW.gz (some 12) rfl rfl Tryz.func22 (by kernel_rfl) rfl #[.slice A0 l0.length c0, .int .u64 (IntKind.u64.wrap (a1))] rfl ?_; (with_reducible refine (dix.calls k (fun k_ => k_ < w.heap.size) _ _ l0 (IntKind.u64.wrap (a1)) t835 t838 _ b ?sS ?sL ?side1 A3.out).mono ?_); (case sS => exact ((Below.cell (B := w.heap.size) (p := ⟨0, 0, none⟩) (by repeat (first | exact HB.out | apply below_alloc | apply pw_below_drewN | apply below_drew1)) hs1).trans HS.out)); (case sL => exact (Nat.lt_of_lt_of_le hs1 (below_size HW.zb))); (case side1 => exact Kd.V_mk HC0.out (Kd.F_below (Kd.C_F (Kd.heap_int .u8) HR0.out) HW.zb)); rintro e w6 ⟨v836, ve, rfl, hE, ho0, hb⟩; have HE := Aside0.mk hE; clear hE; refine ⟨_, rfl, ?_⟩; have qn0_ := Aside0.mk (Kd.V_lower (Kd.V_mono (ok' := fun k_ => True) ho0 (fun k_ hk_ => trivial)) (below_size HW.zb)); have qn1_ := Aside0.mk (below_step HW.zb hb); clear HB; have HO837 := qn0_; have HB := qn1_; clear qn0_ qn1_; (try clear hb); (try clear ho0); obtain ⟨Ao7, co7, eo7⟩ := Kd.V_slice HO837.out; subst eo7) | ((with_reducible refine gate_callee (f := 23) rfl ?_); refine HW.gz (some 16) rfl rfl Tryz.func23 (by kernel_rfl) rfl #[.slice Ao7 t835.length co7] rfl ?_; (with_reducible refine (impl_own.calls _ _ t835 t839 _ ?side1 ?side2 A4.out).mono ?_); (case side1 => repeat (first | exact (Kd.V_reads' HO837.out).2.2 | (with_reducible refine Kd.C_alloc ?_ _) | (with_reducible refine Kd.C_drewN ?_ _) | (with_reducible refine Kd.C_drew ?_))); (case side2 => exact (Kd.V_reads' HO837.out).2.1); rintro e w8 ⟨v840, rfl, ho0, hb⟩; refine ⟨_, rfl, ?_⟩; have qn1_ := Aside0.mk (Kd.R_lower ho0 (below_size HW.zb)); have qn2_ := Aside0.mk (below_step HW.zb hb); clear HB; have HO841 := qn1_; have HB := qn2_; clear qn1_ qn2_; (try clear hb); (try clear ho0)) | (go_at_call 24; refine (code_err (b := b) _ ?sS HE.out).mono ?_; (case sS => exact ((Below.cell (B := w.heap.size) (p := ⟨0, 0, none⟩) (by repeat (first | exact HB.out | apply below_alloc | apply pw_below_drewN | apply below_drew1)) hs1).trans HS.out)); rintro e w9 ⟨rfl, hb⟩; have qn1_ := Aside0.mk (Kd.R_below (HW.zR HO841.out) hb); have qn2_ := Aside0.mk (below_step HW.zb hb); clear HO841; clear HB; have HO841 := qn1_; have HB := qn2_; clear qn1_ qn2_; (try clear hb)))
    go_ret2
    exact ⟨_, rfl, HW.zR HO841.out, HW.zb⟩
def laws_docCopy.f (l0 : List Int) : Option (List Int) := (some (([] : List Int) : List Int)).bind fun y245 => (if y245.length + l0.length < 140737488355328 then (some (y245 ++ l0)) else (none))
theorem laws_docCopy.calls (A0 : Option Addr) (c0 : Nat) (l0 : List Int) (r : List Int) (w : World) (hr0 : Kd.C (Kd.int .u8) w A0 l0.length l0) (hc0 : l0.length ≤ c0) (h : laws_docCopy.f l0 = some r) :
    Calls Tryz.prog 8 #[.slice A0 l0.length c0] w fun e w' => ∃ v0_ : Value, e = .returned (v0_) ∧ Kd.R (Kd.int .u8) 5 w' w.heap.size (fun _ => True) v0_ r ∧ Below w.heap.size w w' := by
  have HR0 := Aside0.mk hr0; have HC0 := Aside0.mk hc0; clear hr0 hc0; have HB := Aside0.mk (Below.refl w.heap.size w); have H : ((some (([] : List Int) : List Int)).bind fun y245 => (if y245.length + l0.length < 140737488355328 then (some (y245 ++ l0)) else (none))) = some r := h; clear h; obtain ⟨y245, hy245⟩ : ∃ y_ : List Int, y_ = (([] : List Int)) := ⟨_, rfl⟩
  replace H : (if y245.length + l0.length < 140737488355328 then (some (y245 ++ l0)) else (none)) = some r := by (try rw [hy245]); exact HW.rp
  have Ny245 := Aside0.mk hy245; clear hy245
  by_cases c2 : y245.length + l0.length < 140737488355328
  rotate_left
  · rw [if_neg c2] at H
    exact absurd H (by simp)
  rw [if_pos c2] at H; have LMc2 := Aside0.mk c2; clear c2; obtain ⟨y248, hy248⟩ : ∃ y_ : List Int, y_ = (y245 ++ l0) := ⟨_, rfl⟩
  replace H : (some y248) = some r := by (try rw [hy248]); exact HW.rp
  have Ny248 := Aside0.mk hy248; clear hy248
  as_aux_lemma =>
    obtain rfl := Option.some.inj H
    go_enter Tryz.func8, Tryz.ntmps8
    go_wp2_with (first | ((with_reducible refine gate_dst (N := 3) rfl ?_); refine Kd.R_lit (Kd.int .u8) _ 5 ?hg (N := 3) ?hd (xs := ([] : List Int)) (inner := []) (ok := fun _ => True) (okp := fun _ => True) ?hr ?hp (fun _ hk => hk) trivial (Below.refl _ _) (Nat.le_refl _) (by simp) ?_; (case hd => rfl); (case hg => rfl); (case hr => first | (go_simp; done) | (go_simp; rfl)); (case hp => exact (Reps.none _ _)); intro v246 w3 ho4 hb hg_ hnew_; clear hg_ hnew_; (first | rw [← Ny245.out] at ho4 | (simp only [Int.reduceToNat] at ho4; rw [← Ny245.out] at ho4)); have HO247 := Aside0.mk (Kd.R_lower ho4 (below_size HW.zb)); replace HB := Aside0.mk (below_step HW.zb hb); clear hb ho4) | ((with_reducible refine gate_builtin (b := .append) (xs := #[.tmp 3, .tmp 4]) rfl ?_); at_builtin; refine Kd.R_append_rows (Kd.int .u8) (w0 := w) w.heap.size rfl (.tmp 3) (.tmp 4) 22 5 (.int .u8 0) 1 rfl Tryz.underlying22 info5 rfl (by decide) (by omega) v246 y245 l0 _ _ _ (fun _ => True) (fun _ => False) rfl rfl ?aO ?aR (fun _ _ h => h) (fun _ h => h.elim) ?aF ?aB ?aS ?aL ?_; (case aR => repeat (first | exact (Kd.C_below HR0.out HB.out) | (with_reducible refine Kd.C_alloc ?_ _) | (with_reducible refine Kd.C_drewN ?_ _) | (with_reducible refine Kd.C_drew ?_))); (case aB => exact HW.zb); (case aF => exact (fun _ _ => trivial)); (case aO => exact (HW.zR HO247.out)); (case aS => exact (below_size HW.zb)); (case aL => have := LMc2.out; omega); intro v249 w5 ho hb hg hat; rw [← Ny248.out] at ho; have n0_ := Aside0.mk (hb); have n1_ := Aside0.mk (ho); clear HB; clear HO247; have HB := n0_; have HO250 := n1_; clear n0_ n1_; clear ho hb hg hat))
    go_ret
    exact ⟨_, rfl, HW.zR HO250.out, HW.zb⟩
def impl_raw.f (a0_0 : Int) (l0_1 : List Int) : Option (Int × List Int) := (impl_own.f l0_1).bind fun t253 => (some (wrap64 (a0_0), t253))
def impl_raw.T1 : Bool × List (List Nat × List Nat) := (true, [([], []), ([0], [0]), ([1], [1]), ([], []), ([3], [3]), ([4], [4]), ([2, 5], [2, 5]), ([6, 5, 0, 1, 2, 3, 4, 5, 6], [6])])
def impl_raw.B1 : List Nat := [0, 1, 3, 0, 8, 24, 63, 127]
theorem impl_raw.tab1 : rtab .any (opsOf Tryz.f26 1) = impl_raw.T1 := by kernel_rfl
theorem impl_raw.bits1 : waitsOk impl_raw.T1.2 impl_raw.B1 = true := by kernel_rfl
theorem impl_raw.calls (a0_0 : Int) (A0_1 : Option Addr) (c0_1 : Nat) (l0_1 : List Int) (r1 : Int) (r2 : List Int) (w : World) (hr0_1 : Kd.C (Kd.int .u8) w A0_1 l0_1.length l0_1) (hc0_1 : l0_1.length ≤ c0_1) (h : impl_raw.f a0_0 l0_1 = some (r1, r2)) :
    Calls Tryz.prog 26 #[.agg #[.int .u8 a0_0, .slice A0_1 l0_1.length c0_1]] w fun e w' => ∃ v1_ : Value, e = .returned (.agg #[.int .i64 r1, v1_]) ∧ Kd.R (Kd.int .u8) 5 w' w.heap.size (fun _ => True) v1_ r2 ∧ Below w.heap.size w w' := by
  have hu67 := Tryz.underlying67; have hu25 := Tryz.underlying25; have HR0_1 := Aside0.mk hr0_1; have HC0_1 := Aside0.mk hc0_1; clear hr0_1 hc0_1; have HB := Aside0.mk (Below.refl w.heap.size w); have H : ((impl_own.f l0_1).bind fun t253 => (some (wrap64 (a0_0), t253))) = some (r1, r2) := h; clear h; replace H := Option.bind_eq_some_iff.mp H; obtain ⟨t253, A20, H⟩ := H; replace H : (some (wrap64 (a0_0), t253)) = some (r1, r2) := H; have A2 := Aside0.mk A20; clear A20
  as_aux_lemma =>
    simp only [Option.some.injEq, Prod.mk.injEq] at H
    obtain ⟨rfl, rfl⟩ := H
    go_enter Tryz.func26, Tryz.ntmps26
    try go_wp2_with (first | ((with_reducible refine gate_dst (N := 1) rfl ?_); refine box_event ?hg (N := 1) ?hd (cs := #[.int .u8 a0_0, .slice A0_1 l0_1.length c0_1]) (t := 67) ?hr ?_; (case hd => rfl); (case hg => rfl); (case hr => first | (go_simp; done) | (go_simp; rfl)); intro gb251 hg w3 hbox hb; have n0_ := Aside0.mk (below_step HW.zb hb); have n1_ := Aside0.mk (hbox); have n3_ := Aside0.mk ((by rw [hg]; exact (below_size HW.zb) : w.heap.size ≤ gb251)); clear HB; have HB := n0_; have BK251 := n1_; have GE251 := n3_; clear n0_ n1_ n3_; clear hb hbox hg) | ((with_reducible refine gate_dst (N := 2) rfl ?_); refine box_event ?hg (N := 2) ?hd (cs := #[.int .i64 0, .slice none 0 0]) (t := 25) ?hr ?_; (case hd => rfl); (case hg => rfl); (case hr => first | (go_simp; done) | (go_simp; rfl)); intro gb252 hg w4 hbox hb; have n0_ := Aside0.mk (blk_below (HW.zB BK251.out) hb); have n1_ := Aside0.mk (below_step HW.zb hb); have n2_ := Aside0.mk (hbox); have n4_ := Aside0.mk ((by rw [hg]; exact (below_size HW.zb) : w.heap.size ≤ gb252)); have n5_ := Aside0.mk ((by rw [hg]; exact Nat.ne_of_lt (blk_lt (g := gb251) (o := .cells #[.int .u8 a0_0, .slice A0_1 l0_1.length c0_1] 67 (0, 0)) (HW.zB BK251.out)) : gb251 ≠ gb252)); have n6_ := Aside0.mk ((by rw [hg]; exact Nat.ne_of_gt (blk_lt (g := gb251) (o := .cells #[.int .u8 a0_0, .slice A0_1 l0_1.length c0_1] 67 (0, 0)) (HW.zB BK251.out)) : gb252 ≠ gb251)); clear BK251; clear HB; have BK251 := n0_; have HB := n1_; have BK252 := n2_; have GE252 := n4_; have NB251_252 := n5_; have NB252_251 := n6_; clear n0_ n1_ n2_ n4_ n5_ n6_; clear hb hbox hg))
    replace BK251 := Aside0.mk (blk_drew BK251.out); replace BK252 := Aside0.mk (blk_drew BK252.out); replace HB := Aside0.mk (below_drew1 HB.out)
    refine start_ (n := 8) (S := fun w' => w'.cell? ⟨gb251, 0, none⟩ = some (.int .u8 a0_0) ∧ w'.cell? ⟨gb251, 1, none⟩ = some (.slice A0_1 l0_1.length c0_1)) (ds := []) #[ff,ff,ff,ff,ff,ff,ff,ff] (by kernel_rfl) rfl rfl (HW.k2 BK251.out) (fun hHeld => ?_); refine with_tabW impl_raw.tab1 impl_raw.bits1 (fun HT_ HW_ => ?_)
    generalize w4.drew = w5 at BK251 BK252 HB hHeld ⊢
    refine HW.pz (i := 0) (N := some 3) #[tt,ff,ff,ff,ff,ff,ff,ff] ?_ (hc := any_of HT_.out (by kernel_rfl))
    refine HW.pz (i := 3) (N := some 6) #[tt,ff,ff,tt,ff,ff,ff,ff] ?_ (hc := any_of HT_.out (by kernel_rfl))
    refine take_ (i := 1) (N := some 4) (v := ?_) (a' := ?_) #[tt,tt,ff,tt,ff,ff,ff,ff] rfl rfl (take_ofW HT_.out HW_.out (by kernel_rfl)) (fun _ _ _ h => h) (Or.inl ⟨by rfl, ?_⟩) hHeld ?_ ?_
    rotate_left
    · rintro w' ⟨s0, s1⟩
      go_simp
      with_reducible rfl
    rotate_left
    · exact HW.pt
    refine HW.pz (i := 2) (N := some 5) #[tt,tt,tt,tt,ff,ff,ff,ff] ?_ (hc := any_of HT_.out (by kernel_rfl))
    refine take_ (i := 4) (N := some 7) (v := ?_) (a' := ?_) #[tt,tt,tt,tt,tt,ff,ff,ff] rfl rfl (take_ofW HT_.out HW_.out (by kernel_rfl)) (fun _ _ _ h => h) (Or.inl ⟨by rfl, ?_⟩) hHeld ?_ ?_
    rotate_left
    · rintro w' ⟨s0, s1⟩
      go_simp
      with_reducible rfl
    rotate_left
    · exact HW.pt
    refine one_ (i := 5) (N := some 8) #[tt,tt,tt,tt,tt,tt,ff,ff] rfl rfl (one_of HT_.out (by kernel_rfl)) (by decide) (fun K hK => ?_)
    refine goes_ Tryz.func23 (by kernel_rfl) rfl #[.slice A0_1 l0_1.length c0_1] (by rfl) rfl rfl HW.mt ?_
    with_reducible refine (impl_own.calls _ _ l0_1 t253 _ ?side1 ?side2 A2.out).mono ?_
    (case side1 => repeat (first | exact (Kd.C_below HR0_1.out HB.out) | (with_reducible refine Kd.C_alloc ?_ _) | (with_reducible refine Kd.C_drewN ?_ _) | (with_reducible refine Kd.C_drew ?_)))
    (case side2 => exact HC0_1.out)
    rintro e w6 ⟨v254, rfl, ho0, hb⟩
    refine ⟨_, rfl, ?_⟩
    have HO255 := Aside0.mk (Kd.R_lower ho0 (below_size HW.zb)); replace BK251 := Aside0.mk (blk_below (HW.zB BK251.out) hb); replace BK252 := Aside0.mk (blk_below (HW.zB BK252.out) hb); replace HB := Aside0.mk (below_step HW.zb hb)
    (try clear hb)
    (try clear hi)
    (try clear ho0)
    obtain ⟨Ao7, co7, eo7⟩ := Kd.R_slice HO255.out
    (first | subst eo7 | (injection eo7 with f1_ f2_ f3_; have f4_ := f1_.symm; have f5_ := f3_.symm; clear f1_ f2_ f3_; subst f4_; subst f5_))
    refine hK.out _ _ (HW.k2 BK251.out) (fun hHeld => ?_)
    clear hK K
    refine HW.nz (N := (some 8)) ?_
    refine HW.pz (i := 6) (N := some 9) #[tt,tt,tt,tt,tt,tt,tt,ff] ?_ (hc := any_of HT_.out (by kernel_rfl))
    refine one_ (i := 7) (N := none) #[tt,tt,tt,tt,tt,tt,tt,tt] rfl rfl (one_of HT_.out (by kernel_rfl)) (by decide) (fun K hK => ?_)
    have hs8 : w6.cell? ⟨gb252, 0, none⟩ = some (.int .i64 0) := (blk_cell BK252.out 0).trans rfl; have hfs8 := blk_frozen BK252.out 0; have hns8_0 := NB251_252.out; have hms8_0 := NB252_251.out; have hs9 : w6.cell? ⟨gb252, 1, none⟩ = some (.slice none 0 0) := (blk_cell BK252.out 1).trans rfl; have hfs9 := blk_frozen BK252.out 1; have hns9_0 := NB251_252.out; have hms9_0 := NB252_251.out
    refine skip_ (w1 := ?_) (by rfl) rfl ?_ ?_
    rotate_left
    · go_simp
      rfl
    refine hK.out _ _ ⟨((cell_far (p := ⟨gb252, _, none⟩) NB251_252.out _).trans (((cell_far (p := ⟨gb252, _, none⟩) NB251_252.out _).trans (hHeld.1)))), ((cell_far (p := ⟨gb252, _, none⟩) NB251_252.out _).trans (((cell_far (p := ⟨gb252, _, none⟩) NB251_252.out _).trans (hHeld.2))))⟩ (fun hHeld => ?_)
    clear hK K
    refine done_ (done_of HT_.out (by kernel_rfl)) ?_
    try go_wp2
    refine bodyPost_ret (results_cell_row rfl _ _ gb252 25 #[.int .i64 (wrap64 (a0_0)), .slice Ao7 t253.length co7] (0, 0) _ rfl (by (with_reducible repeat (first | refine blk_drewN ?_ _ | refine blk_drew ?_ | refine blk_alloc ?_ _)); refine blk_put (cs := #[.int .i64 (wrap64 (a0_0)), .slice none 0 0]) ?_ 1 _ rfl; (with_reducible repeat (first | refine blk_drewN ?_ _ | refine blk_drew ?_ | refine blk_alloc ?_ _)); refine blk_put (cs := #[.int .i64 0, .slice none 0 0]) ?_ 0 _ rfl; exact HW.zB BK252.out) Tryz.underlying25 rfl (by kernel_rfl)) rfl ?_
    exact ⟨_, rfl, by (with_reducible repeat (first | apply Kd.R_alloc | apply Kd.R_drewN | apply Kd.R_drew)); exact Kd.R_mono (Kd.R_far (p := ⟨gb252, 1, none⟩) (Kd.R_far (p := ⟨gb252, 0, none⟩) (Kd.R_types HO255.out BK252.out (by decide)) (fun _ hk => hk.2) (.int .i64 (wrap64 (a0_0)))) (fun _ hk => hk.2) (.slice Ao7 t253.length co7)) (fun _ hk => trivial), HW.zb⟩
end Go.Proofs.YtbfhpjkahobgnaaGreatDoor.PIx
