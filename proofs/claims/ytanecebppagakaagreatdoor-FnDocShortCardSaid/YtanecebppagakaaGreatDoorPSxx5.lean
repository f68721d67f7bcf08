import Derived.Test.YtanecebppagakaaGreatDoorPSxx0
import Derived.Test.YtanecebppagakaaGreatDoorPSxx1
import Derived.Test.YtanecebppagakaaGreatDoorPSxx4
namespace Go.Proofs.YtanecebppagakaaGreatDoor.PSx
open Go.RowKit Go.Proofs.YtanecebppagakaaGreatDoorW.PrintWords Go.Proofs.YtanecebppagakaaGreatDoorW.PrintLast Go.Proofs.YtanecebppagakaaGreatDoorW.PrintMore
attribute [local go_sem] max2_int min2_int max_two min_two max_three min_three max_four min_four
set_option linter.unusedVariables false
set_option maxHeartbeats 8000000
set_option maxRecDepth 100000
set_option linter.unusedSimpArgs false
mutual
def bsoncore_ReadElement.l0 : Nat → List Int → Int → Int → Option (List Int × List Int × Bool)
  | 0, _, _, _ => none
  | k + 1, x0, x5, x6 => if x6 < (x0.length : Int) then (if 0 ≤ x6 then (bsoncore_ReadElement.j1 k x0 x5 x6 ((rd x0 x6) != 0)) else (none)) else (bsoncore_ReadElement.j1 k x0 x5 x6 false)
def bsoncore_ReadElement.j1 : Nat → List Int → Int → Int → Bool → Option (List Int × List Int × Bool)
  | 0, _, _, _, _ => none
  | k + 1, x0, x5, x6, x27 => if x27 = true then (bsoncore_ReadElement.l0 k x0 x5 (wrap64 (x6 + 1))) else (if x6 ≥ (x0.length : Int) then (some (([] : List Int), x0, false)) else (if 0 ≤ (wrap64 (x6 + 1)) then (if (wrap64 (x6 + 1)) ≤ (x0.length : Int) then ((bsoncore_valueLength.f k (x0.drop ((wrap64 (x6 + 1)) : Int).toNat) x5).bind fun bt294 => (if bt294.2 = true then (if (wrap64 ((wrap64 (x6 + 1)) + (wrap64 (bt294.1)))) > (x0.length : Int) then (some (([] : List Int), x0, false)) else (if 0 ≤ (wrap64 ((wrap64 (x6 + 1)) + (wrap64 (bt294.1)))) then (if (wrap64 ((wrap64 (x6 + 1)) + (wrap64 (bt294.1)))) ≤ (x0.length : Int) then (some ((x0.take ((wrap64 ((wrap64 (x6 + 1)) + (wrap64 (bt294.1)))) : Int).toNat), (x0.drop ((wrap64 ((wrap64 (x6 + 1)) + (wrap64 (bt294.1)))) : Int).toNat), true)) else (none)) else (none))) else (some (([] : List Int), x0, false)))) else (none)) else (none)))
end
def bsoncore_ReadElement.f (k : Nat) (l0 : List Int) : Option (List Int × List Int × Bool) := if (l0.length : Int) < 1 then (some (([] : List Int), l0, false)) else (if 0 < (l0.length : Int) then (bsoncore_ReadElement.l0 k l0 (rd l0 0) 1) else (none))
theorem bsoncore_ReadElement.mono_l : ∀ k, (∀ y0 y1 y2, LeO (bsoncore_ReadElement.l0 k y0 y1 y2) (bsoncore_ReadElement.l0 (k + 1) y0 y1 y2)) ∧ (∀ y0 y1 y2 y3, LeO (bsoncore_ReadElement.j1 k y0 y1 y2 y3) (bsoncore_ReadElement.j1 (k + 1) y0 y1 y2 y3))
  | 0 => ⟨fun _ _ _ r h => by simp [bsoncore_ReadElement.l0] at h, fun _ _ _ _ r h => by simp [bsoncore_ReadElement.j1] at h⟩
  | k + 1 => by
    obtain ⟨ih0, ih1⟩ := bsoncore_ReadElement.mono_l k
    refine ⟨?_, ?_⟩
    · intro y0 y1 y2
      unfold bsoncore_ReadElement.l0
      have m0_ := @ih0; have m1_ := @ih1; have m2_ := @bsoncore_valueLength.mono; exact HW.mo
    · intro y0 y1 y2 y3
      unfold bsoncore_ReadElement.j1
      have m0_ := @ih0; have m1_ := @ih1; have m2_ := @bsoncore_valueLength.mono; exact HW.mo
theorem bsoncore_ReadElement.mono : ∀ a0 k, LeO (bsoncore_ReadElement.f k a0) (bsoncore_ReadElement.f (k + 1) a0) := by
  intro a0 k
  obtain ⟨ih0, ih1⟩ := bsoncore_ReadElement.mono_l k
  unfold bsoncore_ReadElement.f
  have m0_ := @ih0; have m1_ := @ih1; have m2_ := @bsoncore_valueLength.mono; exact HW.mo
theorem bsoncore_ReadElement.calls (k : Nat) (P0_ : Nat → Prop) (A0 : Option Addr) (c0 : Nat) (l0 : List Int) (r1 : List Int) (r2 : List Int) (r3 : Bool) (w : World) (hs0 : Kd.V (Kd.int .u8) 5 w w.heap.size (fun k_ => P0_ k_) (.slice A0 l0.length c0) l0) (h : bsoncore_ReadElement.f k l0 = some (r1, r2, r3)) :
    Calls Tryz.prog 91 #[.slice A0 l0.length c0] w fun e w' => ∃ v0_ v1_ : Value, e = .returned (.tuple #[v0_, v1_, .bool r3]) ∧ Kd.V (Kd.int .u8) 5 w' w.heap.size (fun k_ => (P0_ k_ ∨ w.heap.size ≤ k_)) v0_ r1 ∧ Kd.V (Kd.int .u8) 5 w' w.heap.size (fun k_ => (P0_ k_ ∨ w.heap.size ≤ k_)) v1_ r2 ∧ Below w.heap.size w w' := by
  have HO0 := Aside0.mk (show Kd.V (Kd.int .u8) 5 w w.heap.size (fun k_ => (P0_ k_ ∨ w.heap.size ≤ k_)) (.slice A0 l0.length c0) l0 from Kd.V_mono hs0 (fun k_ hk => .inl hk)); have HB := Aside0.mk (Below.refl w.heap.size w); have H : (if (l0.length : Int) < 1 then (some (([] : List Int), l0, false)) else (if 0 < (l0.length : Int) then (bsoncore_ReadElement.l0 k l0 (rd l0 0) 1) else (none))) = some (r1, r2, r3) := h; clear h
  by_cases c2 : (l0.length : Int) < 1
  · rw [if_pos c2] at H
    have c2b0 : decide ((l0.length : Int) < 1) = true := decide_eq_true c2
    have c2b1 : decide (l0.length < 1) = true := decide_eq_true (by omega)
    clear c2
    as_aux_lemma =>
      simp only [Option.some.injEq, Prod.mk.injEq] at H
      obtain ⟨rfl, rfl, rfl⟩ := H
      go_enter Tryz.func91, Tryz.ntmps91
      go_wp2
      repeat (go_quiet (fail); try go_wp2)
      go_ret3
      exact ⟨_, _, rfl, Kd.V_nil _ _ _ _ _, HW.zV HO0.out, HW.zb⟩
  rw [if_neg c2] at H; have c2b0 : decide ((l0.length : Int) < 1) = false := decide_eq_false c2
  have c2b1 : decide (l0.length < 1) = false := decide_eq_false (by omega)
  clear c2
  by_cases c3 : 0 < (l0.length : Int)
  rotate_left
  · rw [if_neg c3] at H
    exact absurd H (by simp)
  rw [if_pos c3] at H; have c3b0 : decide (0 < (l0.length : Int)) = true := decide_eq_true c3
  have c3b1 : decide (0 < l0.length) = true := decide_eq_true (by omega)
  clear c3; have H' := Aside0.mk H; clear H
  have p287 : 0 ≤ (0 : Int) := (by omega)
  have q287 : 0 < (l0.length : Int) := HW.od
  obtain ⟨ad287, e287, hx287_0⟩ := Kd.at_int (Kd.V_reads' HO0.out).2.2 0 p287 q287
  cases e287
  have qi287 : (0 < l0.length) = True := eq_true (by omega)
  (try rw [show ((0 : Int)).toNat = 0 from rfl] at hx287_0)
  (try rw [Addr.add_zero'] at hx287_0)
  replace p287 := eq_true p287; replace q287 := eq_true q287
  go_enter Tryz.func91, Tryz.ntmps91
  go_wp2
  repeat (go_quiet (fail); try go_wp2)
  go_loopg [6] k (fun kq v6 w' => ∃ (x6_1 : Int), v6 = .int .i64 x6_1 ∧ Aside0 (bsoncore_ReadElement.l0 kq l0 (rd l0 0) x6_1 = some (r1, r2, r3)) ∧ Aside0 (kq ≤ k) ∧ Aside0 (Kd.V (Kd.int .u8) 5 w' w.heap.size (fun k_ => (P0_ k_ ∨ w.heap.size ≤ k_)) (.slice (some ad287) l0.length c0) l0) ∧ Aside0 (Below w.heap.size w w'))
  case atStart => exact ⟨(1), HW.rs, H', ⟨Nat.le_refl _⟩, ⟨HW.zV HO0.out⟩, ⟨HW.zb⟩⟩
  case round =>
    clear H'
    (try clear c2); (try clear c2b0); (try clear c2b1); (try clear p2); (try clear q2); (try clear hx2); (try clear qi2); (try clear c3); (try clear c3b0); (try clear c3b1); (try clear hx287_0); (try clear p287); (try clear q287)
    obtain ⟨x6_1, rfl, HA, HK1, HO_0, HB⟩ := hrel
    cases gk with
    | zero => exact absurd HA.out (by simp [bsoncore_ReadElement.l0])
    | succ k1 =>
      have H := HA.out; clear HA
      simp only [bsoncore_ReadElement.l0] at H
      have HC4 := Aside0.mk H; clear H
      go_upto_region 5 with (fail)
      repeat (go_quiet (fail); go_upto_region 5 with (fail))
      go_cut [27] (fun v27 wc => ∃ (kq : Nat) (x27_3 : Bool), v27 = .bool x27_3 ∧ Aside0 (bsoncore_ReadElement.j1 kq l0 (rd l0 0) x6_1 x27_3 = some (r1, r2, r3)) ∧ Aside0 (kq ≤ k1) ∧ Aside0 (Kd.V (Kd.int .u8) 5 wc w.heap.size (fun k_ => (P0_ k_ ∨ w.heap.size ≤ k_)) (.slice (some ad287) l0.length c0) l0) ∧ Aside0 (Below w.heap.size w wc))
      case first =>
        have H := HC4.out; clear HC4
        by_cases c5 : x6_1 < (l0.length : Int)
        rotate_left
        · rw [if_neg c5] at H
          have c5b0 : decide (x6_1 < (l0.length : Int)) = false := decide_eq_false c5; clear c5
          (first | rw [c5b0] | (simp only [i64_w, i32_w]; rw [c5b0]) | skip)
          as_aux_lemma =>
            have H' := Aside0.mk H; clear H
            go_wp2
            repeat (go_quiet (fail); try go_wp2)
            go_meet
            case rel => exact ⟨_, (false), HW.rs, H', ⟨by have := HK1.out; first | omega | exact Nat.le_refl _⟩, ⟨HW.zV HO_0.out⟩, ⟨HW.zb⟩⟩
        rw [if_pos c5] at H; have c5b0 : decide (x6_1 < (l0.length : Int)) = true := decide_eq_true c5; clear c5
        (first | rw [c5b0] | (simp only [i64_w, i32_w]; rw [c5b0]) | skip)
        by_cases c6 : 0 ≤ x6_1
        rotate_left
        · rw [if_neg c6] at H
          exact absurd H (by simp)
        rw [if_pos c6] at H; have c6b0 : decide (0 ≤ x6_1) = true := decide_eq_true c6; clear c6
        as_aux_lemma =>
          have H' := Aside0.mk H; clear H
          have p288 : 0 ≤ (x6_1 : Int) := HW.od
          have q288 : x6_1 < (l0.length : Int) := HW.od
          obtain ⟨ad288, e288, hx288_0⟩ := Kd.at_int (Kd.V_reads' HO_0.out).2.2 x6_1 p288 q288
          obtain rfl : ad287 = ad288 := (by injection e288)
          replace p288 := eq_true p288; replace q288 := eq_true q288
          go_wp2
          repeat (go_quiet (fail); try go_wp2)
          go_meet
          case rel => exact ⟨_, (((rd l0 x6_1) != 0)), HW.rs, H', ⟨by have := HK1.out; first | omega | exact Nat.le_refl _⟩, ⟨HW.zV HO_0.out⟩, ⟨HW.zb⟩⟩
      case rest =>
        clear HC4
        (try clear c2); (try clear c2b0); (try clear c2b1); (try clear p2); (try clear q2); (try clear hx2); (try clear qi2); (try clear c3); (try clear c3b0); (try clear c3b1); (try clear c5); (try clear c5b0); (try clear c6); (try clear c6b0); (try clear hx287_0); (try clear hx288_0); (try clear p2); (try clear p287); (try clear p288); (try clear q2); (try clear q287); (try clear q288)
        obtain ⟨kq, x27_3, rfl, HA, HJ3, HO_0, HB⟩ := hcut
        cases kq with
        | zero => exact absurd HA.out (by simp [bsoncore_ReadElement.j1])
        | succ kj3 =>
          have H := HA.out; clear HA
          simp only [bsoncore_ReadElement.j1] at H
          by_cases c7 : x27_3 = true
          · subst c7
            have H1 : (bsoncore_ReadElement.l0 kj3 l0 (rd l0 0) (wrap64 (x6_1 + 1))) = some (r1, r2, r3) := by rw [if_pos rfl] at H; exact H
            clear H; have H := H1; clear H1
            as_aux_lemma =>
              have H' := Aside0.mk H; clear H
              go_wp2
              repeat (go_quiet (fail); try go_wp2)
              go_roundg kj3
              case measure => have := HK1.out; have := HJ3.out; omega
              case rel => exact ⟨(wrap64 (x6_1 + 1)), HW.rs, H', ⟨by have := HK1.out; have := HJ3.out; omega⟩, ⟨HW.zV HO_0.out⟩, ⟨HW.zb⟩⟩
          replace c7 := Bool.eq_false_iff.mpr c7; subst c7
          have H1 : (if x6_1 ≥ (l0.length : Int) then (some (([] : List Int), l0, false)) else (if 0 ≤ (wrap64 (x6_1 + 1)) then (if (wrap64 (x6_1 + 1)) ≤ (l0.length : Int) then ((bsoncore_valueLength.f kj3 (l0.drop ((wrap64 (x6_1 + 1)) : Int).toNat) (rd l0 0)).bind fun bt294 => (if bt294.2 = true then (if (wrap64 ((wrap64 (x6_1 + 1)) + (wrap64 (bt294.1)))) > (l0.length : Int) then (some (([] : List Int), l0, false)) else (if 0 ≤ (wrap64 ((wrap64 (x6_1 + 1)) + (wrap64 (bt294.1)))) then (if (wrap64 ((wrap64 (x6_1 + 1)) + (wrap64 (bt294.1)))) ≤ (l0.length : Int) then (some ((l0.take ((wrap64 ((wrap64 (x6_1 + 1)) + (wrap64 (bt294.1)))) : Int).toNat), (l0.drop ((wrap64 ((wrap64 (x6_1 + 1)) + (wrap64 (bt294.1)))) : Int).toNat), true)) else (none)) else (none))) else (some (([] : List Int), l0, false)))) else (none)) else (none))) = some (r1, r2, r3) := by rw [if_neg (show ¬ (false = true) by decide)] at H; exact H
          clear H; have H := H1; clear H1
          by_cases c8 : x6_1 ≥ (l0.length : Int)
          · rw [if_pos c8] at H
            have c8b0 : decide ((l0.length : Int) ≤ x6_1) = true := decide_eq_true c8; clear c8
            as_aux_lemma =>
              simp only [Option.some.injEq, Prod.mk.injEq] at H
              obtain ⟨rfl, rfl, rfl⟩ := H
              go_wp2
              repeat (go_quiet (fail); try go_wp2)
              go_ret3
              exact ⟨_, _, rfl, Kd.V_nil _ _ _ _ _, HW.zV HO_0.out, HW.zb⟩
          rw [if_neg c8] at H; have c8b0 : decide ((l0.length : Int) ≤ x6_1) = false := decide_eq_false c8; clear c8; obtain ⟨ji9, hji9⟩ : ∃ j_ : Int, (wrap64 (x6_1 + 1)) = j_ := ⟨_, rfl⟩
          replace H : (if 0 ≤ (ji9) then (if (ji9) ≤ (l0.length : Int) then ((bsoncore_valueLength.f kj3 (l0.drop ((ji9) : Int).toNat) (rd l0 0)).bind fun bt294 => (if bt294.2 = true then (if (wrap64 ((ji9) + (wrap64 (bt294.1)))) > (l0.length : Int) then (some (([] : List Int), l0, false)) else (if 0 ≤ (wrap64 ((ji9) + (wrap64 (bt294.1)))) then (if (wrap64 ((ji9) + (wrap64 (bt294.1)))) ≤ (l0.length : Int) then (some ((l0.take ((wrap64 ((ji9) + (wrap64 (bt294.1)))) : Int).toNat), (l0.drop ((wrap64 ((ji9) + (wrap64 (bt294.1)))) : Int).toNat), true)) else (none)) else (none))) else (some (([] : List Int), l0, false)))) else (none)) else (none)) = some (r1, r2, r3) := by first | (rw [hji9] at H; exact H) | (simp only [hji9] at H ⊢; exact H)
          have hji9w : (IntKind.i64.wrap (x6_1 + 1)) = ji9 := (i64_w _).trans hji9
          by_cases c10 : 0 ≤ (ji9)
          rotate_left
          · rw [if_neg c10] at H
            exact absurd H (by simp)
          rw [if_pos c10] at H; have c10b0 := eq_true c10; have c10b1 : decide (0 ≤ (ji9)) = true := decide_eq_true c10; clear c10
          by_cases c11 : (ji9) ≤ (l0.length : Int)
          rotate_left
          · rw [if_neg c11] at H
            exact absurd H (by simp)
          rw [if_pos c11] at H; have c11b0 := eq_true c11; have c11b1 : decide ((ji9) ≤ (l0.length : Int)) = true := decide_eq_true c11; clear c11; obtain ⟨y289, hy289⟩ : ∃ y_ : List Int, y_ = (l0.drop ((ji9) : Int).toNat) := ⟨_, rfl⟩
          replace H : ((bsoncore_valueLength.f kj3 y289 (rd l0 0)).bind fun bt294 => (if bt294.2 = true then (if (wrap64 ((ji9) + (wrap64 (bt294.1)))) > (l0.length : Int) then (some (([] : List Int), l0, false)) else (if 0 ≤ (wrap64 ((ji9) + (wrap64 (bt294.1)))) then (if (wrap64 ((ji9) + (wrap64 (bt294.1)))) ≤ (l0.length : Int) then (some ((l0.take ((wrap64 ((ji9) + (wrap64 (bt294.1)))) : Int).toNat), (l0.drop ((wrap64 ((ji9) + (wrap64 (bt294.1)))) : Int).toNat), true)) else (none)) else (none))) else (some (([] : List Int), l0, false)))) = some (r1, r2, r3) := by (try rw [hy289]); exact HW.rp
          have Ny289 := Aside0.mk hy289; clear hy289; replace H := Option.bind_eq_some_iff.mp H; obtain ⟨⟨t294, t295⟩, A120, H⟩ := H; replace H : (if t295 = true then (if (wrap64 ((ji9) + (wrap64 (t294)))) > (l0.length : Int) then (some (([] : List Int), l0, false)) else (if 0 ≤ (wrap64 ((ji9) + (wrap64 (t294)))) then (if (wrap64 ((ji9) + (wrap64 (t294)))) ≤ (l0.length : Int) then (some ((l0.take ((wrap64 ((ji9) + (wrap64 (t294)))) : Int).toNat), (l0.drop ((wrap64 ((ji9) + (wrap64 (t294)))) : Int).toNat), true)) else (none)) else (none))) else (some (([] : List Int), l0, false))) = some (r1, r2, r3) := H; have A12 := Aside0.mk A120; clear A120
          by_cases c13 : t295 = true
          rotate_left
          · replace c13 := Bool.eq_false_iff.mpr c13
            subst c13
            have H1 : (some (([] : List Int), l0, false)) = some (r1, r2, r3) := by rw [if_neg (show ¬ (false = true) by decide)] at H; exact H
            clear H; have H := H1; clear H1
            as_aux_lemma =>
              simp only [Option.some.injEq, Prod.mk.injEq] at H
              obtain ⟨rfl, rfl, rfl⟩ := H
              have q26 : ((ji9) : Int) ≤ ((l0.length : Int) : Int) := HW.od
              obtain ⟨i026, hi026, _, hsz26, _⟩ := info_parts info5; have hroom26 : l0.length ≤ c0 := (Kd.V_reads' HO_0.out).2.1; have hC26 : Kd.F (Kd.int .u8) _ _ (some ad287) l0.length l0 := (Kd.V_at (base := w.heap.size) HO_0.out).2.2
              have q026 : (0 : Int) ≤ ((ji9) : Int) := HW.od
              have hcut26 := cut_from (P := Tryz.prog) 22 5 .i64 Tryz.underlying22 hi026 1 hsz26 (some ad287) l0.length c0 (ji9) q026 q26
              have hr26 := Kd.F_cut (m := ((ji9) : Int).toNat) (c := c0) hC26 (by omega) hroom26
              obtain ⟨A26, hA26⟩ : ∃ A1, A1 = (if c0 = ((ji9) : Int).toNat then (some ad287) else ((some ad287) : Option Addr).map (·.add (((ji9) : Int).toNat * 1))) := ⟨_, rfl⟩; obtain ⟨c26, hc26⟩ : ∃ c1, c1 = c0 - ((ji9) : Int).toNat := ⟨_, rfl⟩
              have hy26 : y289.length = l0.length - ((ji9) : Int).toNat := (by rw [Ny289.out, List.length_drop] <;> omega)
              rw [show (l0).drop ((ji9) : Int).toNat = y289 from Ny289.out.symm] at hr26
              replace hr26 : Kd.F (Kd.int .u8) _ _ A26 y289.length y289 := (by rw [hA26]; exact hr26)
              rw [← hy26, ← hA26, ← hc26] at hcut26
              have HO293 := Aside0.mk (show Kd.V (Kd.int .u8) 5 _ w.heap.size _ (.slice A26 y289.length c26) y289 from Kd.V_mk (by rw [hy26, hc26]; exact Nat.sub_le_sub_right hroom26 _) hr26)
              have HC293 := Aside0.mk (show y289.length ≤ c26 from by rw [hy26, hc26]; exact Nat.sub_le_sub_right hroom26 _)
              clear hr26 hC26 hroom26 hi026 hsz26 hc26; have KY26 := Aside0.mk hy26; have KA26 := Aside0.mk hA26; clear hy26 hA26; replace q26 := eq_true q26
              go_wp2_with (first | (go_at_call 107; (with_reducible refine (bsoncore_valueLength.calls kj3 _ _ y289 (rd l0 0) t294 false _ ?side1 ?side2 A12.out).mono ?_); (case side1 => repeat (first | exact (Kd.V_reads' HO293.out).2.2 | (with_reducible refine Kd.C_alloc ?_ _) | (with_reducible refine Kd.C_drewN ?_ _) | (with_reducible refine Kd.C_drew ?_))); (case side2 => exact (Kd.V_reads' HO293.out).2.1); rintro e w27 ⟨rfl, hb⟩; replace HO_0 := Aside0.mk (Kd.V_below (HW.zV HO_0.out) hb); replace HO293 := Aside0.mk (Kd.V_below (HW.zV HO293.out) hb); replace HB := Aside0.mk (below_step HW.zb hb); (try clear hb)))
              repeat (go_quiet (fail); try go_wp2)
              go_ret3
              exact ⟨_, _, by first | rfl | (simp [errW_none, errW_some] <;> rfl) | (simp only [← hji9]; first | rfl | (simp [errW_none, errW_some] <;> rfl)) | (simp [*, errW_none, errW_some] <;> rfl), Kd.V_nil _ _ _ _ _, HW.zV HO_0.out, HW.zb⟩
          subst c13
          have H1 : (if (wrap64 ((ji9) + (wrap64 (t294)))) > (l0.length : Int) then (some (([] : List Int), l0, false)) else (if 0 ≤ (wrap64 ((ji9) + (wrap64 (t294)))) then (if (wrap64 ((ji9) + (wrap64 (t294)))) ≤ (l0.length : Int) then (some ((l0.take ((wrap64 ((ji9) + (wrap64 (t294)))) : Int).toNat), (l0.drop ((wrap64 ((ji9) + (wrap64 (t294)))) : Int).toNat), true)) else (none)) else (none))) = some (r1, r2, r3) := by rw [if_pos rfl] at H; exact H
          clear H; have H := H1; clear H1
          by_cases c14 : (wrap64 ((ji9) + (wrap64 (t294)))) > (l0.length : Int)
          · rw [if_pos c14] at H
            have c14b0 : decide ((l0.length : Int) < (wrap64 ((ji9) + (wrap64 (t294))))) = true := decide_eq_true c14; clear c14
            as_aux_lemma =>
              simp only [Option.some.injEq, Prod.mk.injEq] at H
              obtain ⟨rfl, rfl, rfl⟩ := H
              have q15 : ((ji9) : Int) ≤ ((l0.length : Int) : Int) := HW.od
              obtain ⟨i015, hi015, _, hsz15, _⟩ := info_parts info5; have hroom15 : l0.length ≤ c0 := (Kd.V_reads' HO_0.out).2.1; have hC15 : Kd.F (Kd.int .u8) _ _ (some ad287) l0.length l0 := (Kd.V_at (base := w.heap.size) HO_0.out).2.2
              have q015 : (0 : Int) ≤ ((ji9) : Int) := HW.od
              have hcut15 := cut_from (P := Tryz.prog) 22 5 .i64 Tryz.underlying22 hi015 1 hsz15 (some ad287) l0.length c0 (ji9) q015 q15
              have hr15 := Kd.F_cut (m := ((ji9) : Int).toNat) (c := c0) hC15 (by omega) hroom15
              obtain ⟨A15, hA15⟩ : ∃ A1, A1 = (if c0 = ((ji9) : Int).toNat then (some ad287) else ((some ad287) : Option Addr).map (·.add (((ji9) : Int).toNat * 1))) := ⟨_, rfl⟩; obtain ⟨c15, hc15⟩ : ∃ c1, c1 = c0 - ((ji9) : Int).toNat := ⟨_, rfl⟩
              have hy15 : y289.length = l0.length - ((ji9) : Int).toNat := (by rw [Ny289.out, List.length_drop] <;> omega)
              rw [show (l0).drop ((ji9) : Int).toNat = y289 from Ny289.out.symm] at hr15
              replace hr15 : Kd.F (Kd.int .u8) _ _ A15 y289.length y289 := (by rw [hA15]; exact hr15)
              rw [← hy15, ← hA15, ← hc15] at hcut15
              have HO293 := Aside0.mk (show Kd.V (Kd.int .u8) 5 _ w.heap.size _ (.slice A15 y289.length c15) y289 from Kd.V_mk (by rw [hy15, hc15]; exact Nat.sub_le_sub_right hroom15 _) hr15)
              have HC293 := Aside0.mk (show y289.length ≤ c15 from by rw [hy15, hc15]; exact Nat.sub_le_sub_right hroom15 _)
              clear hr15 hC15 hroom15 hi015 hsz15 hc15; have KY15 := Aside0.mk hy15; have KA15 := Aside0.mk hA15; clear hy15 hA15; replace q15 := eq_true q15
              go_wp2_with (first | (go_at_call 107; (with_reducible refine (bsoncore_valueLength.calls kj3 _ _ y289 (rd l0 0) t294 true _ ?side1 ?side2 A12.out).mono ?_); (case side1 => repeat (first | exact (Kd.V_reads' HO293.out).2.2 | (with_reducible refine Kd.C_alloc ?_ _) | (with_reducible refine Kd.C_drewN ?_ _) | (with_reducible refine Kd.C_drew ?_))); (case side2 => exact (Kd.V_reads' HO293.out).2.1); rintro e w16 ⟨rfl, hb⟩; replace HO_0 := Aside0.mk (Kd.V_below (HW.zV HO_0.out) hb); replace HO293 := Aside0.mk (Kd.V_below (HW.zV HO293.out) hb); replace HB := Aside0.mk (below_step HW.zb hb); (try clear hb)))
              repeat (go_quiet (fail); try go_wp2)
              go_ret3
              exact ⟨_, _, by first | rfl | (simp [errW_none, errW_some] <;> rfl) | (simp only [← hji9]; first | rfl | (simp [errW_none, errW_some] <;> rfl)) | (simp [*, errW_none, errW_some] <;> rfl), Kd.V_nil _ _ _ _ _, HW.zV HO_0.out, HW.zb⟩
          rw [if_neg c14] at H; have c14b0 : decide ((l0.length : Int) < (wrap64 ((ji9) + (wrap64 (t294))))) = false := decide_eq_false c14; clear c14; obtain ⟨ji17, hji17⟩ : ∃ j_ : Int, (wrap64 ((ji9) + (wrap64 (t294)))) = j_ := ⟨_, rfl⟩
          replace H : (if 0 ≤ (ji17) then (if (ji17) ≤ (l0.length : Int) then (some ((l0.take ((ji17) : Int).toNat), (l0.drop ((ji17) : Int).toNat), true)) else (none)) else (none)) = some (r1, r2, r3) := by first | (rw [hji17] at H; exact H) | (simp only [hji17] at H ⊢; exact H)
          (try rw [hji17] at c14b0)
          (try rw [hji17] at A12)
          have hji17w : (IntKind.i64.wrap ((ji9) + (wrap64 (t294)))) = ji17 := (i64_w _).trans hji17
          by_cases c18 : 0 ≤ (ji17)
          rotate_left
          · rw [if_neg c18] at H
            exact absurd H (by simp)
          rw [if_pos c18] at H; have c18b0 := eq_true c18; have c18b1 : decide (0 ≤ (ji17)) = true := decide_eq_true c18; clear c18
          by_cases c19 : (ji17) ≤ (l0.length : Int)
          rotate_left
          · rw [if_neg c19] at H
            exact absurd H (by simp)
          rw [if_pos c19] at H; have c19b0 := eq_true c19; have c19b1 : decide ((ji17) ≤ (l0.length : Int)) = true := decide_eq_true c19; clear c19; obtain ⟨y296, hy296⟩ : ∃ y_ : List Int, y_ = (l0.take ((ji17) : Int).toNat) := ⟨_, rfl⟩
          replace H : (some (y296, (l0.drop ((ji17) : Int).toNat), true)) = some (r1, r2, r3) := by (try rw [hy296]); exact HW.rp
          have Ny296 := Aside0.mk hy296; clear hy296
          have c20b0 := eq_true (HW.od : 0 ≤ (ji17))
          have c21b0 := eq_true (HW.od : (ji17) ≤ (l0.length : Int))
          obtain ⟨y301, hy301⟩ : ∃ y_ : List Int, y_ = (l0.drop ((ji17) : Int).toNat) := ⟨_, rfl⟩
          replace H : (some (y296, y301, true)) = some (r1, r2, r3) := by (try rw [hy301]); exact HW.rp
          have Ny301 := Aside0.mk hy301; clear hy301
          as_aux_lemma =>
            simp only [Option.some.injEq, Prod.mk.injEq] at H
            obtain ⟨rfl, rfl, rfl⟩ := H
            have q22 : ((ji9) : Int) ≤ ((l0.length : Int) : Int) := HW.od
            obtain ⟨i022, hi022, _, hsz22, _⟩ := info_parts info5; have hroom22 : l0.length ≤ c0 := (Kd.V_reads' HO_0.out).2.1; have hC22 : Kd.F (Kd.int .u8) _ _ (some ad287) l0.length l0 := (Kd.V_at (base := w.heap.size) HO_0.out).2.2
            have q022 : (0 : Int) ≤ ((ji9) : Int) := HW.od
            have hcut22 := cut_from (P := Tryz.prog) 22 5 .i64 Tryz.underlying22 hi022 1 hsz22 (some ad287) l0.length c0 (ji9) q022 q22
            have hr22 := Kd.F_cut (m := ((ji9) : Int).toNat) (c := c0) hC22 (by omega) hroom22
            obtain ⟨A22, hA22⟩ : ∃ A1, A1 = (if c0 = ((ji9) : Int).toNat then (some ad287) else ((some ad287) : Option Addr).map (·.add (((ji9) : Int).toNat * 1))) := ⟨_, rfl⟩; obtain ⟨c22, hc22⟩ : ∃ c1, c1 = c0 - ((ji9) : Int).toNat := ⟨_, rfl⟩
            have hy22 : y289.length = l0.length - ((ji9) : Int).toNat := (by rw [Ny289.out, List.length_drop] <;> omega)
            rw [show (l0).drop ((ji9) : Int).toNat = y289 from Ny289.out.symm] at hr22
            replace hr22 : Kd.F (Kd.int .u8) _ _ A22 y289.length y289 := (by rw [hA22]; exact hr22)
            rw [← hy22, ← hA22, ← hc22] at hcut22
            have HO293 := Aside0.mk (show Kd.V (Kd.int .u8) 5 _ w.heap.size _ (.slice A22 y289.length c22) y289 from Kd.V_mk (by rw [hy22, hc22]; exact Nat.sub_le_sub_right hroom22 _) hr22)
            have HC293 := Aside0.mk (show y289.length ≤ c22 from by rw [hy22, hc22]; exact Nat.sub_le_sub_right hroom22 _)
            clear hr22 hC22 hroom22 hi022 hsz22 hc22; have KY22 := Aside0.mk hy22; have KA22 := Aside0.mk hA22; clear hy22 hA22; replace q22 := eq_true q22
            go_wp2_with (first | (go_at_call 107; (with_reducible refine (bsoncore_valueLength.calls kj3 _ _ y289 (rd l0 0) t294 true _ ?side1 ?side2 A12.out).mono ?_); (case side1 => repeat (first | exact (Kd.V_reads' HO293.out).2.2 | (with_reducible refine Kd.C_alloc ?_ _) | (with_reducible refine Kd.C_drewN ?_ _) | (with_reducible refine Kd.C_drew ?_))); (case side2 => exact (Kd.V_reads' HO293.out).2.1); rintro e w23 ⟨rfl, hb⟩; replace HO_0 := Aside0.mk (Kd.V_below (HW.zV HO_0.out) hb); replace HO293 := Aside0.mk (Kd.V_below (HW.zV HO293.out) hb); replace HB := Aside0.mk (below_step HW.zb hb); (try clear hb); have q24 : ((ji17) : Int) ≤ ((l0.length : Int) : Int) := HW.od; obtain ⟨i024, hi024, _, hsz24, _⟩ := info_parts info5; have hroom24 : l0.length ≤ c0 := (Kd.V_reads' HO_0.out).2.1; have hC24 : Kd.F (Kd.int .u8) _ _ (some ad287) l0.length l0 := (Kd.V_at (base := w.heap.size) HO_0.out).2.2; have hcut24 := cut_to (P := Tryz.prog) 22 5 .i64 Tryz.underlying22 hi024 (some ad287) l0.length c0 (ji17) (HW.od) q24 hroom24; have hr24 := Kd.F_take (m := ((ji17) : Int).toNat) hC24 (by omega); have hy24 : y296.length = ((ji17) : Int).toNat := (by rw [Ny296.out, List.length_take]; omega); rw [← Ny296.out] at hr24; rw [← hy24] at hcut24; have HO300 := Aside0.mk (show Kd.V (Kd.int .u8) 5 _ w.heap.size _ (.slice (some ad287) y296.length c0) y296 from Kd.V_mk (by omega) hr24); have HC300 := Aside0.mk (show y296.length ≤ c0 from by omega); clear hr24 hC24 hroom24 hi024 hsz24; have KY24 := Aside0.mk hy24; clear hy24; replace q24 := eq_true q24; have q25 : ((ji17) : Int) ≤ ((l0.length : Int) : Int) := HW.od; obtain ⟨i025, hi025, _, hsz25, _⟩ := info_parts info5; have hroom25 : l0.length ≤ c0 := (Kd.V_reads' HO_0.out).2.1; have hC25 : Kd.F (Kd.int .u8) _ _ (some ad287) l0.length l0 := (Kd.V_at (base := w.heap.size) HO_0.out).2.2; have q025 : (0 : Int) ≤ ((ji17) : Int) := HW.od; have hcut25 := cut_from (P := Tryz.prog) 22 5 .i64 Tryz.underlying22 hi025 1 hsz25 (some ad287) l0.length c0 (ji17) q025 q25; have hr25 := Kd.F_cut (m := ((ji17) : Int).toNat) (c := c0) hC25 (by omega) hroom25; obtain ⟨A25, hA25⟩ : ∃ A1, A1 = (if c0 = ((ji17) : Int).toNat then (some ad287) else ((some ad287) : Option Addr).map (·.add (((ji17) : Int).toNat * 1))) := ⟨_, rfl⟩; obtain ⟨c25, hc25⟩ : ∃ c1, c1 = c0 - ((ji17) : Int).toNat := ⟨_, rfl⟩; have hy25 : y301.length = l0.length - ((ji17) : Int).toNat := (by rw [Ny301.out, List.length_drop] <;> omega); rw [show (l0).drop ((ji17) : Int).toNat = y301 from Ny301.out.symm] at hr25; replace hr25 : Kd.F (Kd.int .u8) _ _ A25 y301.length y301 := (by rw [hA25]; exact hr25); rw [← hy25, ← hA25, ← hc25] at hcut25; have HO305 := Aside0.mk (show Kd.V (Kd.int .u8) 5 _ w.heap.size _ (.slice A25 y301.length c25) y301 from Kd.V_mk (by rw [hy25, hc25]; exact Nat.sub_le_sub_right hroom25 _) hr25); have HC305 := Aside0.mk (show y301.length ≤ c25 from by rw [hy25, hc25]; exact Nat.sub_le_sub_right hroom25 _); clear hr25 hC25 hroom25 hi025 hsz25 hc25; have KY25 := Aside0.mk hy25; have KA25 := Aside0.mk hA25; clear hy25 hA25; replace q25 := eq_true q25))
            repeat (go_quiet (fail); try go_wp2)
            go_ret3
            exact ⟨_, _, by first | rfl | (simp [errW_none, errW_some] <;> rfl) | (simp only [← hji9, ← hji17]; first | rfl | (simp [errW_none, errW_some] <;> rfl)) | (simp [*, errW_none, errW_some] <;> rfl), HW.zV HO300.out, HW.zV HO305.out, HW.zb⟩
def bsoncore_Element_KeyBytesErr.f (l0 : List Int) : Option (List Int × Option Int) := if (l0.length : Int) = 0 then (none) else (if 1 ≤ (l0.length : Int) then ((bytes_IndexByte.f (l0.drop 1) 0).bind fun t312 => (if t312 = (-1) then (none) else (if 1 ≤ (wrap64 (t312 + 1)) then (if (wrap64 (t312 + 1)) ≤ (l0.length : Int) then (some (((l0.take ((wrap64 (t312 + 1)) : Int).toNat).drop 1), none)) else (none)) else (none)))) else (none))
theorem bsoncore_Element_KeyBytesErr.calls (P0_ : Nat → Prop) (A0 : Option Addr) (c0 : Nat) (l0 : List Int) (r1 : List Int) (r2 : Option Int) (w : World) (hs0 : Kd.V (Kd.int .u8) 5 w w.heap.size (fun k_ => P0_ k_) (.slice A0 l0.length c0) l0) (h : bsoncore_Element_KeyBytesErr.f l0 = some (r1, r2)) :
    Calls Tryz.prog 169 #[.slice A0 l0.length c0] w fun e w' => ∃ v0_ : Value, e = .returned (.tuple #[v0_, errW r2]) ∧ Kd.V (Kd.int .u8) 5 w' w.heap.size (fun k_ => (P0_ k_ ∨ w.heap.size ≤ k_)) v0_ r1 ∧ Below w.heap.size w w' := by
  have hu150 := Tryz.underlying150; have HO0 := Aside0.mk (show Kd.V (Kd.int .u8) 5 w w.heap.size (fun k_ => (P0_ k_ ∨ w.heap.size ≤ k_)) (.slice A0 l0.length c0) l0 from Kd.V_mono hs0 (fun k_ hk => .inl hk)); have HB := Aside0.mk (Below.refl w.heap.size w); have H : (if (l0.length : Int) = 0 then (none) else (if 1 ≤ (l0.length : Int) then ((bytes_IndexByte.f (l0.drop 1) 0).bind fun t312 => (if t312 = (-1) then (none) else (if 1 ≤ (wrap64 (t312 + 1)) then (if (wrap64 (t312 + 1)) ≤ (l0.length : Int) then (some (((l0.take ((wrap64 (t312 + 1)) : Int).toNat).drop 1), none)) else (none)) else (none)))) else (none))) = some (r1, r2) := h; clear h
  by_cases c2 : (l0.length : Int) = 0
  · rw [if_pos c2] at H
    exact absurd H (by simp)
  rw [if_neg c2] at H; have c2b0 : ((l0.length : Int) == 0) = false := beq_eq_false_iff_ne.mpr c2; have c2b1 : ((l0.length : Int) != 0) = true := bne_iff_ne.mpr c2
  have c2b2 : ¬ (l0 = []) := fun h_ => c2 (by rw [h_]; rfl)
  by_cases c3 : 1 ≤ (l0.length : Int)
  rotate_left
  · rw [if_neg c3] at H
    exact absurd H (by simp)
  rw [if_pos c3] at H; have c3b0 := eq_true c3; have c3b1 : decide (1 ≤ (l0.length : Int)) = true := decide_eq_true c3; clear c3; obtain ⟨y307, hy307⟩ : ∃ y_ : List Int, y_ = (l0.drop 1) := ⟨_, rfl⟩
  replace H : ((bytes_IndexByte.f y307 0).bind fun t312 => (if t312 = (-1) then (none) else (if 1 ≤ (wrap64 (t312 + 1)) then (if (wrap64 (t312 + 1)) ≤ (l0.length : Int) then (some (((l0.take ((wrap64 (t312 + 1)) : Int).toNat).drop 1), none)) else (none)) else (none)))) = some (r1, r2) := by (try rw [hy307]); exact HW.rp
  have Ny307 := Aside0.mk hy307; clear hy307; replace H := Option.bind_eq_some_iff.mp H; obtain ⟨t312, A40, H⟩ := H; replace H : (if t312 = (-1) then (none) else (if 1 ≤ (wrap64 (t312 + 1)) then (if (wrap64 (t312 + 1)) ≤ (l0.length : Int) then (some (((l0.take ((wrap64 (t312 + 1)) : Int).toNat).drop 1), none)) else (none)) else (none))) = some (r1, r2) := H; have A4 := Aside0.mk A40; clear A40
  by_cases c5 : t312 = (-1)
  · rw [if_pos c5] at H
    exact absurd H (by simp)
  rw [if_neg c5] at H; have c5b0 : (t312 == (-1)) = false := beq_eq_false_iff_ne.mpr c5; have c5b1 : (t312 != (-1)) = true := bne_iff_ne.mpr c5
  by_cases c6 : 1 ≤ (wrap64 (t312 + 1))
  rotate_left
  · rw [if_neg c6] at H
    exact absurd H (by simp)
  rw [if_pos c6] at H; have c6b0 := eq_true c6; have c6b1 : decide (1 ≤ (wrap64 (t312 + 1))) = true := decide_eq_true c6
  by_cases c7 : (wrap64 (t312 + 1)) ≤ (l0.length : Int)
  rotate_left
  · rw [if_neg c7] at H
    exact absurd H (by simp)
  rw [if_pos c7] at H; have c7b0 := eq_true c7; have c7b1 : decide ((wrap64 (t312 + 1)) ≤ (l0.length : Int)) = true := decide_eq_true c7; obtain ⟨y313, hy313⟩ : ∃ y_ : List Int, y_ = ((l0.take ((wrap64 (t312 + 1)) : Int).toNat).drop 1) := ⟨_, rfl⟩
  replace H : (some (y313, none)) = some (r1, r2) := by (try rw [hy313]); exact HW.rp
  have Ny313 := Aside0.mk hy313; clear hy313
  as_aux_lemma =>
    simp only [Option.some.injEq, Prod.mk.injEq] at H
    obtain ⟨rfl, rfl⟩ := H
    have q8 : (1 : Int) ≤ ((l0.length : Int) : Int) := HW.od
    obtain ⟨i08, hi08, _, hsz8, _⟩ := info_parts info5; have hroom8 : l0.length ≤ c0 := (Kd.V_reads' HO0.out).2.1; have hC8 : Kd.F (Kd.int .u8) _ _ A0 l0.length l0 := (Kd.V_at (base := w.heap.size) HO0.out).2.2
    have hcut8 := cut_from (P := Tryz.prog) 145 5 .i64 Tryz.underlying145 hi08 1 hsz8 A0 l0.length c0 1 (by omega) q8
    have hr8 := Kd.F_cut (m := (1 : Int).toNat) (c := c0) hC8 (by omega) hroom8
    obtain ⟨A8, hA8⟩ : ∃ A1, A1 = (if c0 = (1 : Int).toNat then A0 else (A0 : Option Addr).map (·.add ((1 : Int).toNat * 1))) := ⟨_, rfl⟩; obtain ⟨c8, hc8⟩ : ∃ c1, c1 = c0 - (1 : Int).toNat := ⟨_, rfl⟩
    have hy8 : y307.length = l0.length - (1 : Int).toNat := (by rw [Ny307.out, List.length_drop] <;> omega)
    rw [show (l0).drop (1 : Int).toNat = y307 from Ny307.out.symm] at hr8
    replace hr8 : Kd.F (Kd.int .u8) _ _ A8 y307.length y307 := (by rw [hA8]; exact hr8)
    rw [← hy8, ← hA8, ← hc8] at hcut8
    have HO311 := Aside0.mk (show Kd.V (Kd.int .u8) 5 _ w.heap.size _ (.slice A8 y307.length c8) y307 from Kd.V_mk (by rw [hy8, hc8]; exact Nat.sub_le_sub_right hroom8 _) hr8)
    have HC311 := Aside0.mk (show y307.length ≤ c8 from by rw [hy8, hc8]; exact Nat.sub_le_sub_right hroom8 _)
    clear hr8 hC8 hroom8 hi08 hsz8 hc8; have KY8 := Aside0.mk hy8; have KA8 := Aside0.mk hA8; clear hy8 hA8; replace q8 := eq_true q8
    go_enter Tryz.func169, Tryz.ntmps169
    go_wp2_with (first | ((with_reducible refine gate_callee (f := 129) rfl ?_); refine HW.gz (some 11) rfl rfl Tryz.func129 (by kernel_rfl) rfl #[.slice A8 y307.length c8, .int .u8 0] rfl ?_; (with_reducible refine (bytes_IndexByte.calls _ _ y307 0 t312 _ ?side1 ?side2 A4.out).mono ?_); (case side1 => repeat (first | exact (Kd.V_reads' HO311.out).2.2 | (with_reducible refine Kd.C_alloc ?_ _) | (with_reducible refine Kd.C_drewN ?_ _) | (with_reducible refine Kd.C_drew ?_))); (case side2 => exact (Kd.V_reads' HO311.out).2.1); rintro e w' ⟨rfl, ⟨nd, rfl⟩⟩; refine ⟨_, rfl, ?_⟩; have q9 : ((wrap64 (t312 + 1)) : Int) ≤ ((l0.length : Int) : Int) := HW.od; obtain ⟨i09, hi09, _, hsz9, _⟩ := info_parts info5; have hroom9 : l0.length ≤ c0 := (Kd.V_reads' HO0.out).2.1; have hC9 : Kd.F (Kd.int .u8) _ _ A0 l0.length l0 := (Kd.V_at (base := w.heap.size) HO0.out).2.2; have ql9 : (1 : Int) ≤ ((wrap64 (t312 + 1)) : Int) := HW.od; have hcut9 := cut_mid (P := Tryz.prog) 145 5 .i64 .i64 Tryz.underlying145 hi09 1 hsz9 A0 l0.length c0 1 (wrap64 (t312 + 1)) (by omega) ql9 q9 hroom9; have hr9 := Kd.F_mid (lo := (1 : Int).toNat) (hi := ((wrap64 (t312 + 1)) : Int).toNat) (c := c0) hC9 (by omega) (by omega) hroom9; obtain ⟨A9, hA9⟩ : ∃ A1, A1 = (if c0 = (1 : Int).toNat then A0 else (A0 : Option Addr).map (·.add ((1 : Int).toNat * 1))) := ⟨_, rfl⟩; obtain ⟨c9, hc9⟩ : ∃ c1, c1 = c0 - (1 : Int).toNat := ⟨_, rfl⟩; have hy9 : y313.length = ((wrap64 (t312 + 1)) : Int).toNat - (1 : Int).toNat := (by rw [Ny313.out, List.length_drop, List.length_take] <;> omega); rw [show ((l0).take ((wrap64 (t312 + 1)) : Int).toNat).drop (1 : Int).toNat = y313 from Ny313.out.symm] at hr9; replace hr9 : Kd.F (Kd.int .u8) _ _ A9 y313.length y313 := (by rw [hA9]; exact hr9); rw [← hy9, ← hA9, ← hc9] at hcut9; have HO317 := Aside0.mk (show Kd.V (Kd.int .u8) 5 _ w.heap.size _ (.slice A9 y313.length c9) y313 from Kd.V_mk (by rw [hy9, hc9]; exact Nat.sub_le_sub_right (Nat.le_trans (by omega) hroom9) _) hr9); have HC317 := Aside0.mk (show y313.length ≤ c9 from by rw [hy9, hc9]; exact Nat.sub_le_sub_right (Nat.le_trans (by omega) hroom9) _); clear hr9 hC9 hroom9 hi09 hsz9 hc9; have KY9 := Aside0.mk hy9; have KA9 := Aside0.mk hA9; clear hy9 hA9; replace q9 := eq_true q9))
    go_ret2
    exact ⟨_, rfl, HW.zV HO317.out, HW.zb⟩
def bsoncore_Element_KeyBytes.f (l0 : List Int) : Option (List Int) := (bsoncore_Element_KeyBytesErr.f l0).bind fun bt318 => (some bt318.1)
theorem bsoncore_Element_KeyBytes.calls (P0_ : Nat → Prop) (A0 : Option Addr) (c0 : Nat) (l0 : List Int) (r : List Int) (w : World) (hs0 : Kd.V (Kd.int .u8) 5 w w.heap.size (fun k_ => P0_ k_) (.slice A0 l0.length c0) l0) (h : bsoncore_Element_KeyBytes.f l0 = some r) :
    Calls Tryz.prog 120 #[.slice A0 l0.length c0] w fun e w' => ∃ v0_ : Value, e = .returned (v0_) ∧ Kd.V (Kd.int .u8) 5 w' w.heap.size (fun k_ => (P0_ k_ ∨ w.heap.size ≤ k_)) v0_ r ∧ Below w.heap.size w w' := by
  have HO0 := Aside0.mk (show Kd.V (Kd.int .u8) 5 w w.heap.size (fun k_ => (P0_ k_ ∨ w.heap.size ≤ k_)) (.slice A0 l0.length c0) l0 from Kd.V_mono hs0 (fun k_ hk => .inl hk)); have HB := Aside0.mk (Below.refl w.heap.size w); have H : ((bsoncore_Element_KeyBytesErr.f l0).bind fun bt318 => (some bt318.1)) = some r := h; clear h; replace H := Option.bind_eq_some_iff.mp H; obtain ⟨⟨t318, t321⟩, A20, H⟩ := H; replace H : (some t318) = some r := H; have A2 := Aside0.mk A20; clear A20
  as_aux_lemma =>
    obtain rfl := Option.some.inj H
    go_enter Tryz.func120, Tryz.ntmps120
    go_wp2_with (first | ((with_reducible refine gate_callee (f := 169) rfl ?_); refine HW.gz (some 7) rfl rfl Tryz.func169 (by kernel_rfl) rfl #[.slice A0 l0.length c0] rfl ?_; (with_reducible refine (bsoncore_Element_KeyBytesErr.calls (fun k_ => (P0_ k_ ∨ w.heap.size ≤ k_)) _ _ l0 t318 t321 _ ?side1 A2.out).mono ?_); (case side1 => exact HO0.out); rintro e w3 ⟨v319, rfl, ho0, hb⟩; refine ⟨_, rfl, ?_⟩; have HO320 := Aside0.mk (Kd.V_lower (Kd.V_mono (ok' := fun k_ => (P0_ k_ ∨ w.heap.size ≤ k_)) ho0 (fun k_ hk_ => Or.elim hk_ (fun hs_ => hs_) (fun hn_ => (.inr (Nat.le_trans (below_size HW.zb) hn_))))) (below_size HW.zb)); replace HB := Aside0.mk (below_step HW.zb hb); (try clear hb); (try clear ho0); (try simp only [errW_none, errW_some])))
    go_ret
    exact ⟨_, rfl, HW.zV HO320.out, HW.zb⟩
def bsoncore_readValue.j0 : Nat → List Int → Int → Bool → Option (List Int × List Int × Bool)
  | 0, _, _, _ => none
  | k + 1, x0, x7, x23 => if x23 = true then (some (([] : List Int), x0, false)) else (if 0 ≤ x7 then (if x7 ≤ (x0.length : Int) then (some ((x0.take (x7 : Int).toNat), (x0.drop (x7 : Int).toNat), true)) else (none)) else (none))
def bsoncore_readValue.f (k : Nat) (l0 : List Int) (a1 : Int) : Option (List Int × List Int × Bool) := (bsoncore_valueLength.f k l0 a1).bind fun bt322 => (if bt322.2 = true then (bsoncore_readValue.j0 k l0 bt322.1 (decide ((wrap64 (bt322.1)) > (l0.length : Int)))) else (bsoncore_readValue.j0 k l0 bt322.1 true))
theorem bsoncore_readValue.mono_l : ∀ k, (∀ y0 y1 y2, LeO (bsoncore_readValue.j0 k y0 y1 y2) (bsoncore_readValue.j0 (k + 1) y0 y1 y2))
  | 0 => fun _ _ _ r h => by simp [bsoncore_readValue.j0] at h
  | k + 1 => by
    have ih0 := bsoncore_readValue.mono_l k
    · intro y0 y1 y2
      unfold bsoncore_readValue.j0
      have m0_ := @ih0; have m1_ := @bsoncore_valueLength.mono; exact HW.mo
theorem bsoncore_readValue.mono : ∀ a0 a1 k, LeO (bsoncore_readValue.f k a0 a1) (bsoncore_readValue.f (k + 1) a0 a1) := by
  intro a0 a1 k
  have ih0 := bsoncore_readValue.mono_l k
  unfold bsoncore_readValue.f
  have m0_ := @ih0; have m1_ := @bsoncore_valueLength.mono; exact HW.mo
theorem bsoncore_readValue.calls (k : Nat) (P0_ : Nat → Prop) (A0 : Option Addr) (c0 : Nat) (l0 : List Int) (a1 : Int) (r1 : List Int) (r2 : List Int) (r3 : Bool) (w : World) (hs0 : Kd.V (Kd.int .u8) 5 w w.heap.size (fun k_ => P0_ k_) (.slice A0 l0.length c0) l0) (h : bsoncore_readValue.f k l0 a1 = some (r1, r2, r3)) :
    Calls Tryz.prog 117 #[.slice A0 l0.length c0, .int .u8 a1] w fun e w' => ∃ v0_ v1_ : Value, e = .returned (.tuple #[v0_, v1_, .bool r3]) ∧ Kd.V (Kd.int .u8) 5 w' w.heap.size (fun k_ => (P0_ k_ ∨ w.heap.size ≤ k_)) v0_ r1 ∧ Kd.V (Kd.int .u8) 5 w' w.heap.size (fun k_ => (P0_ k_ ∨ w.heap.size ≤ k_)) v1_ r2 ∧ Below w.heap.size w w' := by
  have HO0 := Aside0.mk (show Kd.V (Kd.int .u8) 5 w w.heap.size (fun k_ => (P0_ k_ ∨ w.heap.size ≤ k_)) (.slice A0 l0.length c0) l0 from Kd.V_mono hs0 (fun k_ hk => .inl hk)); have HB := Aside0.mk (Below.refl w.heap.size w); have H : ((bsoncore_valueLength.f k l0 a1).bind fun bt322 => (if bt322.2 = true then (bsoncore_readValue.j0 k l0 bt322.1 (decide ((wrap64 (bt322.1)) > (l0.length : Int)))) else (bsoncore_readValue.j0 k l0 bt322.1 true))) = some (r1, r2, r3) := h; clear h; replace H := Option.bind_eq_some_iff.mp H; obtain ⟨⟨t322, t323⟩, A30, H⟩ := H; replace H : (if t323 = true then (bsoncore_readValue.j0 k l0 t322 (decide ((wrap64 (t322)) > (l0.length : Int)))) else (bsoncore_readValue.j0 k l0 t322 true)) = some (r1, r2, r3) := H; have A3 := Aside0.mk A30; clear A30; have HC4 := Aside0.mk H; clear H
  go_enter Tryz.func117, Tryz.ntmps117
  go_upto_region 2 with (first | (go_at_call 107; (with_reducible refine (bsoncore_valueLength.calls k _ _ l0 a1 t322 t323 _ ?side1 ?side2 A3.out).mono ?_); (case side1 => repeat (first | exact (Kd.V_reads' HO0.out).2.2 | (with_reducible refine Kd.C_alloc ?_ _) | (with_reducible refine Kd.C_drewN ?_ _) | (with_reducible refine Kd.C_drew ?_))); (case side2 => exact (Kd.V_reads' HO0.out).2.1); rintro e w5 ⟨rfl, hb⟩; replace HO0 := Aside0.mk (Kd.V_below (HW.zV HO0.out) hb); replace HB := Aside0.mk (below_step HW.zb hb); (try clear hb)))
  repeat (go_quiet (fail); try go_wp2)
  (try simp only [Act.put, List.setIfInBounds_toArray, List.set_cons_zero, List.set_cons_succ])
  go_cut [23] (fun v23 wc => ∃ (kq : Nat) (x23_3 : Bool), v23 = .bool x23_3 ∧ Aside0 (bsoncore_readValue.j0 kq l0 t322 x23_3 = some (r1, r2, r3)) ∧ Aside0 (kq ≤ k) ∧ Aside0 (Kd.V (Kd.int .u8) 5 wc w.heap.size (fun k_ => (P0_ k_ ∨ w.heap.size ≤ k_)) (.slice A0 l0.length c0) l0) ∧ Aside0 (Below w.heap.size w wc))
  case first =>
    have H := HC4.out; clear HC4
    by_cases c6 : t323 = true
    · subst c6
      have H1 : (bsoncore_readValue.j0 k l0 t322 (decide ((wrap64 (t322)) > (l0.length : Int)))) = some (r1, r2, r3) := by rw [if_pos rfl] at H; exact H
      clear H; have H := H1; clear H1
      as_aux_lemma =>
        have H' := Aside0.mk H; clear H
        go_wp2
        repeat (go_quiet (fail); try go_wp2)
        go_meet
        case rel => exact ⟨_, (decide ((wrap64 (t322)) > (l0.length : Int))), HW.rs, H', ⟨by first | omega | exact Nat.le_refl _⟩, ⟨HW.zV HO0.out⟩, ⟨HW.zb⟩⟩
    replace c6 := Bool.eq_false_iff.mpr c6; subst c6
    have H1 : (bsoncore_readValue.j0 k l0 t322 true) = some (r1, r2, r3) := by rw [if_neg (show ¬ (false = true) by decide)] at H; exact H
    clear H; have H := H1; clear H1
    as_aux_lemma =>
      have H' := Aside0.mk H; clear H
      go_wp2
      repeat (go_quiet (fail); try go_wp2)
      go_meet
      case rel => exact ⟨_, (true), HW.rs, H', ⟨by first | omega | exact Nat.le_refl _⟩, ⟨HW.zV HO0.out⟩, ⟨HW.zb⟩⟩
  case rest =>
    clear HC4
    (try clear c1); (try clear p2); (try clear c6); (try clear p6)
    obtain ⟨kq, x23_3, rfl, HA, HJ3, HO_0, HB⟩ := hcut
    cases kq with
    | zero => exact absurd HA.out (by simp [bsoncore_readValue.j0])
    | succ kj3 =>
      have H := HA.out; clear HA
      simp only [bsoncore_readValue.j0] at H
      by_cases c7 : x23_3 = true
      · subst c7
        have H1 : (some (([] : List Int), l0, false)) = some (r1, r2, r3) := by rw [if_pos rfl] at H; exact H
        clear H; have H := H1; clear H1
        as_aux_lemma =>
          simp only [Option.some.injEq, Prod.mk.injEq] at H
          obtain ⟨rfl, rfl, rfl⟩ := H
          go_wp2
          repeat (go_quiet (fail); try go_wp2)
          go_ret3
          exact ⟨_, _, rfl, Kd.V_nil _ _ _ _ _, HW.zV HO_0.out, HW.zb⟩
      replace c7 := Bool.eq_false_iff.mpr c7; subst c7
      have H1 : (if 0 ≤ t322 then (if t322 ≤ (l0.length : Int) then (some ((l0.take (t322 : Int).toNat), (l0.drop (t322 : Int).toNat), true)) else (none)) else (none)) = some (r1, r2, r3) := by rw [if_neg (show ¬ (false = true) by decide)] at H; exact H
      clear H; have H := H1; clear H1
      by_cases c8 : 0 ≤ t322
      rotate_left
      · rw [if_neg c8] at H
        exact absurd H (by simp)
      rw [if_pos c8] at H; have c8b0 := eq_true c8; have c8b1 : decide (0 ≤ t322) = true := decide_eq_true c8; clear c8
      by_cases c9 : t322 ≤ (l0.length : Int)
      rotate_left
      · rw [if_neg c9] at H
        exact absurd H (by simp)
      rw [if_pos c9] at H; have c9b0 := eq_true c9; have c9b1 : decide (t322 ≤ (l0.length : Int)) = true := decide_eq_true c9; clear c9; obtain ⟨y324, hy324⟩ : ∃ y_ : List Int, y_ = (l0.take (t322 : Int).toNat) := ⟨_, rfl⟩
      replace H : (some (y324, (l0.drop (t322 : Int).toNat), true)) = some (r1, r2, r3) := by (try rw [hy324]); exact HW.rp
      have Ny324 := Aside0.mk hy324; clear hy324
      have c10b0 := eq_true (HW.od : 0 ≤ t322)
      have c11b0 := eq_true (HW.od : t322 ≤ (l0.length : Int))
      obtain ⟨y329, hy329⟩ : ∃ y_ : List Int, y_ = (l0.drop (t322 : Int).toNat) := ⟨_, rfl⟩
      replace H : (some (y324, y329, true)) = some (r1, r2, r3) := by (try rw [hy329]); exact HW.rp
      have Ny329 := Aside0.mk hy329; clear hy329
      as_aux_lemma =>
        simp only [Option.some.injEq, Prod.mk.injEq] at H
        obtain ⟨rfl, rfl, rfl⟩ := H
        have q12 : (t322 : Int) ≤ ((l0.length : Int) : Int) := HW.od
        obtain ⟨i012, hi012, _, hsz12, _⟩ := info_parts info5; have hroom12 : l0.length ≤ c0 := (Kd.V_reads' HO_0.out).2.1; have hC12 : Kd.F (Kd.int .u8) _ _ A0 l0.length l0 := (Kd.V_at (base := w.heap.size) HO_0.out).2.2
        have hcut12 := cut_to (P := Tryz.prog) 22 5 .i32 Tryz.underlying22 hi012 A0 l0.length c0 t322 (HW.od) q12 hroom12
        have hr12 := Kd.F_take (m := (t322 : Int).toNat) hC12 (by omega)
        have hy12 : y324.length = (t322 : Int).toNat := (by rw [Ny324.out, List.length_take]; omega)
        rw [← Ny324.out] at hr12; rw [← hy12] at hcut12
        have HO328 := Aside0.mk (show Kd.V (Kd.int .u8) 5 _ w.heap.size _ (.slice A0 y324.length c0) y324 from Kd.V_mk (by omega) hr12)
        have HC328 := Aside0.mk (show y324.length ≤ c0 from by omega)
        clear hr12 hC12 hroom12 hi012 hsz12; have KY12 := Aside0.mk hy12; clear hy12; replace q12 := eq_true q12
        have q13 : (t322 : Int) ≤ ((l0.length : Int) : Int) := HW.od
        obtain ⟨i013, hi013, _, hsz13, _⟩ := info_parts info5; have hroom13 : l0.length ≤ c0 := (Kd.V_reads' HO_0.out).2.1; have hC13 : Kd.F (Kd.int .u8) _ _ A0 l0.length l0 := (Kd.V_at (base := w.heap.size) HO_0.out).2.2
        have q013 : (0 : Int) ≤ (t322 : Int) := HW.od
        have hcut13 := cut_from (P := Tryz.prog) 22 5 .i32 Tryz.underlying22 hi013 1 hsz13 A0 l0.length c0 t322 q013 q13
        have hr13 := Kd.F_cut (m := (t322 : Int).toNat) (c := c0) hC13 (by omega) hroom13
        obtain ⟨A13, hA13⟩ : ∃ A1, A1 = (if c0 = (t322 : Int).toNat then A0 else (A0 : Option Addr).map (·.add ((t322 : Int).toNat * 1))) := ⟨_, rfl⟩; obtain ⟨c13, hc13⟩ : ∃ c1, c1 = c0 - (t322 : Int).toNat := ⟨_, rfl⟩
        have hy13 : y329.length = l0.length - (t322 : Int).toNat := (by rw [Ny329.out, List.length_drop] <;> omega)
        rw [show (l0).drop (t322 : Int).toNat = y329 from Ny329.out.symm] at hr13
        replace hr13 : Kd.F (Kd.int .u8) _ _ A13 y329.length y329 := (by rw [hA13]; exact hr13)
        rw [← hy13, ← hA13, ← hc13] at hcut13
        have HO333 := Aside0.mk (show Kd.V (Kd.int .u8) 5 _ w.heap.size _ (.slice A13 y329.length c13) y329 from Kd.V_mk (by rw [hy13, hc13]; exact Nat.sub_le_sub_right hroom13 _) hr13)
        have HC333 := Aside0.mk (show y329.length ≤ c13 from by rw [hy13, hc13]; exact Nat.sub_le_sub_right hroom13 _)
        clear hr13 hC13 hroom13 hi013 hsz13 hc13; have KY13 := Aside0.mk hy13; have KA13 := Aside0.mk hA13; clear hy13 hA13; replace q13 := eq_true q13
        go_wp2
        repeat (go_quiet (fail); try go_wp2)
        go_ret3
        exact ⟨_, _, rfl, HW.zV HO328.out, HW.zV HO333.out, HW.zb⟩
def bsoncore_ReadValue.f (k : Nat) (l0 : List Int) (a1 : Int) : Option (Int × List Int × List Int × Bool) := (bsoncore_readValue.f k l0 a1).bind fun bt335 => (if bt335.2.2 = true then (some (a1, bt335.1, bt335.2.1, true)) else (some (0, ([] : List Int), l0, false)))
theorem bsoncore_ReadValue.mono : ∀ a0 a1 k, LeO (bsoncore_ReadValue.f k a0 a1) (bsoncore_ReadValue.f (k + 1) a0 a1) := by
  intro a0 a1 k
  unfold bsoncore_ReadValue.f
  have m0_ := @bsoncore_readValue.mono; exact HW.mo
theorem bsoncore_ReadValue.calls (k : Nat) (P0_ : Nat → Prop) (A0 : Option Addr) (c0 : Nat) (l0 : List Int) (a1 : Int) (r1 : Int) (r2 : List Int) (r3 : List Int) (r4 : Bool) (w : World) (hs0 : Kd.V (Kd.int .u8) 5 w w.heap.size (fun k_ => P0_ k_) (.slice A0 l0.length c0) l0) (h : bsoncore_ReadValue.f k l0 a1 = some (r1, r2, r3, r4)) :
    Calls Tryz.prog 89 #[.slice A0 l0.length c0, .int .u8 a1] w fun e w' => ∃ v1_ v2_ : Value, e = .returned (.tuple #[.agg #[.int .u8 r1, v1_], v2_, .bool r4]) ∧ Kd.V (Kd.int .u8) 5 w' w.heap.size (fun k_ => (P0_ k_ ∨ w.heap.size ≤ k_)) v1_ r2 ∧ Kd.V (Kd.int .u8) 5 w' w.heap.size (fun k_ => (P0_ k_ ∨ w.heap.size ≤ k_)) v2_ r3 ∧ Below w.heap.size w w' := by
  have hu101 := Tryz.underlying101; have HO0 := Aside0.mk (show Kd.V (Kd.int .u8) 5 w w.heap.size (fun k_ => (P0_ k_ ∨ w.heap.size ≤ k_)) (.slice A0 l0.length c0) l0 from Kd.V_mono hs0 (fun k_ hk => .inl hk)); have HB := Aside0.mk (Below.refl w.heap.size w); have H : ((bsoncore_readValue.f k l0 a1).bind fun bt335 => (if bt335.2.2 = true then (some (a1, bt335.1, bt335.2.1, true)) else (some (0, ([] : List Int), l0, false)))) = some (r1, r2, r3, r4) := h; clear h; replace H := Option.bind_eq_some_iff.mp H; obtain ⟨⟨t335, t338, t341⟩, A30, H⟩ := H; replace H : (if t341 = true then (some (a1, t335, t338, true)) else (some (0, ([] : List Int), l0, false))) = some (r1, r2, r3, r4) := H; have A3 := Aside0.mk A30; clear A30
  by_cases c4 : t341 = true
  · subst c4
    have H1 : (some (a1, t335, t338, true)) = some (r1, r2, r3, r4) := by rw [if_pos rfl] at H; exact H
    clear H; have H := H1; clear H1
    as_aux_lemma =>
      simp only [Option.some.injEq, Prod.mk.injEq] at H
      obtain ⟨rfl, rfl, rfl, rfl⟩ := H
      go_enter Tryz.func89, Tryz.ntmps89
      go_wp2_with (first | ((with_reducible refine gate_dst (N := 4) rfl ?_); refine box_event ?hg (N := 4) ?hd (cs := #[.int .u8 0, .slice none 0 0]) (t := 101) ?hr ?_; (case hd => rfl); (case hg => rfl); (case hr => first | (go_simp; done) | (go_simp; rfl)); intro gb334 hg w5 hbox hb; have n0_ := Aside0.mk (Kd.V_below (Kd.V_elderB (HW.zV HO0.out) gb334 (Nat.le_of_eq hg.symm)) hb); have n1_ := Aside0.mk (below_step HW.zb hb); have n2_ := Aside0.mk (hbox); have n4_ := Aside0.mk ((by rw [hg]; exact (below_size HW.zb) : w.heap.size ≤ gb334)); clear HO0; clear HB; have HO0 := n0_; have HB := n1_; have BK334 := n2_; have GE334 := n4_; clear n0_ n1_ n2_ n4_; clear hb hbox hg) | ((with_reducible refine gate_callee (f := 117) rfl ?_); refine HW.gz (some 13) rfl rfl Tryz.func117 (by kernel_rfl) rfl #[.slice A0 l0.length c0, .int .u8 a1] rfl ?_; (with_reducible refine (bsoncore_readValue.calls k (fun k_ => ((P0_ k_ ∨ w.heap.size ≤ k_) ∧ k_ ≠ gb334)) _ _ l0 a1 t335 t338 true _ ?side1 A3.out).mono ?_); (case side1 => exact HO0.out); rintro e w6 ⟨v336, v339, rfl, ho0, ho1, hb⟩; refine ⟨_, rfl, ?_⟩; replace HO0 := Aside0.mk (Kd.V_below (HW.zV HO0.out) hb); have HO337 := Aside0.mk (Kd.V_lower (Kd.V_mono (ok' := fun k_ => (P0_ k_ ∨ w.heap.size ≤ k_) ∧ k_ ≠ gb334) ho0 (fun k_ hk_ => ⟨Or.elim hk_ (fun hs_ => hs_.1) (fun hn_ => (.inr (Nat.le_trans (below_size HW.zb) hn_))), Or.elim hk_ (fun hs_ => hs_.2) (fun hn_ => (Kd.freshB (g := gb334) (o := .cells #[.int .u8 0, .slice none 0 0] 101 (0, 0)) (HW.zB BK334.out) k_ hn_))⟩)) (below_size HW.zb)); have HO340 := Aside0.mk (Kd.V_lower (Kd.V_mono (ok' := fun k_ => (P0_ k_ ∨ w.heap.size ≤ k_) ∧ k_ ≠ gb334) ho1 (fun k_ hk_ => ⟨Or.elim hk_ (fun hs_ => hs_.1) (fun hn_ => (.inr (Nat.le_trans (below_size HW.zb) hn_))), Or.elim hk_ (fun hs_ => hs_.2) (fun hn_ => (Kd.freshB (g := gb334) (o := .cells #[.int .u8 0, .slice none 0 0] 101 (0, 0)) (HW.zB BK334.out) k_ hn_))⟩)) (below_size HW.zb)); replace BK334 := Aside0.mk (blk_below (HW.zB BK334.out) hb); replace HB := Aside0.mk (below_step HW.zb hb); (try clear hb); (try clear ho0); (try clear ho1); obtain ⟨Ao7, co7, eo7⟩ := Kd.V_slice HO337.out; subst eo7; obtain ⟨hcz8_0, hcz8_1, hfz9_0, hfz9_1⟩ := HW.k2f BK334.out))
      refine bodyPost_ret (results_ctt rfl _ _ gb334 101 #[.int .u8 a1, .slice Ao7 t335.length co7] (0, 0) _ rfl (by (with_reducible repeat (first | refine blk_drewN ?_ _ | refine blk_drew ?_ | refine blk_alloc ?_ _)); refine blk_put (cs := #[.int .u8 a1, .slice none 0 0]) ?_ 1 _ rfl; (with_reducible repeat (first | refine blk_drewN ?_ _ | refine blk_drew ?_ | refine blk_alloc ?_ _)); refine blk_put (cs := #[.int .u8 0, .slice none 0 0]) ?_ 0 _ rfl; exact HW.zB BK334.out) Tryz.underlying101 rfl (by kernel_rfl)) rfl ?_
      exact ⟨_, _, rfl, by (with_reducible repeat (first | apply Kd.V_alloc | apply Kd.V_drewN | apply Kd.V_drew)); exact Kd.V_mono (Kd.V_far (p := ⟨gb334, 1, none⟩) (Kd.V_far (p := ⟨gb334, 0, none⟩) (Kd.V_mono HO337.out (fun k_ hk => (⟨hk, hk.2⟩ : _ ∧ k_ ≠ gb334))) (fun _ hk => hk.2) (.int .u8 a1)) (fun _ hk => hk.2) (.slice Ao7 t335.length co7)) (fun _ hk => hk.1.1), by (with_reducible repeat (first | apply Kd.V_alloc | apply Kd.V_drewN | apply Kd.V_drew)); exact Kd.V_mono (Kd.V_far (p := ⟨gb334, 1, none⟩) (Kd.V_far (p := ⟨gb334, 0, none⟩) (Kd.V_mono HO340.out (fun k_ hk => (⟨hk, hk.2⟩ : _ ∧ k_ ≠ gb334))) (fun _ hk => hk.2) (.int .u8 a1)) (fun _ hk => hk.2) (.slice Ao7 t335.length co7)) (fun _ hk => hk.1.1), HW.zb⟩
  replace c4 := Bool.eq_false_iff.mpr c4; subst c4
  have H1 : (some (0, ([] : List Int), l0, false)) = some (r1, r2, r3, r4) := by rw [if_neg (show ¬ (false = true) by decide)] at H; exact H
  clear H; have H := H1; clear H1
  as_aux_lemma =>
    simp only [Option.some.injEq, Prod.mk.injEq] at H
    obtain ⟨rfl, rfl, rfl, rfl⟩ := H
    go_enter Tryz.func89, Tryz.ntmps89
    go_wp2_with (first | ((with_reducible refine gate_dst (N := 4) rfl ?_); refine box_event ?hg (N := 4) ?hd (cs := #[.int .u8 0, .slice none 0 0]) (t := 101) ?hr ?_; (case hd => rfl); (case hg => rfl); (case hr => first | (go_simp; done) | (go_simp; rfl)); intro gb334 hg w10 hbox hb; have n0_ := Aside0.mk (Kd.V_below (Kd.V_elderB (HW.zV HO0.out) gb334 (Nat.le_of_eq hg.symm)) hb); have n1_ := Aside0.mk (below_step HW.zb hb); have n2_ := Aside0.mk (hbox); have n4_ := Aside0.mk ((by rw [hg]; exact (below_size HW.zb) : w.heap.size ≤ gb334)); clear HO0; clear HB; have HO0 := n0_; have HB := n1_; have BK334 := n2_; have GE334 := n4_; clear n0_ n1_ n2_ n4_; clear hb hbox hg) | ((with_reducible refine gate_callee (f := 117) rfl ?_); refine HW.gz (some 13) rfl rfl Tryz.func117 (by kernel_rfl) rfl #[.slice A0 l0.length c0, .int .u8 a1] rfl ?_; (with_reducible refine (bsoncore_readValue.calls k (fun k_ => ((P0_ k_ ∨ w.heap.size ≤ k_) ∧ k_ ≠ gb334)) _ _ l0 a1 t335 t338 false _ ?side1 A3.out).mono ?_); (case side1 => exact HO0.out); rintro e w11 ⟨v336, v339, rfl, ho0, ho1, hb⟩; refine ⟨_, rfl, ?_⟩; replace HO0 := Aside0.mk (Kd.V_below (HW.zV HO0.out) hb); replace BK334 := Aside0.mk (blk_below (HW.zB BK334.out) hb); replace HB := Aside0.mk (below_step HW.zb hb); (try clear hb); (try clear ho0); (try clear ho1); obtain ⟨hcz12_0, hcz12_1, hfz13_0, hfz13_1⟩ := HW.k2f BK334.out))
    refine bodyPost_ret (results_ctt rfl _ _ gb334 101 #[.int .u8 0, .slice none 0 0] (0, 0) _ rfl (by (with_reducible repeat (first | refine blk_drewN ?_ _ | refine blk_drew ?_ | refine blk_alloc ?_ _)); refine blk_put (cs := #[.int .u8 0, .slice none 0 0]) ?_ 1 _ rfl; (with_reducible repeat (first | refine blk_drewN ?_ _ | refine blk_drew ?_ | refine blk_alloc ?_ _)); refine blk_put (cs := #[.int .u8 0, .slice none 0 0]) ?_ 0 _ rfl; exact HW.zB BK334.out) Tryz.underlying101 rfl (by kernel_rfl)) rfl ?_
    exact ⟨_, _, rfl, Kd.V_nil _ _ _ _ _, by (with_reducible repeat (first | apply Kd.V_alloc | apply Kd.V_drewN | apply Kd.V_drew)); exact Kd.V_mono (Kd.V_far (p := ⟨gb334, 1, none⟩) (Kd.V_far (p := ⟨gb334, 0, none⟩) (Kd.V_mono HO0.out (fun k_ hk => (⟨hk, hk.2⟩ : _ ∧ k_ ≠ gb334))) (fun _ hk => hk.2) (.int .u8 0)) (fun _ hk => hk.2) (.slice none 0 0)) (fun _ hk => hk.1.1), HW.zb⟩
end Go.Proofs.YtanecebppagakaaGreatDoor.PSx
