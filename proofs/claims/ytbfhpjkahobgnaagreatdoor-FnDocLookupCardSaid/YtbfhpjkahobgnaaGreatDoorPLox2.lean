import Derived.Test.YtbfhpjkahobgnaaGreatDoorPLox0
import Derived.Test.YtbfhpjkahobgnaaGreatDoorPLox1
namespace Go.Proofs.YtbfhpjkahobgnaaGreatDoor.PLo
open Go.RowKit Go.Proofs.YtbfhpjkahobgnaaGreatDoorW.PrintWords Go.Proofs.YtbfhpjkahobgnaaGreatDoorW.PrintLast Go.Proofs.YtbfhpjkahobgnaaGreatDoorW.PrintMore
attribute [local go_sem] max2_int min2_int max_two min_two max_three min_three max_four min_four
set_option linter.unusedVariables false
set_option maxHeartbeats 8000000
set_option maxRecDepth 100000
set_option linter.unusedSimpArgs false
mutual
def bsoncore_valueLength.j4 : Nat → Int → Bool → Option (Int × Bool)
  | 0, _, _ => none
  | k + 1, x6, x7 => if x6 < 0 then (some (x6, false)) else (some (x6, x7))
def bsoncore_valueLength.j0 : Nat → List Int → Int → Bool → Int → Bool → Option (Int × Bool)
  | 0, _, _, _, _, _ => none
  | k + 1, x0, x6, x7, x10, x11 => if x11 = true then ((bsoncore_ReadLength.f x0).bind fun bt124 => (bsoncore_valueLength.j4 k bt124.1 bt124.2.2)) else (if x10 = 5 then ((bsoncore_ReadLength.f x0).bind fun bt129 => (bsoncore_valueLength.j4 k (wrap32 (bt129.1 + 5)) bt129.2.2)) else (if x10 = 8 then (bsoncore_valueLength.j4 k 1 x7) else (if x10 = 12 then ((bsoncore_ReadLength.f x0).bind fun bt134 => (bsoncore_valueLength.j4 k (wrap32 (bt134.1 + 16)) bt134.2.2)) else (if x10 = 9 then (bsoncore_valueLength.j1 k x0 x6 x7 x10 (x10 == 9)) else (if x10 = 1 then (bsoncore_valueLength.j1 k x0 x6 x7 x10 (x10 == 1)) else (if x10 = 18 then (bsoncore_valueLength.j1 k x0 x6 x7 x10 (x10 == 18)) else (bsoncore_valueLength.j1 k x0 x6 x7 x10 (x10 == 17))))))))
def bsoncore_valueLength.j1 : Nat → List Int → Int → Bool → Int → Bool → Option (Int × Bool)
  | 0, _, _, _, _, _ => none
  | k + 1, x0, x6, x7, x10, x43 => if x43 = true then (bsoncore_valueLength.j4 k 8 x7) else (if x10 = 19 then (bsoncore_valueLength.j4 k 16 x7) else (if x10 = 16 then (bsoncore_valueLength.j4 k 4 x7) else (if x10 = 13 then (bsoncore_valueLength.j2 k x0 x6 x7 x10 (x10 == 13)) else (if x10 = 2 then (bsoncore_valueLength.j2 k x0 x6 x7 x10 (x10 == 2)) else (bsoncore_valueLength.j2 k x0 x6 x7 x10 (x10 == 14))))))
def bsoncore_valueLength.j2 : Nat → List Int → Int → Bool → Int → Bool → Option (Int × Bool)
  | 0, _, _, _, _, _ => none
  | k + 1, x0, x6, x7, x10, x52 => if x52 = true then ((bsoncore_ReadLength.f x0).bind fun bt139 => (bsoncore_valueLength.j4 k (wrap32 (bt139.1 + 4)) bt139.2.2)) else (if x10 = 127 then (bsoncore_valueLength.j3 k x0 x6 x7 x10 (x10 == 127)) else (if x10 = 255 then (bsoncore_valueLength.j3 k x0 x6 x7 x10 (x10 == 255)) else (if x10 = 10 then (bsoncore_valueLength.j3 k x0 x6 x7 x10 (x10 == 10)) else (bsoncore_valueLength.j3 k x0 x6 x7 x10 (x10 == 6)))))
def bsoncore_valueLength.j3 : Nat → List Int → Int → Bool → Int → Bool → Option (Int × Bool)
  | 0, _, _, _, _, _ => none
  | k + 1, x0, x6, x7, x10, x64 => if x64 = true then (bsoncore_valueLength.j4 k 0 x7) else (if x10 = 7 then (bsoncore_valueLength.j4 k 12 x7) else (if x10 = 11 then ((bytes_IndexByte.f x0 0).bind fun t144 => (if t144 < 0 then (bsoncore_valueLength.j4 k x6 false) else (if 0 ≤ (wrap64 (t144 + 1)) then (if (wrap64 (t144 + 1)) ≤ (x0.length : Int) then ((bytes_IndexByte.f (x0.drop ((wrap64 (t144 + 1)) : Int).toNat) 0).bind fun t146 => (if t146 < 0 then (bsoncore_valueLength.j4 k x6 false) else (bsoncore_valueLength.j4 k (wrap32 (wrap64 ((wrap64 ((wrap64 (t144 + 1)) + t146)) + 1))) x7))) else (none)) else (none)))) else (bsoncore_valueLength.j4 k x6 false)))
end
def bsoncore_valueLength.f (k : Nat) (l0 : List Int) (a1 : Int) : Option (Int × Bool) := if a1 = 4 then (bsoncore_valueLength.j0 k l0 0 true a1 (a1 == 4)) else (if a1 = 3 then (bsoncore_valueLength.j0 k l0 0 true a1 (a1 == 3)) else (bsoncore_valueLength.j0 k l0 0 true a1 (a1 == 15)))
theorem bsoncore_valueLength.mono_l : ∀ k, (∀ y0 y1, LeO (bsoncore_valueLength.j4 k y0 y1) (bsoncore_valueLength.j4 (k + 1) y0 y1)) ∧ (∀ y0 y1 y2 y3 y4, LeO (bsoncore_valueLength.j0 k y0 y1 y2 y3 y4) (bsoncore_valueLength.j0 (k + 1) y0 y1 y2 y3 y4)) ∧ (∀ y0 y1 y2 y3 y4, LeO (bsoncore_valueLength.j1 k y0 y1 y2 y3 y4) (bsoncore_valueLength.j1 (k + 1) y0 y1 y2 y3 y4)) ∧ (∀ y0 y1 y2 y3 y4, LeO (bsoncore_valueLength.j2 k y0 y1 y2 y3 y4) (bsoncore_valueLength.j2 (k + 1) y0 y1 y2 y3 y4)) ∧ (∀ y0 y1 y2 y3 y4, LeO (bsoncore_valueLength.j3 k y0 y1 y2 y3 y4) (bsoncore_valueLength.j3 (k + 1) y0 y1 y2 y3 y4))
  | 0 => ⟨fun _ _ r h => by simp [bsoncore_valueLength.j4] at h, fun _ _ _ _ _ r h => by simp [bsoncore_valueLength.j0] at h, fun _ _ _ _ _ r h => by simp [bsoncore_valueLength.j1] at h, fun _ _ _ _ _ r h => by simp [bsoncore_valueLength.j2] at h, fun _ _ _ _ _ r h => by simp [bsoncore_valueLength.j3] at h⟩
  | k + 1 => by
    obtain ⟨ih0, ih1, ih2, ih3, ih4⟩ := bsoncore_valueLength.mono_l k
    refine ⟨?_, ?_, ?_, ?_, ?_⟩
    · intro y0 y1
      unfold bsoncore_valueLength.j4
      have m0_ := @ih0; have m1_ := @ih1; have m2_ := @ih2; have m3_ := @ih3; have m4_ := @ih4; exact HW.mo
    · intro y0 y1 y2 y3 y4
      unfold bsoncore_valueLength.j0
      have m0_ := @ih0; have m1_ := @ih1; have m2_ := @ih2; have m3_ := @ih3; have m4_ := @ih4; exact HW.mo
    · intro y0 y1 y2 y3 y4
      unfold bsoncore_valueLength.j1
      have m0_ := @ih0; have m1_ := @ih1; have m2_ := @ih2; have m3_ := @ih3; have m4_ := @ih4; exact HW.mo
    · intro y0 y1 y2 y3 y4
      unfold bsoncore_valueLength.j2
      have m0_ := @ih0; have m1_ := @ih1; have m2_ := @ih2; have m3_ := @ih3; have m4_ := @ih4; exact HW.mo
    · intro y0 y1 y2 y3 y4
      unfold bsoncore_valueLength.j3
      have m0_ := @ih0; have m1_ := @ih1; have m2_ := @ih2; have m3_ := @ih3; have m4_ := @ih4; exact HW.mo
theorem bsoncore_valueLength.mono : ∀ a0 a1 k, LeO (bsoncore_valueLength.f k a0 a1) (bsoncore_valueLength.f (k + 1) a0 a1) := by
  intro a0 a1 k
  obtain ⟨ih0, ih1, ih2, ih3, ih4⟩ := bsoncore_valueLength.mono_l k
  unfold bsoncore_valueLength.f
  have m0_ := @ih0; have m1_ := @ih1; have m2_ := @ih2; have m3_ := @ih3; have m4_ := @ih4; exact HW.mo
theorem bsoncore_valueLength.calls (k : Nat) (A0 : Option Addr) (c0 : Nat) (l0 : List Int) (a1 : Int) (r1 : Int) (r2 : Bool) (w : World) (hr0 : Kd.C (Kd.int .u8) w A0 l0.length l0) (hc0 : l0.length ≤ c0) (h : bsoncore_valueLength.f k l0 a1 = some (r1, r2)) :
    Calls Tryz.prog 124 #[.slice A0 l0.length c0, .int .u8 a1] w fun e w' => e = .returned (.tuple #[.int .i32 r1, .bool r2]) ∧ Below w.heap.size w w' := by
  have HR0 := Aside0.mk hr0; have HC0 := Aside0.mk hc0; clear hr0 hc0; have HB := Aside0.mk (Below.refl w.heap.size w); have H : (if a1 = 4 then (bsoncore_valueLength.j0 k l0 0 true a1 (a1 == 4)) else (if a1 = 3 then (bsoncore_valueLength.j0 k l0 0 true a1 (a1 == 3)) else (bsoncore_valueLength.j0 k l0 0 true a1 (a1 == 15)))) = some (r1, r2) := h; clear h; have HC3 := Aside0.mk H; clear H
  go_enter Tryz.func124, Tryz.ntmps124
  go_upto_block 0 with (fail)
  go_cut [6, 7] (fun v6 v7 wc => ∃ (kq : Nat) (x6_2 : Int) (x7_2 : Bool), v6 = .int .i32 x6_2 ∧ v7 = .bool x7_2 ∧ Aside0 (bsoncore_valueLength.j4 kq x6_2 x7_2 = some (r1, r2)) ∧ Aside0 (kq ≤ k) ∧ Aside0 (Below w.heap.size w wc))
  case first =>
    have H := HC3.out; clear HC3; have HC4 := Aside0.mk H; clear H
    go_upto_if 11 with (fail)
    go_cut [11] (fun v11 wc => ∃ (kq : Nat) (x11_3 : Bool), v11 = .bool x11_3 ∧ Aside0 (bsoncore_valueLength.j0 kq l0 0 true a1 x11_3 = some (r1, r2)) ∧ Aside0 (kq ≤ k) ∧ Aside0 (Below w.heap.size w wc))
    case first =>
      have H := HC4.out; clear HC4
      by_cases c5 : a1 = 4
      · rw [if_pos c5] at H
        have c5b0 : (a1 == 4) = true := beq_iff_eq.mpr c5; have c5b1 : (a1 != 4) = false := bne_eq_false_iff_eq.mpr c5; clear c5
        (first | rw [c5b0] | (simp only [i64_w, i32_w]; rw [c5b0]) | skip)
        as_aux_lemma =>
          have H' := Aside0.mk H; clear H
          go_wp2
          go_meet
          case rel => exact ⟨_, ((a1 == 4)), HW.rs, H', ⟨by first | omega | exact Nat.le_refl _⟩, ⟨HW.zb⟩⟩
      rw [if_neg c5] at H; have c5b0 : (a1 == 4) = false := beq_eq_false_iff_ne.mpr c5; have c5b1 : (a1 != 4) = true := bne_iff_ne.mpr c5
      (first | rw [c5b0] | (simp only [i64_w, i32_w]; rw [c5b0]) | skip)
      by_cases c6 : a1 = 3
      · rw [if_pos c6] at H
        have c6b0 : (a1 == 3) = true := beq_iff_eq.mpr c6; have c6b1 : (a1 != 3) = false := bne_eq_false_iff_eq.mpr c6; clear c6
        as_aux_lemma =>
          have H' := Aside0.mk H; clear H
          go_wp2
          go_meet
          case rel => exact ⟨_, ((a1 == 3)), HW.rs, H', ⟨by first | omega | exact Nat.le_refl _⟩, ⟨HW.zb⟩⟩
      rw [if_neg c6] at H; have c6b0 : (a1 == 3) = false := beq_eq_false_iff_ne.mpr c6; have c6b1 : (a1 != 3) = true := bne_iff_ne.mpr c6
      as_aux_lemma =>
        have H' := Aside0.mk H; clear H
        go_wp2
        go_meet
        case rel => exact ⟨_, ((a1 == 15)), HW.rs, H', ⟨by first | omega | exact Nat.le_refl _⟩, ⟨HW.zb⟩⟩
    case rest =>
      clear HC4
      (try clear c1); (try clear p2); (try clear c5); (try clear c5b0); (try clear c5b1); (try clear c6); (try clear c6b0); (try clear c6b1)
      obtain ⟨kq, x11_3, rfl, HA, HJ3, HB⟩ := hcut
      cases kq with
      | zero => exact absurd HA.out (by simp [bsoncore_valueLength.j0])
      | succ kj3 =>
        have H := HA.out; clear HA
        simp only [bsoncore_valueLength.j0] at H
        by_cases c7 : x11_3 = true
        · subst c7
          have H1 : ((bsoncore_ReadLength.f l0).bind fun bt124 => (bsoncore_valueLength.j4 kj3 bt124.1 bt124.2.2)) = some (r1, r2) := by rw [if_pos rfl] at H; exact H
          clear H; have H := H1; clear H1; replace H := Option.bind_eq_some_iff.mp H; obtain ⟨⟨t124, t125, t128⟩, A80, H⟩ := H; replace H : (bsoncore_valueLength.j4 kj3 t124 t128) = some (r1, r2) := H; have A8 := Aside0.mk A80; clear A80
          as_aux_lemma =>
            have H' := Aside0.mk H; clear H
            go_wp2_with (first | ((with_reducible refine gate_callee (f := 74) rfl ?_); refine HW.gz (some 17) rfl rfl Tryz.func74 (by kernel_rfl) rfl #[.slice A0 l0.length c0] rfl ?_; (with_reducible refine (bsoncore_ReadLength.calls (fun k_ => k_ < w.heap.size) _ _ l0 t124 t125 t128 _ ?side1 A8.out).mono ?_); (case side1 => exact Kd.V_mk HC0.out (Kd.F_below (Kd.C_F (Kd.heap_int .u8) HR0.out) HW.zb)); rintro e w9 ⟨v126, rfl, ho0, hb⟩; refine ⟨_, rfl, ?_⟩; replace HB := Aside0.mk (below_step HW.zb hb); (try clear hb); (try clear ho0)))
            go_meet
            case rel => exact ⟨_, (t124), (t128), (by first | rfl | (simp; done) | (simp [*]; done)), HW.rs, H', ⟨by have := HJ3.out; first | omega | exact Nat.le_refl _⟩, ⟨HW.zb⟩⟩
        replace c7 := Bool.eq_false_iff.mpr c7; subst c7
        have H1 : (if a1 = 5 then ((bsoncore_ReadLength.f l0).bind fun bt129 => (bsoncore_valueLength.j4 kj3 (wrap32 (bt129.1 + 5)) bt129.2.2)) else (if a1 = 8 then (bsoncore_valueLength.j4 kj3 1 true) else (if a1 = 12 then ((bsoncore_ReadLength.f l0).bind fun bt134 => (bsoncore_valueLength.j4 kj3 (wrap32 (bt134.1 + 16)) bt134.2.2)) else (if a1 = 9 then (bsoncore_valueLength.j1 kj3 l0 0 true a1 (a1 == 9)) else (if a1 = 1 then (bsoncore_valueLength.j1 kj3 l0 0 true a1 (a1 == 1)) else (if a1 = 18 then (bsoncore_valueLength.j1 kj3 l0 0 true a1 (a1 == 18)) else (bsoncore_valueLength.j1 kj3 l0 0 true a1 (a1 == 17)))))))) = some (r1, r2) := by rw [if_neg (show ¬ (false = true) by decide)] at H; exact H
        clear H; have H := H1; clear H1
        by_cases c10 : a1 = 5
        · rw [if_pos c10] at H
          have c10b0 : (a1 == 5) = true := beq_iff_eq.mpr c10; have c10b1 : (a1 != 5) = false := bne_eq_false_iff_eq.mpr c10; clear c10; replace H := Option.bind_eq_some_iff.mp H; obtain ⟨⟨t129, t130, t133⟩, A110, H⟩ := H; replace H : (bsoncore_valueLength.j4 kj3 (wrap32 (t129 + 5)) t133) = some (r1, r2) := H; have A11 := Aside0.mk A110; clear A110
          as_aux_lemma =>
            have H' := Aside0.mk H; clear H
            go_wp2_with (first | ((with_reducible refine gate_callee (f := 74) rfl ?_); refine HW.gz (some 25) rfl rfl Tryz.func74 (by kernel_rfl) rfl #[.slice A0 l0.length c0] rfl ?_; (with_reducible refine (bsoncore_ReadLength.calls (fun k_ => k_ < w.heap.size) _ _ l0 t129 t130 t133 _ ?side1 A11.out).mono ?_); (case side1 => exact Kd.V_mk HC0.out (Kd.F_below (Kd.C_F (Kd.heap_int .u8) HR0.out) HW.zb)); rintro e w12 ⟨v131, rfl, ho0, hb⟩; refine ⟨_, rfl, ?_⟩; replace HB := Aside0.mk (below_step HW.zb hb); (try clear hb); (try clear ho0)))
            go_meet
            case rel => exact ⟨_, (wrap32 (t129 + 5)), (t133), (by first | rfl | (simp; done) | (simp [*]; done)), HW.rs, H', ⟨by have := HJ3.out; first | omega | exact Nat.le_refl _⟩, ⟨HW.zb⟩⟩
        rw [if_neg c10] at H; have c10b0 : (a1 == 5) = false := beq_eq_false_iff_ne.mpr c10; have c10b1 : (a1 != 5) = true := bne_iff_ne.mpr c10
        by_cases c13 : a1 = 8
        · rw [if_pos c13] at H
          have c13b0 : (a1 == 8) = true := beq_iff_eq.mpr c13; have c13b1 : (a1 != 8) = false := bne_eq_false_iff_eq.mpr c13; clear c13
          as_aux_lemma =>
            have H' := Aside0.mk H; clear H
            go_wp2
            go_meet
            case rel => exact ⟨_, (1), (true), (by first | rfl | (simp; done) | (simp [*]; done)), HW.rs, H', ⟨by have := HJ3.out; first | omega | exact Nat.le_refl _⟩, ⟨HW.zb⟩⟩
        rw [if_neg c13] at H; have c13b0 : (a1 == 8) = false := beq_eq_false_iff_ne.mpr c13; have c13b1 : (a1 != 8) = true := bne_iff_ne.mpr c13
        by_cases c14 : a1 = 12
        · rw [if_pos c14] at H
          have c14b0 : (a1 == 12) = true := beq_iff_eq.mpr c14; have c14b1 : (a1 != 12) = false := bne_eq_false_iff_eq.mpr c14; clear c14; replace H := Option.bind_eq_some_iff.mp H; obtain ⟨⟨t134, t135, t138⟩, A150, H⟩ := H; replace H : (bsoncore_valueLength.j4 kj3 (wrap32 (t134 + 16)) t138) = some (r1, r2) := H; have A15 := Aside0.mk A150; clear A150
          as_aux_lemma =>
            have H' := Aside0.mk H; clear H
            go_wp2_with (first | ((with_reducible refine gate_callee (f := 74) rfl ?_); refine HW.gz (some 37) rfl rfl Tryz.func74 (by kernel_rfl) rfl #[.slice A0 l0.length c0] rfl ?_; (with_reducible refine (bsoncore_ReadLength.calls (fun k_ => k_ < w.heap.size) _ _ l0 t134 t135 t138 _ ?side1 A15.out).mono ?_); (case side1 => exact Kd.V_mk HC0.out (Kd.F_below (Kd.C_F (Kd.heap_int .u8) HR0.out) HW.zb)); rintro e w16 ⟨v136, rfl, ho0, hb⟩; refine ⟨_, rfl, ?_⟩; replace HB := Aside0.mk (below_step HW.zb hb); (try clear hb); (try clear ho0)))
            go_meet
            case rel => exact ⟨_, (wrap32 (t134 + 16)), (t138), (by first | rfl | (simp; done) | (simp [*]; done)), HW.rs, H', ⟨by have := HJ3.out; first | omega | exact Nat.le_refl _⟩, ⟨HW.zb⟩⟩
        rw [if_neg c14] at H; have c14b0 : (a1 == 12) = false := beq_eq_false_iff_ne.mpr c14; have c14b1 : (a1 != 12) = true := bne_iff_ne.mpr c14; have HC17 := Aside0.mk H; clear H
        go_upto_if 43 with (fail)
        go_cut [43] (fun v43 wc => ∃ (kq : Nat) (x43_16 : Bool), v43 = .bool x43_16 ∧ Aside0 (bsoncore_valueLength.j1 kq l0 0 true a1 x43_16 = some (r1, r2)) ∧ Aside0 (kq ≤ kj3) ∧ Aside0 (Below w.heap.size w wc))
        case first =>
          have H := HC17.out; clear HC17
          by_cases c18 : a1 = 9
          · rw [if_pos c18] at H
            have c18b0 : (a1 == 9) = true := beq_iff_eq.mpr c18; have c18b1 : (a1 != 9) = false := bne_eq_false_iff_eq.mpr c18; clear c18
            (first | rw [c18b0] | (simp only [i64_w, i32_w]; rw [c18b0]) | skip)
            as_aux_lemma =>
              have H' := Aside0.mk H; clear H
              go_wp2
              go_meet
              case rel => exact ⟨_, ((a1 == 9)), HW.rs, H', ⟨by have := HJ3.out; first | omega | exact Nat.le_refl _⟩, ⟨HW.zb⟩⟩
          rw [if_neg c18] at H; have c18b0 : (a1 == 9) = false := beq_eq_false_iff_ne.mpr c18; have c18b1 : (a1 != 9) = true := bne_iff_ne.mpr c18
          (first | rw [c18b0] | (simp only [i64_w, i32_w]; rw [c18b0]) | skip)
          by_cases c19 : a1 = 1
          · rw [if_pos c19] at H
            have c19b0 : (a1 == 1) = true := beq_iff_eq.mpr c19; have c19b1 : (a1 != 1) = false := bne_eq_false_iff_eq.mpr c19; clear c19
            as_aux_lemma =>
              have H' := Aside0.mk H; clear H
              go_wp2
              go_meet
              case rel => exact ⟨_, ((a1 == 1)), HW.rs, H', ⟨by have := HJ3.out; first | omega | exact Nat.le_refl _⟩, ⟨HW.zb⟩⟩
          rw [if_neg c19] at H; have c19b0 : (a1 == 1) = false := beq_eq_false_iff_ne.mpr c19; have c19b1 : (a1 != 1) = true := bne_iff_ne.mpr c19
          by_cases c20 : a1 = 18
          · rw [if_pos c20] at H
            have c20b0 : (a1 == 18) = true := beq_iff_eq.mpr c20; have c20b1 : (a1 != 18) = false := bne_eq_false_iff_eq.mpr c20; clear c20
            as_aux_lemma =>
              have H' := Aside0.mk H; clear H
              go_wp2
              go_meet
              case rel => exact ⟨_, ((a1 == 18)), HW.rs, H', ⟨by have := HJ3.out; first | omega | exact Nat.le_refl _⟩, ⟨HW.zb⟩⟩
          rw [if_neg c20] at H; have c20b0 : (a1 == 18) = false := beq_eq_false_iff_ne.mpr c20; have c20b1 : (a1 != 18) = true := bne_iff_ne.mpr c20
          as_aux_lemma =>
            have H' := Aside0.mk H; clear H
            go_wp2
            go_meet
            case rel => exact ⟨_, ((a1 == 17)), HW.rs, H', ⟨by have := HJ3.out; first | omega | exact Nat.le_refl _⟩, ⟨HW.zb⟩⟩
        case rest =>
          clear HC17
          (try clear c1); (try clear c2); (try clear p2); (try clear p3); (try clear c5); (try clear c5b0); (try clear c5b1); (try clear c6); (try clear c6b0); (try clear c6b1); (try clear c7); (try clear c10); (try clear c10b0); (try clear c10b1); (try clear c12); (try clear c13); (try clear c13b0); (try clear c13b1); (try clear c14); (try clear c14b0); (try clear c14b1); (try clear c18); (try clear c18b0); (try clear c18b1); (try clear c19); (try clear c19b0); (try clear c19b1); (try clear c20); (try clear c20b0); (try clear c20b1); (try clear p2)
          obtain ⟨kq, x43_16, rfl, HA, HJ16, HB⟩ := hcut
          cases kq with
          | zero => exact absurd HA.out (by simp [bsoncore_valueLength.j1])
          | succ kj16 =>
            have H := HA.out; clear HA
            simp only [bsoncore_valueLength.j1] at H
            by_cases c21 : x43_16 = true
            · subst c21
              have H1 : (bsoncore_valueLength.j4 kj16 8 true) = some (r1, r2) := by rw [if_pos rfl] at H; exact H
              clear H; have H := H1; clear H1
              as_aux_lemma =>
                have H' := Aside0.mk H; clear H
                go_wp2
                go_meet
                case rel => exact ⟨_, (8), (true), (by first | rfl | (simp; done) | (simp [*]; done)), HW.rs, H', ⟨by have := HJ3.out; have := HJ16.out; first | omega | exact Nat.le_refl _⟩, ⟨HW.zb⟩⟩
            replace c21 := Bool.eq_false_iff.mpr c21; subst c21
            have H1 : (if a1 = 19 then (bsoncore_valueLength.j4 kj16 16 true) else (if a1 = 16 then (bsoncore_valueLength.j4 kj16 4 true) else (if a1 = 13 then (bsoncore_valueLength.j2 kj16 l0 0 true a1 (a1 == 13)) else (if a1 = 2 then (bsoncore_valueLength.j2 kj16 l0 0 true a1 (a1 == 2)) else (bsoncore_valueLength.j2 kj16 l0 0 true a1 (a1 == 14)))))) = some (r1, r2) := by rw [if_neg (show ¬ (false = true) by decide)] at H; exact H
            clear H; have H := H1; clear H1
            by_cases c22 : a1 = 19
            · rw [if_pos c22] at H
              have c22b0 : (a1 == 19) = true := beq_iff_eq.mpr c22; have c22b1 : (a1 != 19) = false := bne_eq_false_iff_eq.mpr c22; clear c22
              as_aux_lemma =>
                have H' := Aside0.mk H; clear H
                go_wp2
                go_meet
                case rel => exact ⟨_, (16), (true), (by first | rfl | (simp; done) | (simp [*]; done)), HW.rs, H', ⟨by have := HJ3.out; have := HJ16.out; first | omega | exact Nat.le_refl _⟩, ⟨HW.zb⟩⟩
            rw [if_neg c22] at H; have c22b0 : (a1 == 19) = false := beq_eq_false_iff_ne.mpr c22; have c22b1 : (a1 != 19) = true := bne_iff_ne.mpr c22
            by_cases c23 : a1 = 16
            · rw [if_pos c23] at H
              have c23b0 : (a1 == 16) = true := beq_iff_eq.mpr c23; have c23b1 : (a1 != 16) = false := bne_eq_false_iff_eq.mpr c23; clear c23
              as_aux_lemma =>
                have H' := Aside0.mk H; clear H
                go_wp2
                go_meet
                case rel => exact ⟨_, (4), (true), (by first | rfl | (simp; done) | (simp [*]; done)), HW.rs, H', ⟨by have := HJ3.out; have := HJ16.out; first | omega | exact Nat.le_refl _⟩, ⟨HW.zb⟩⟩
            rw [if_neg c23] at H; have c23b0 : (a1 == 16) = false := beq_eq_false_iff_ne.mpr c23; have c23b1 : (a1 != 16) = true := bne_iff_ne.mpr c23; have HC24 := Aside0.mk H; clear H
            go_upto_if 52 with (fail)
            go_cut [52] (fun v52 wc => ∃ (kq : Nat) (x52_23 : Bool), v52 = .bool x52_23 ∧ Aside0 (bsoncore_valueLength.j2 kq l0 0 true a1 x52_23 = some (r1, r2)) ∧ Aside0 (kq ≤ kj16) ∧ Aside0 (Below w.heap.size w wc))
            case first =>
              have H := HC24.out; clear HC24
              by_cases c25 : a1 = 13
              · rw [if_pos c25] at H
                have c25b0 : (a1 == 13) = true := beq_iff_eq.mpr c25; have c25b1 : (a1 != 13) = false := bne_eq_false_iff_eq.mpr c25; clear c25
                (first | rw [c25b0] | (simp only [i64_w, i32_w]; rw [c25b0]) | skip)
                as_aux_lemma =>
                  have H' := Aside0.mk H; clear H
                  go_wp2
                  go_meet
                  case rel => exact ⟨_, ((a1 == 13)), HW.rs, H', ⟨by have := HJ3.out; have := HJ16.out; first | omega | exact Nat.le_refl _⟩, ⟨HW.zb⟩⟩
              rw [if_neg c25] at H; have c25b0 : (a1 == 13) = false := beq_eq_false_iff_ne.mpr c25; have c25b1 : (a1 != 13) = true := bne_iff_ne.mpr c25
              (first | rw [c25b0] | (simp only [i64_w, i32_w]; rw [c25b0]) | skip)
              by_cases c26 : a1 = 2
              · rw [if_pos c26] at H
                have c26b0 : (a1 == 2) = true := beq_iff_eq.mpr c26; have c26b1 : (a1 != 2) = false := bne_eq_false_iff_eq.mpr c26; clear c26
                as_aux_lemma =>
                  have H' := Aside0.mk H; clear H
                  go_wp2
                  go_meet
                  case rel => exact ⟨_, ((a1 == 2)), HW.rs, H', ⟨by have := HJ3.out; have := HJ16.out; first | omega | exact Nat.le_refl _⟩, ⟨HW.zb⟩⟩
              rw [if_neg c26] at H; have c26b0 : (a1 == 2) = false := beq_eq_false_iff_ne.mpr c26; have c26b1 : (a1 != 2) = true := bne_iff_ne.mpr c26
              as_aux_lemma =>
                have H' := Aside0.mk H; clear H
                go_wp2
                go_meet
                case rel => exact ⟨_, ((a1 == 14)), HW.rs, H', ⟨by have := HJ3.out; have := HJ16.out; first | omega | exact Nat.le_refl _⟩, ⟨HW.zb⟩⟩
            case rest =>
              clear HC24
              (try clear c1); (try clear c2); (try clear p2); (try clear p3); (try clear c5); (try clear c5b0); (try clear c5b1); (try clear c6); (try clear c6b0); (try clear c6b1); (try clear c7); (try clear c10); (try clear c10b0); (try clear c10b1); (try clear c12); (try clear c13); (try clear c13b0); (try clear c13b1); (try clear c14); (try clear c14b0); (try clear c14b1); (try clear c18); (try clear c18b0); (try clear c18b1); (try clear c19); (try clear c19b0); (try clear c19b1); (try clear c20); (try clear c20b0); (try clear c20b1); (try clear c21); (try clear c22); (try clear c22b0); (try clear c22b1); (try clear c23); (try clear c23b0); (try clear c23b1); (try clear c25); (try clear c25b0); (try clear c25b1); (try clear c26); (try clear c26b0); (try clear c26b1); (try clear p2); (try clear p3)
              obtain ⟨kq, x52_23, rfl, HA, HJ23, HB⟩ := hcut
              cases kq with
              | zero => exact absurd HA.out (by simp [bsoncore_valueLength.j2])
              | succ kj23 =>
                have H := HA.out; clear HA
                simp only [bsoncore_valueLength.j2] at H
                by_cases c27 : x52_23 = true
                · subst c27
                  have H1 : ((bsoncore_ReadLength.f l0).bind fun bt139 => (bsoncore_valueLength.j4 kj23 (wrap32 (bt139.1 + 4)) bt139.2.2)) = some (r1, r2) := by rw [if_pos rfl] at H; exact H
                  clear H; have H := H1; clear H1; replace H := Option.bind_eq_some_iff.mp H; obtain ⟨⟨t139, t140, t143⟩, A280, H⟩ := H; replace H : (bsoncore_valueLength.j4 kj23 (wrap32 (t139 + 4)) t143) = some (r1, r2) := H; have A28 := Aside0.mk A280; clear A280
                  as_aux_lemma =>
                    have H' := Aside0.mk H; clear H
                    go_wp2_with (first | ((with_reducible refine gate_callee (f := 74) rfl ?_); refine HW.gz (some 58) rfl rfl Tryz.func74 (by kernel_rfl) rfl #[.slice A0 l0.length c0] rfl ?_; (with_reducible refine (bsoncore_ReadLength.calls (fun k_ => k_ < w.heap.size) _ _ l0 t139 t140 t143 _ ?side1 A28.out).mono ?_); (case side1 => exact Kd.V_mk HC0.out (Kd.F_below (Kd.C_F (Kd.heap_int .u8) HR0.out) HW.zb)); rintro e w29 ⟨v141, rfl, ho0, hb⟩; refine ⟨_, rfl, ?_⟩; replace HB := Aside0.mk (below_step HW.zb hb); (try clear hb); (try clear ho0)))
                    go_meet
                    case rel => exact ⟨_, (wrap32 (t139 + 4)), (t143), (by first | rfl | (simp; done) | (simp [*]; done)), HW.rs, H', ⟨by have := HJ3.out; have := HJ16.out; have := HJ23.out; first | omega | exact Nat.le_refl _⟩, ⟨HW.zb⟩⟩
                replace c27 := Bool.eq_false_iff.mpr c27; subst c27
                have H1 : (if a1 = 127 then (bsoncore_valueLength.j3 kj23 l0 0 true a1 (a1 == 127)) else (if a1 = 255 then (bsoncore_valueLength.j3 kj23 l0 0 true a1 (a1 == 255)) else (if a1 = 10 then (bsoncore_valueLength.j3 kj23 l0 0 true a1 (a1 == 10)) else (bsoncore_valueLength.j3 kj23 l0 0 true a1 (a1 == 6))))) = some (r1, r2) := by rw [if_neg (show ¬ (false = true) by decide)] at H; exact H
                clear H; have H := H1; clear H1; have HC30 := Aside0.mk H; clear H
                go_upto_if 64 with (fail)
                go_cut [64] (fun v64 wc => ∃ (kq : Nat) (x64_29 : Bool), v64 = .bool x64_29 ∧ Aside0 (bsoncore_valueLength.j3 kq l0 0 true a1 x64_29 = some (r1, r2)) ∧ Aside0 (kq ≤ kj23) ∧ Aside0 (Below w.heap.size w wc))
                case first =>
                  have H := HC30.out; clear HC30
                  by_cases c31 : a1 = 127
                  · rw [if_pos c31] at H
                    have c31b0 : (a1 == 127) = true := beq_iff_eq.mpr c31; have c31b1 : (a1 != 127) = false := bne_eq_false_iff_eq.mpr c31; clear c31
                    (first | rw [c31b0] | (simp only [i64_w, i32_w]; rw [c31b0]) | skip)
                    as_aux_lemma =>
                      have H' := Aside0.mk H; clear H
                      go_wp2
                      go_meet
                      case rel => exact ⟨_, ((a1 == 127)), HW.rs, H', ⟨by have := HJ3.out; have := HJ16.out; have := HJ23.out; first | omega | exact Nat.le_refl _⟩, ⟨HW.zb⟩⟩
                  rw [if_neg c31] at H; have c31b0 : (a1 == 127) = false := beq_eq_false_iff_ne.mpr c31; have c31b1 : (a1 != 127) = true := bne_iff_ne.mpr c31
                  (first | rw [c31b0] | (simp only [i64_w, i32_w]; rw [c31b0]) | skip)
                  by_cases c32 : a1 = 255
                  · rw [if_pos c32] at H
                    have c32b0 : (a1 == 255) = true := beq_iff_eq.mpr c32; have c32b1 : (a1 != 255) = false := bne_eq_false_iff_eq.mpr c32; clear c32
                    as_aux_lemma =>
                      have H' := Aside0.mk H; clear H
                      go_wp2
                      go_meet
                      case rel => exact ⟨_, ((a1 == 255)), HW.rs, H', ⟨by have := HJ3.out; have := HJ16.out; have := HJ23.out; first | omega | exact Nat.le_refl _⟩, ⟨HW.zb⟩⟩
                  rw [if_neg c32] at H; have c32b0 : (a1 == 255) = false := beq_eq_false_iff_ne.mpr c32; have c32b1 : (a1 != 255) = true := bne_iff_ne.mpr c32
                  by_cases c33 : a1 = 10
                  · rw [if_pos c33] at H
                    have c33b0 : (a1 == 10) = true := beq_iff_eq.mpr c33; have c33b1 : (a1 != 10) = false := bne_eq_false_iff_eq.mpr c33; clear c33
                    as_aux_lemma =>
                      have H' := Aside0.mk H; clear H
                      go_wp2
                      go_meet
                      case rel => exact ⟨_, ((a1 == 10)), HW.rs, H', ⟨by have := HJ3.out; have := HJ16.out; have := HJ23.out; first | omega | exact Nat.le_refl _⟩, ⟨HW.zb⟩⟩
                  rw [if_neg c33] at H; have c33b0 : (a1 == 10) = false := beq_eq_false_iff_ne.mpr c33; have c33b1 : (a1 != 10) = true := bne_iff_ne.mpr c33
                  as_aux_lemma =>
                    have H' := Aside0.mk H; clear H
                    go_wp2
                    go_meet
                    case rel => exact ⟨_, ((a1 == 6)), HW.rs, H', ⟨by have := HJ3.out; have := HJ16.out; have := HJ23.out; first | omega | exact Nat.le_refl _⟩, ⟨HW.zb⟩⟩
                case rest =>
                  clear HC30
                  (try clear c1); (try clear c2); (try clear p2); (try clear c3); (try clear p3); (try clear c5); (try clear c5b0); (try clear c5b1); (try clear c6); (try clear c6b0); (try clear c6b1); (try clear c7); (try clear c10); (try clear c10b0); (try clear c10b1); (try clear c12); (try clear c13); (try clear c13b0); (try clear c13b1); (try clear c14); (try clear c14b0); (try clear c14b1); (try clear c18); (try clear c18b0); (try clear c18b1); (try clear c19); (try clear c19b0); (try clear c19b1); (try clear c20); (try clear c20b0); (try clear c20b1); (try clear c21); (try clear c22); (try clear c22b0); (try clear c22b1); (try clear c23); (try clear c23b0); (try clear c23b1); (try clear c25); (try clear c25b0); (try clear c25b1); (try clear c26); (try clear c26b0); (try clear c26b1); (try clear c27); (try clear c31); (try clear c31b0); (try clear c31b1); (try clear c32); (try clear c32b0); (try clear c32b1); (try clear p32); (try clear c33); (try clear c33b0); (try clear c33b1); (try clear p2); (try clear p3)
                  obtain ⟨kq, x64_29, rfl, HA, HJ29, HB⟩ := hcut
                  cases kq with
                  | zero => exact absurd HA.out (by simp [bsoncore_valueLength.j3])
                  | succ kj29 =>
                    have H := HA.out; clear HA
                    simp only [bsoncore_valueLength.j3] at H
                    by_cases c34 : x64_29 = true
                    · subst c34
                      have H1 : (bsoncore_valueLength.j4 kj29 0 true) = some (r1, r2) := by rw [if_pos rfl] at H; exact H
                      clear H; have H := H1; clear H1
                      as_aux_lemma =>
                        have H' := Aside0.mk H; clear H
                        go_wp2
                        go_meet
                        case rel => exact ⟨_, (0), (true), (by first | rfl | (simp; done) | (simp [*]; done)), HW.rs, H', ⟨by have := HJ3.out; have := HJ16.out; have := HJ23.out; have := HJ29.out; first | omega | exact Nat.le_refl _⟩, ⟨HW.zb⟩⟩
                    replace c34 := Bool.eq_false_iff.mpr c34; subst c34
                    have H1 : (if a1 = 7 then (bsoncore_valueLength.j4 kj29 12 true) else (if a1 = 11 then ((bytes_IndexByte.f l0 0).bind fun t144 => (if t144 < 0 then (bsoncore_valueLength.j4 kj29 0 false) else (if 0 ≤ (wrap64 (t144 + 1)) then (if (wrap64 (t144 + 1)) ≤ (l0.length : Int) then ((bytes_IndexByte.f (l0.drop ((wrap64 (t144 + 1)) : Int).toNat) 0).bind fun t146 => (if t146 < 0 then (bsoncore_valueLength.j4 kj29 0 false) else (bsoncore_valueLength.j4 kj29 (wrap32 (wrap64 ((wrap64 ((wrap64 (t144 + 1)) + t146)) + 1))) true))) else (none)) else (none)))) else (bsoncore_valueLength.j4 kj29 0 false))) = some (r1, r2) := by rw [if_neg (show ¬ (false = true) by decide)] at H; exact H
                    clear H; have H := H1; clear H1
                    by_cases c35 : a1 = 7
                    · rw [if_pos c35] at H
                      have c35b0 : (a1 == 7) = true := beq_iff_eq.mpr c35; have c35b1 : (a1 != 7) = false := bne_eq_false_iff_eq.mpr c35; clear c35
                      as_aux_lemma =>
                        have H' := Aside0.mk H; clear H
                        go_wp2
                        go_meet
                        case rel => exact ⟨_, (12), (true), (by first | rfl | (simp; done) | (simp [*]; done)), HW.rs, H', ⟨by have := HJ3.out; have := HJ16.out; have := HJ23.out; have := HJ29.out; first | omega | exact Nat.le_refl _⟩, ⟨HW.zb⟩⟩
                    rw [if_neg c35] at H; have c35b0 : (a1 == 7) = false := beq_eq_false_iff_ne.mpr c35; have c35b1 : (a1 != 7) = true := bne_iff_ne.mpr c35
                    by_cases c36 : a1 = 11
                    rotate_left
                    · rw [if_neg c36] at H
                      have c36b0 : (a1 == 11) = false := beq_eq_false_iff_ne.mpr c36; have c36b1 : (a1 != 11) = true := bne_iff_ne.mpr c36
                      as_aux_lemma =>
                        have H' := Aside0.mk H; clear H
                        go_wp2
                        go_meet
                        case rel => exact ⟨_, (0), (false), (by first | rfl | (simp; done) | (simp [*]; done)), HW.rs, H', ⟨by have := HJ3.out; have := HJ16.out; have := HJ23.out; have := HJ29.out; first | omega | exact Nat.le_refl _⟩, ⟨HW.zb⟩⟩
                    rw [if_pos c36] at H; have c36b0 : (a1 == 11) = true := beq_iff_eq.mpr c36; have c36b1 : (a1 != 11) = false := bne_eq_false_iff_eq.mpr c36; clear c36; replace H := Option.bind_eq_some_iff.mp H; obtain ⟨t144, A370, H⟩ := H; replace H : (if t144 < 0 then (bsoncore_valueLength.j4 kj29 0 false) else (if 0 ≤ (wrap64 (t144 + 1)) then (if (wrap64 (t144 + 1)) ≤ (l0.length : Int) then ((bytes_IndexByte.f (l0.drop ((wrap64 (t144 + 1)) : Int).toNat) 0).bind fun t146 => (if t146 < 0 then (bsoncore_valueLength.j4 kj29 0 false) else (bsoncore_valueLength.j4 kj29 (wrap32 (wrap64 ((wrap64 ((wrap64 (t144 + 1)) + t146)) + 1))) true))) else (none)) else (none))) = some (r1, r2) := H; have A37 := Aside0.mk A370; clear A370
                    by_cases c38 : t144 < 0
                    · rw [if_pos c38] at H
                      have c38b0 : decide (t144 < 0) = true := decide_eq_true c38; clear c38
                      as_aux_lemma =>
                        have H' := Aside0.mk H; clear H
                        go_wp2_with (first | ((with_reducible refine gate_callee (f := 127) rfl ?_); refine HW.gz (some 74) rfl rfl Tryz.func127 (by kernel_rfl) rfl #[.slice A0 l0.length c0, .int .u8 0] rfl ?_; (with_reducible refine (bytes_IndexByte.calls _ _ l0 0 t144 _ ?side1 ?side2 A37.out).mono ?_); (case side1 => repeat (first | exact (Kd.C_below HR0.out HB.out) | (with_reducible refine Kd.C_alloc ?_ _) | (with_reducible refine Kd.C_drewN ?_ _) | (with_reducible refine Kd.C_drew ?_))); (case side2 => exact HC0.out); rintro e w' ⟨rfl, ⟨nd, rfl⟩⟩; refine ⟨_, rfl, ?_⟩))
                        go_meet
                        case rel => exact ⟨_, (0), (false), (by first | rfl | (simp; done) | (simp [*]; done)), HW.rs, H', ⟨by have := HJ3.out; have := HJ16.out; have := HJ23.out; have := HJ29.out; first | omega | exact Nat.le_refl _⟩, ⟨HW.zb⟩⟩
                    rw [if_neg c38] at H; have c38b0 : decide (t144 < 0) = false := decide_eq_false c38; clear c38; obtain ⟨ji39, hji39⟩ : ∃ j_ : Int, (wrap64 (t144 + 1)) = j_ := ⟨_, rfl⟩
                    replace H : (if 0 ≤ (ji39) then (if (ji39) ≤ (l0.length : Int) then ((bytes_IndexByte.f (l0.drop ((ji39) : Int).toNat) 0).bind fun t146 => (if t146 < 0 then (bsoncore_valueLength.j4 kj29 0 false) else (bsoncore_valueLength.j4 kj29 (wrap32 (wrap64 ((wrap64 ((ji39) + t146)) + 1))) true))) else (none)) else (none)) = some (r1, r2) := by first | (rw [hji39] at H; exact H) | (simp only [hji39] at H ⊢; exact H)
                    (try rw [hji39] at A37)
                    have hji39w : (IntKind.i64.wrap (t144 + 1)) = ji39 := (i64_w _).trans hji39
                    by_cases c40 : 0 ≤ (ji39)
                    rotate_left
                    · rw [if_neg c40] at H
                      exact absurd H (by simp)
                    rw [if_pos c40] at H; have c40b0 := eq_true c40; have c40b1 : decide (0 ≤ (ji39)) = true := decide_eq_true c40; clear c40
                    by_cases c41 : (ji39) ≤ (l0.length : Int)
                    rotate_left
                    · rw [if_neg c41] at H
                      exact absurd H (by simp)
                    rw [if_pos c41] at H; have c41b0 := eq_true c41; have c41b1 : decide ((ji39) ≤ (l0.length : Int)) = true := decide_eq_true c41; clear c41; replace H := Option.bind_eq_some_iff.mp H; obtain ⟨t146, A420, H⟩ := H; replace H : (if t146 < 0 then (bsoncore_valueLength.j4 kj29 0 false) else (bsoncore_valueLength.j4 kj29 (wrap32 (wrap64 ((wrap64 ((ji39) + t146)) + 1))) true)) = some (r1, r2) := H; have A42 := Aside0.mk A420; clear A420
                    by_cases c43 : t146 < 0
                    · rw [if_pos c43] at H
                      have c43b0 : decide (t146 < 0) = true := decide_eq_true c43; clear c43
                      as_aux_lemma =>
                        have H' := Aside0.mk H; clear H
                        go_wp2_with (first | ((with_reducible refine gate_callee (f := 127) rfl ?_); refine HW.gz (some 74) rfl rfl Tryz.func127 (by kernel_rfl) rfl #[.slice A0 l0.length c0, .int .u8 0] rfl ?_; (with_reducible refine (bytes_IndexByte.calls _ _ l0 0 t144 _ ?side1 ?side2 A37.out).mono ?_); (case side1 => repeat (first | exact (Kd.C_below HR0.out HB.out) | (with_reducible refine Kd.C_alloc ?_ _) | (with_reducible refine Kd.C_drewN ?_ _) | (with_reducible refine Kd.C_drew ?_))); (case side2 => exact HC0.out); rintro e w' ⟨rfl, ⟨nd, rfl⟩⟩; refine ⟨_, rfl, ?_⟩; obtain ⟨i044, hi044, _, hsz44, _⟩ := info_parts info5; obtain ⟨A44, hcut44, hA44, hC44⟩ := print_drop_of (P := Tryz.prog) (Value.int .u8) 0 22 5 .i64 Tryz.underlying22 hi044 hsz44 A0 c0 l0 (ji39) (HW.od) (HW.od) HC0.out; have HR145 := Aside0.mk (Kd.C_of_reads (h1 := fun _ => rfl) (hA44 _ (Kd.reads_of_C HR0.out))); have HC145 := Aside0.mk hC44; clear hA44 hC44 hi044 hsz44) | ((with_reducible refine gate_callee (f := 127) rfl ?_); refine goesL_ (some 81) rfl rfl Tryz.func127 (by kernel_rfl) rfl #[.slice A44 (l0.drop ((ji39) : Int).toNat).length (c0 - (ji39).toNat), .int .u8 0] rfl (by (try simp only [List.map_toArray, List.map_cons, List.map_nil]); first | done | (rw [show (l0.drop ((ji39) : Int).toNat).length = (l0.length - (ji39).toNat) from List.length_drop] <;> rfl) | (simp only [hji39]; rfl) | rfl | (simp only [List.length_drop, List.length_take]; rfl)) ?_; (with_reducible refine (bytes_IndexByte.calls _ _ (l0.drop ((ji39) : Int).toNat) 0 t146 _ ?side1 ?side2 A42.out).mono ?_); (case side1 => repeat (first | exact (Kd.C_below HR145.out HW.zb) | (with_reducible refine Kd.C_alloc ?_ _) | (with_reducible refine Kd.C_drewN ?_ _) | (with_reducible refine Kd.C_drew ?_))); (case side2 => exact HC145.out); rintro e w' ⟨rfl, ⟨nd, rfl⟩⟩; refine ⟨_, rfl, ?_⟩))
                        go_meet
                        case rel => exact ⟨_, (0), (false), (by first | rfl | (simp; done) | (simp [*]; done)), HW.rs, H', ⟨by have := HJ3.out; have := HJ16.out; have := HJ23.out; have := HJ29.out; first | omega | exact Nat.le_refl _⟩, ⟨HW.zb⟩⟩
                    rw [if_neg c43] at H; have c43b0 : decide (t146 < 0) = false := decide_eq_false c43; clear c43
                    as_aux_lemma =>
                      have H' := Aside0.mk H; clear H
                      go_wp2_with (first | ((with_reducible refine gate_callee (f := 127) rfl ?_); refine HW.gz (some 74) rfl rfl Tryz.func127 (by kernel_rfl) rfl #[.slice A0 l0.length c0, .int .u8 0] rfl ?_; (with_reducible refine (bytes_IndexByte.calls _ _ l0 0 t144 _ ?side1 ?side2 A37.out).mono ?_); (case side1 => repeat (first | exact (Kd.C_below HR0.out HB.out) | (with_reducible refine Kd.C_alloc ?_ _) | (with_reducible refine Kd.C_drewN ?_ _) | (with_reducible refine Kd.C_drew ?_))); (case side2 => exact HC0.out); rintro e w' ⟨rfl, ⟨nd, rfl⟩⟩; refine ⟨_, rfl, ?_⟩; obtain ⟨i045, hi045, _, hsz45, _⟩ := info_parts info5; obtain ⟨A45, hcut45, hA45, hC45⟩ := print_drop_of (P := Tryz.prog) (Value.int .u8) 0 22 5 .i64 Tryz.underlying22 hi045 hsz45 A0 c0 l0 (ji39) (HW.od) (HW.od) HC0.out; have HR145 := Aside0.mk (Kd.C_of_reads (h1 := fun _ => rfl) (hA45 _ (Kd.reads_of_C HR0.out))); have HC145 := Aside0.mk hC45; clear hA45 hC45 hi045 hsz45) | ((with_reducible refine gate_callee (f := 127) rfl ?_); refine goesL_ (some 81) rfl rfl Tryz.func127 (by kernel_rfl) rfl #[.slice A45 (l0.drop ((ji39) : Int).toNat).length (c0 - (ji39).toNat), .int .u8 0] rfl (by (try simp only [List.map_toArray, List.map_cons, List.map_nil]); first | done | (rw [show (l0.drop ((ji39) : Int).toNat).length = (l0.length - (ji39).toNat) from List.length_drop] <;> rfl) | (simp only [hji39]; rfl) | rfl | (simp only [List.length_drop, List.length_take]; rfl)) ?_; (with_reducible refine (bytes_IndexByte.calls _ _ (l0.drop ((ji39) : Int).toNat) 0 t146 _ ?side1 ?side2 A42.out).mono ?_); (case side1 => repeat (first | exact (Kd.C_below HR145.out HW.zb) | (with_reducible refine Kd.C_alloc ?_ _) | (with_reducible refine Kd.C_drewN ?_ _) | (with_reducible refine Kd.C_drew ?_))); (case side2 => exact HC145.out); rintro e w' ⟨rfl, ⟨nd, rfl⟩⟩; refine ⟨_, rfl, ?_⟩))
                      go_meet
                      case rel => exact ⟨_, (wrap32 (wrap64 ((wrap64 ((ji39) + t146)) + 1))), (true), (by first | rfl | (simp; done) | (simp only [← hji39] <;> (first | rfl | simp)) | (simp [*]; done)), HW.rs, H', ⟨by have := HJ3.out; have := HJ16.out; have := HJ23.out; have := HJ29.out; first | omega | exact Nat.le_refl _⟩, ⟨HW.zb⟩⟩
  case rest =>
    clear HC3
    (try clear c1); (try clear c2); (try clear p2); (try clear c3); (try clear p3); (try clear c4); (try clear c5); (try clear c5b0); (try clear c5b1); (try clear c6); (try clear c6b0); (try clear c6b1); (try clear p6); (try clear c7); (try clear c10); (try clear c10b0); (try clear c10b1); (try clear c12); (try clear c13); (try clear c13b0); (try clear c13b1); (try clear c14); (try clear c14b0); (try clear c14b1); (try clear c18); (try clear c18b0); (try clear c18b1); (try clear c19); (try clear c19b0); (try clear c19b1); (try clear c20); (try clear c20b0); (try clear c20b1); (try clear c21); (try clear c22); (try clear c22b0); (try clear c22b1); (try clear c23); (try clear c23b0); (try clear c23b1); (try clear c25); (try clear c25b0); (try clear c25b1); (try clear c26); (try clear c26b0); (try clear c26b1); (try clear c27); (try clear c31); (try clear c31b0); (try clear c31b1); (try clear c32); (try clear c32b0); (try clear c32b1); (try clear p32); (try clear c33); (try clear c33b0); (try clear c33b1); (try clear c34); (try clear c35); (try clear c35b0); (try clear c35b1); (try clear c36); (try clear c36b0); (try clear c36b1); (try clear c38); (try clear c38b0); (try clear c40); (try clear c40b0); (try clear c40b1); (try clear c41); (try clear c41b0); (try clear c41b1); (try clear c43); (try clear c43b0); (try clear p2); (try clear p3); (try clear p32)
    obtain ⟨kq, x6_2, x7_2, rfl, rfl, HA, HJ2, HB⟩ := hcut
    cases kq with
    | zero => exact absurd HA.out (by simp [bsoncore_valueLength.j4])
    | succ kj2 =>
      have H := HA.out; clear HA
      simp only [bsoncore_valueLength.j4] at H
      by_cases c46 : x6_2 < 0
      · rw [if_pos c46] at H
        have c46b0 : decide (x6_2 < 0) = true := decide_eq_true c46; clear c46
        as_aux_lemma =>
          simp only [Option.some.injEq, Prod.mk.injEq] at H
          obtain ⟨rfl, rfl⟩ := H
          go_wp2
          go_ret2
          exact ⟨rfl, HW.zb⟩
      rw [if_neg c46] at H; have c46b0 : decide (x6_2 < 0) = false := decide_eq_false c46; clear c46
      as_aux_lemma =>
        simp only [Option.some.injEq, Prod.mk.injEq] at H
        obtain ⟨rfl, rfl⟩ := H
        go_wp2
        go_ret2
        exact ⟨rfl, HW.zb⟩
end Go.Proofs.YtbfhpjkahobgnaaGreatDoor.PLo
