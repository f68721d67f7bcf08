import Derived.Test.YtanecebppagakaaGreatDoorPRxx0
import Derived.Test.YtanecebppagakaaGreatDoorPRxx1
import Derived.Test.YtanecebppagakaaGreatDoorPRxx2
namespace Go.Proofs.YtanecebppagakaaGreatDoor.PRx
open Go.Proofs.YtanecebppagakaaGreatDoor.HW (tt ff)
open Go.RowKit Go.Proofs.YtanecebppagakaaGreatDoorW.PrintWords Go.Proofs.YtanecebppagakaaGreatDoorW.PrintLast Go.Proofs.YtanecebppagakaaGreatDoorW.PrintMore
attribute [local go_sem] max2_int min2_int max_two min_two max_three min_three max_four min_four
set_option linter.unusedVariables false
set_option maxHeartbeats 8000000
set_option maxRecDepth 100000
set_option linter.unusedSimpArgs false
def bsoncore_ReadSymbol.f (k : Nat) (l0 : List Int) : Option (ByteArray × List Int × Bool) := (bsoncore_readstring.f k l0).bind fun bt267 => (some (bt267.1, bt267.2.1, bt267.2.2))
theorem bsoncore_ReadSymbol.mono : ∀ a0 k, LeO (bsoncore_ReadSymbol.f k a0) (bsoncore_ReadSymbol.f (k + 1) a0) := by
  intro a0 k
  unfold bsoncore_ReadSymbol.f
  have m0_ := @bsoncore_readstring.mono; exact HW.mo
theorem bsoncore_ReadSymbol.calls (k : Nat) (P0_ : Nat → Prop) (A0 : Option Addr) (c0 : Nat) (l0 : List Int) (r1 : ByteArray) (r2 : List Int) (r3 : Bool) (w : World) (hs0 : Kd.V (Kd.int .u8) 5 w w.heap.size (fun k_ => P0_ k_) (.slice A0 l0.length c0) l0) (h : bsoncore_ReadSymbol.f k l0 = some (r1, r2, r3)) :
    Calls Tryz.prog 83 #[.slice A0 l0.length c0] w fun e w' => ∃ v1_ : Value, e = .returned (.tuple #[.string r1, v1_, .bool r3]) ∧ Kd.V (Kd.int .u8) 5 w' w.heap.size (fun k_ => (P0_ k_ ∨ w.heap.size ≤ k_)) v1_ r2 ∧ Below w.heap.size w w' := by
  have HO0 := Aside0.mk (show Kd.V (Kd.int .u8) 5 w w.heap.size (fun k_ => (P0_ k_ ∨ w.heap.size ≤ k_)) (.slice A0 l0.length c0) l0 from Kd.V_mono hs0 (fun k_ hk => .inl hk)); have HB := Aside0.mk (Below.refl w.heap.size w); have H : ((bsoncore_readstring.f k l0).bind fun bt267 => (some (bt267.1, bt267.2.1, bt267.2.2))) = some (r1, r2, r3) := h; clear h; replace H := Option.bind_eq_some_iff.mp H; obtain ⟨⟨t267, t268, t271⟩, A20, H⟩ := H; replace H : (some (t267, t268, t271)) = some (r1, r2, r3) := H; have A2 := Aside0.mk A20; clear A20
  as_aux_lemma =>
    simp only [Option.some.injEq, Prod.mk.injEq] at H
    obtain ⟨rfl, rfl, rfl⟩ := H
    go_enter Tryz.func83, Tryz.ntmps83
    go_wp2_with (first | ((with_reducible refine gate_callee (f := 111) rfl ?_); refine HW.gz (some 6) rfl rfl Tryz.func111 (by kernel_rfl) rfl #[.slice A0 l0.length c0] rfl ?_; (with_reducible refine (bsoncore_readstring.calls k (fun k_ => (P0_ k_ ∨ w.heap.size ≤ k_)) _ _ l0 t267 t268 t271 _ ?side1 A2.out).mono ?_); (case side1 => exact HO0.out); rintro e w3 ⟨v269, rfl, ho0, hb⟩; refine ⟨_, rfl, ?_⟩; have HO270 := Aside0.mk (Kd.V_lower (Kd.V_mono (ok' := fun k_ => (P0_ k_ ∨ w.heap.size ≤ k_)) ho0 (fun k_ hk_ => Or.elim hk_ (fun hs_ => hs_) (fun hn_ => (.inr (Nat.le_trans (below_size HW.zb) hn_))))) (below_size HW.zb)); replace HB := Aside0.mk (below_step HW.zb hb); (try clear hb); (try clear ho0)))
    go_ret3
    exact ⟨_, rfl, HW.zV HO270.out, HW.zb⟩
def bsoncore_ReadCodeWithScope.j0 : Nat → List Int → List Int → Bool → Option (ByteArray × List Int × List Int × Bool)
  | 0, _, _, _ => none
  | k + 1, x0, x4, x21 => if x21 = true then (some ((⟨#[]⟩ : ByteArray), ([] : List Int), x0, false)) else ((bsoncore_readstring.f k x4).bind fun bt277 => (if bt277.2.2 = true then ((bsoncore_ReadDocument.f bt277.2.1).bind fun bt282 => (if bt282.2.2 = true then (some (bt277.1, bt282.1, bt282.2.1, true)) else (some ((⟨#[]⟩ : ByteArray), ([] : List Int), x0, false)))) else (some ((⟨#[]⟩ : ByteArray), ([] : List Int), x0, false))))
def bsoncore_ReadCodeWithScope.f (k : Nat) (l0 : List Int) : Option (ByteArray × List Int × List Int × Bool) := (bsoncore_ReadLength.f l0).bind fun bt272 => (if bt272.2.2 = true then (bsoncore_ReadCodeWithScope.j0 k l0 bt272.2.1 (decide ((l0.length : Int) < (wrap64 (bt272.1))))) else (bsoncore_ReadCodeWithScope.j0 k l0 bt272.2.1 true))
theorem bsoncore_ReadCodeWithScope.mono_l : ∀ k, (∀ y0 y1 y2, LeO (bsoncore_ReadCodeWithScope.j0 k y0 y1 y2) (bsoncore_ReadCodeWithScope.j0 (k + 1) y0 y1 y2))
  | 0 => fun _ _ _ r h => by simp [bsoncore_ReadCodeWithScope.j0] at h
  | k + 1 => by
    have ih0 := bsoncore_ReadCodeWithScope.mono_l k
    · intro y0 y1 y2
      unfold bsoncore_ReadCodeWithScope.j0
      have m0_ := @ih0; have m1_ := @bsoncore_readstring.mono; exact HW.mo
theorem bsoncore_ReadCodeWithScope.mono : ∀ a0 k, LeO (bsoncore_ReadCodeWithScope.f k a0) (bsoncore_ReadCodeWithScope.f (k + 1) a0) := by
  intro a0 k
  have ih0 := bsoncore_ReadCodeWithScope.mono_l k
  unfold bsoncore_ReadCodeWithScope.f
  have m0_ := @ih0; have m1_ := @bsoncore_readstring.mono; exact HW.mo
theorem bsoncore_ReadCodeWithScope.calls (k : Nat) (P0_ : Nat → Prop) (A0 : Option Addr) (c0 : Nat) (l0 : List Int) (r1 : ByteArray) (r2 : List Int) (r3 : List Int) (r4 : Bool) (w : World) (hs0 : Kd.V (Kd.int .u8) 5 w w.heap.size (fun k_ => P0_ k_) (.slice A0 l0.length c0) l0) (h : bsoncore_ReadCodeWithScope.f k l0 = some (r1, r2, r3, r4)) :
    Calls Tryz.prog 84 #[.slice A0 l0.length c0] w fun e w' => ∃ v1_ v2_ : Value, e = .returned (.tuple #[.string r1, v1_, v2_, .bool r4]) ∧ Kd.V (Kd.int .u8) 5 w' w.heap.size (fun k_ => (P0_ k_ ∨ w.heap.size ≤ k_)) v1_ r2 ∧ Kd.V (Kd.int .u8) 5 w' w.heap.size (fun k_ => (P0_ k_ ∨ w.heap.size ≤ k_)) v2_ r3 ∧ Below w.heap.size w w' := by
  have HO0 := Aside0.mk (show Kd.V (Kd.int .u8) 5 w w.heap.size (fun k_ => (P0_ k_ ∨ w.heap.size ≤ k_)) (.slice A0 l0.length c0) l0 from Kd.V_mono hs0 (fun k_ hk => .inl hk)); have HB := Aside0.mk (Below.refl w.heap.size w); have H : ((bsoncore_ReadLength.f l0).bind fun bt272 => (if bt272.2.2 = true then (bsoncore_ReadCodeWithScope.j0 k l0 bt272.2.1 (decide ((l0.length : Int) < (wrap64 (bt272.1))))) else (bsoncore_ReadCodeWithScope.j0 k l0 bt272.2.1 true))) = some (r1, r2, r3, r4) := h; clear h; replace H := Option.bind_eq_some_iff.mp H; obtain ⟨⟨t272, t273, t276⟩, A20, H⟩ := H; replace H : (if t276 = true then (bsoncore_ReadCodeWithScope.j0 k l0 t273 (decide ((l0.length : Int) < (wrap64 (t272))))) else (bsoncore_ReadCodeWithScope.j0 k l0 t273 true)) = some (r1, r2, r3, r4) := H; have A2 := Aside0.mk A20; clear A20; have HC3 := Aside0.mk H; clear H
  go_enter Tryz.func84, Tryz.ntmps84
  go_upto_region 2 with (first | ((with_reducible refine gate_callee (f := 113) rfl ?_); refine HW.gz (some 9) rfl rfl Tryz.func113 (by kernel_rfl) rfl #[.slice A0 l0.length c0] rfl ?_; (with_reducible refine (bsoncore_ReadLength.calls (fun k_ => (P0_ k_ ∨ w.heap.size ≤ k_)) _ _ l0 t272 t273 t276 _ ?side1 A2.out).mono ?_); (case side1 => exact HO0.out); rintro e w4 ⟨v274, rfl, ho0, hb⟩; refine ⟨_, rfl, ?_⟩; replace HO0 := Aside0.mk (Kd.V_below (HW.zV HO0.out) hb); have HO275 := Aside0.mk (Kd.V_lower (Kd.V_mono (ok' := fun k_ => (P0_ k_ ∨ w.heap.size ≤ k_)) ho0 (fun k_ hk_ => Or.elim hk_ (fun hs_ => hs_) (fun hn_ => (.inr (Nat.le_trans (below_size HW.zb) hn_))))) (below_size HW.zb)); replace HB := Aside0.mk (below_step HW.zb hb); (try clear hb); (try clear ho0)))
  (try simp only [Act.put, List.setIfInBounds_toArray, List.set_cons_zero, List.set_cons_succ])
  go_cut [21] (fun v21 wc => ∃ (kq : Nat) (x21_2 : Bool), v21 = .bool x21_2 ∧ Aside0 (bsoncore_ReadCodeWithScope.j0 kq l0 t273 x21_2 = some (r1, r2, r3, r4)) ∧ Aside0 (kq ≤ k) ∧ Aside0 (Kd.V (Kd.int .u8) 5 wc w.heap.size (fun k_ => (P0_ k_ ∨ w.heap.size ≤ k_)) (.slice A0 l0.length c0) l0) ∧ Aside0 (Kd.V (Kd.int .u8) 5 wc w.heap.size (fun k_ => (P0_ k_ ∨ w.heap.size ≤ k_)) v274 t273) ∧ Aside0 (Below w.heap.size w wc))
  case first =>
    have H := HC3.out; clear HC3
    by_cases c5 : t276 = true
    · subst c5
      have H1 : (bsoncore_ReadCodeWithScope.j0 k l0 t273 (decide ((l0.length : Int) < (wrap64 (t272))))) = some (r1, r2, r3, r4) := by rw [if_pos rfl] at H; exact H
      clear H; have H := H1; clear H1
      as_aux_lemma =>
        have H' := Aside0.mk H; clear H
        go_wp2
        go_meet
        case rel => exact ⟨_, (decide ((l0.length : Int) < (wrap64 (t272)))), HW.rs, H', ⟨by first | omega | exact Nat.le_refl _⟩, ⟨HW.zV HO0.out⟩, ⟨HW.zV HO275.out⟩, ⟨HW.zb⟩⟩
    replace c5 := Bool.eq_false_iff.mpr c5; subst c5
    have H1 : (bsoncore_ReadCodeWithScope.j0 k l0 t273 true) = some (r1, r2, r3, r4) := by rw [if_neg (show ¬ (false = true) by decide)] at H; exact H
    clear H; have H := H1; clear H1
    as_aux_lemma =>
      have H' := Aside0.mk H; clear H
      go_wp2
      go_meet
      case rel => exact ⟨_, (true), HW.rs, H', ⟨by first | omega | exact Nat.le_refl _⟩, ⟨HW.zV HO0.out⟩, ⟨HW.zV HO275.out⟩, ⟨HW.zb⟩⟩
  case rest =>
    clear HC3
    (try clear c1); (try clear p2); (try clear c5)
    obtain ⟨kq, x21_2, rfl, HA, HJ2, HO_0, HO_4, HB⟩ := hcut
    cases kq with
    | zero => exact absurd HA.out (by simp [bsoncore_ReadCodeWithScope.j0])
    | succ kj2 =>
      have H := HA.out; clear HA
      simp only [bsoncore_ReadCodeWithScope.j0] at H
      by_cases c6 : x21_2 = true
      · subst c6
        have H1 : (some ((⟨#[]⟩ : ByteArray), ([] : List Int), l0, false)) = some (r1, r2, r3, r4) := by rw [if_pos rfl] at H; exact H
        clear H; have H := H1; clear H1
        as_aux_lemma =>
          simp only [Option.some.injEq, Prod.mk.injEq] at H
          obtain ⟨rfl, rfl, rfl, rfl⟩ := H
          go_wp2
          refine bodyPost_ret (results_list (rs := [.tmp 2, .tmp 3, .tmp 4, .tmp 5]) rfl (by simp) (.tmp (.tmp (.tmp (.tmp .nil))))) rfl ?_
          exact ⟨_, _, rfl, Kd.V_nil _ _ _ _ _, HW.zV HO_0.out, HW.zb⟩
      replace c6 := Bool.eq_false_iff.mpr c6; subst c6
      have H1 : ((bsoncore_readstring.f kj2 t273).bind fun bt277 => (if bt277.2.2 = true then ((bsoncore_ReadDocument.f bt277.2.1).bind fun bt282 => (if bt282.2.2 = true then (some (bt277.1, bt282.1, bt282.2.1, true)) else (some ((⟨#[]⟩ : ByteArray), ([] : List Int), l0, false)))) else (some ((⟨#[]⟩ : ByteArray), ([] : List Int), l0, false)))) = some (r1, r2, r3, r4) := by rw [if_neg (show ¬ (false = true) by decide)] at H; exact H
      clear H; have H := H1; clear H1; replace H := Option.bind_eq_some_iff.mp H; obtain ⟨⟨t277, t278, t281⟩, A70, H⟩ := H; replace H : (if t281 = true then ((bsoncore_ReadDocument.f t278).bind fun bt282 => (if bt282.2.2 = true then (some (t277, bt282.1, bt282.2.1, true)) else (some ((⟨#[]⟩ : ByteArray), ([] : List Int), l0, false)))) else (some ((⟨#[]⟩ : ByteArray), ([] : List Int), l0, false))) = some (r1, r2, r3, r4) := H; have A7 := Aside0.mk A70; clear A70
      by_cases c8 : t281 = true
      rotate_left
      · replace c8 := Bool.eq_false_iff.mpr c8
        subst c8
        have H1 : (some ((⟨#[]⟩ : ByteArray), ([] : List Int), l0, false)) = some (r1, r2, r3, r4) := by rw [if_neg (show ¬ (false = true) by decide)] at H; exact H
        clear H; have H := H1; clear H1
        as_aux_lemma =>
          simp only [Option.some.injEq, Prod.mk.injEq] at H
          obtain ⟨rfl, rfl, rfl, rfl⟩ := H; obtain ⟨Ao19, co19, eo19⟩ := Kd.V_slice HO_4.out; subst eo19
          go_wp2_with (first | ((with_reducible refine gate_callee (f := 111) rfl ?_); refine HW.gz (some 25) rfl rfl Tryz.func111 (by kernel_rfl) rfl #[.slice Ao19 t273.length co19] rfl ?_; (with_reducible refine (bsoncore_readstring.calls kj2 (fun k_ => (P0_ k_ ∨ w.heap.size ≤ k_)) _ _ t273 t277 t278 false _ ?side1 A7.out).mono ?_); (case side1 => exact HO_4.out); rintro e w20 ⟨v279, rfl, ho0, hb⟩; refine ⟨_, rfl, ?_⟩; replace HO_0 := Aside0.mk (Kd.V_below (HW.zV HO_0.out) hb); replace HO_4 := Aside0.mk (Kd.V_below (HW.zV HO_4.out) hb); have HO280 := Aside0.mk (Kd.V_lower (Kd.V_mono (ok' := fun k_ => (P0_ k_ ∨ w.heap.size ≤ k_)) ho0 (fun k_ hk_ => Or.elim hk_ (fun hs_ => hs_) (fun hn_ => (.inr (Nat.le_trans (below_size HW.zb) hn_))))) (below_size HW.zb)); replace HB := Aside0.mk (below_step HW.zb hb); (try clear hb); (try clear ho0)))
          refine bodyPost_ret (results_list (rs := [.tmp 2, .tmp 3, .tmp 4, .tmp 5]) rfl (by simp) (.tmp (.tmp (.tmp (.tmp .nil))))) rfl ?_
          exact ⟨_, _, rfl, Kd.V_nil _ _ _ _ _, HW.zV HO_0.out, HW.zb⟩
      subst c8
      have H1 : ((bsoncore_ReadDocument.f t278).bind fun bt282 => (if bt282.2.2 = true then (some (t277, bt282.1, bt282.2.1, true)) else (some ((⟨#[]⟩ : ByteArray), ([] : List Int), l0, false)))) = some (r1, r2, r3, r4) := by rw [if_pos rfl] at H; exact H
      clear H; have H := H1; clear H1; replace H := Option.bind_eq_some_iff.mp H; obtain ⟨⟨t282, t285, t288⟩, A90, H⟩ := H; replace H : (if t288 = true then (some (t277, t282, t285, true)) else (some ((⟨#[]⟩ : ByteArray), ([] : List Int), l0, false))) = some (r1, r2, r3, r4) := H; have A9 := Aside0.mk A90; clear A90
      by_cases c10 : t288 = true
      · subst c10
        have H1 : (some (t277, t282, t285, true)) = some (r1, r2, r3, r4) := by rw [if_pos rfl] at H; exact H
        clear H; have H := H1; clear H1
        as_aux_lemma =>
          simp only [Option.some.injEq, Prod.mk.injEq] at H
          obtain ⟨rfl, rfl, rfl, rfl⟩ := H; obtain ⟨Ao11, co11, eo11⟩ := Kd.V_slice HO_4.out; subst eo11
          go_wp2_with (first | ((with_reducible refine gate_callee (f := 111) rfl ?_); refine HW.gz (some 25) rfl rfl Tryz.func111 (by kernel_rfl) rfl #[.slice Ao11 t273.length co11] rfl ?_; (with_reducible refine (bsoncore_readstring.calls kj2 (fun k_ => (P0_ k_ ∨ w.heap.size ≤ k_)) _ _ t273 t277 t278 true _ ?side1 A7.out).mono ?_); (case side1 => exact HO_4.out); rintro e w12 ⟨v279, rfl, ho0, hb⟩; refine ⟨_, rfl, ?_⟩; replace HO_0 := Aside0.mk (Kd.V_below (HW.zV HO_0.out) hb); replace HO_4 := Aside0.mk (Kd.V_below (HW.zV HO_4.out) hb); have HO280 := Aside0.mk (Kd.V_lower (Kd.V_mono (ok' := fun k_ => (P0_ k_ ∨ w.heap.size ≤ k_)) ho0 (fun k_ hk_ => Or.elim hk_ (fun hs_ => hs_) (fun hn_ => (.inr (Nat.le_trans (below_size HW.zb) hn_))))) (below_size HW.zb)); replace HB := Aside0.mk (below_step HW.zb hb); (try clear hb); (try clear ho0); obtain ⟨Ao13, co13, eo13⟩ := Kd.V_slice HO280.out; subst eo13) | ((with_reducible refine gate_callee (f := 73) rfl ?_); refine HW.gz (some 34) rfl rfl Tryz.func73 (by kernel_rfl) rfl #[.slice Ao13 t278.length co13] rfl ?_; (with_reducible refine (bsoncore_ReadDocument.calls (fun k_ => (P0_ k_ ∨ w.heap.size ≤ k_)) _ _ t278 t282 t285 true _ ?side1 A9.out).mono ?_); (case side1 => exact HO280.out); rintro e w14 ⟨v283, v286, rfl, ho0, ho1, hb⟩; refine ⟨_, rfl, ?_⟩; replace HO_0 := Aside0.mk (Kd.V_below (HW.zV HO_0.out) hb); replace HO_4 := Aside0.mk (Kd.V_below (HW.zV HO_4.out) hb); replace HO280 := Aside0.mk (Kd.V_below (HW.zV HO280.out) hb); have HO284 := Aside0.mk (Kd.V_lower (Kd.V_mono (ok' := fun k_ => (P0_ k_ ∨ w.heap.size ≤ k_)) ho0 (fun k_ hk_ => Or.elim hk_ (fun hs_ => hs_) (fun hn_ => (.inr (Nat.le_trans (below_size HW.zb) hn_))))) (below_size HW.zb)); have HO287 := Aside0.mk (Kd.V_lower (Kd.V_mono (ok' := fun k_ => (P0_ k_ ∨ w.heap.size ≤ k_)) ho1 (fun k_ hk_ => Or.elim hk_ (fun hs_ => hs_) (fun hn_ => (.inr (Nat.le_trans (below_size HW.zb) hn_))))) (below_size HW.zb)); replace HB := Aside0.mk (below_step HW.zb hb); (try clear hb); (try clear ho0); (try clear ho1)))
          refine bodyPost_ret (results_list (rs := [.tmp 2, .tmp 3, .tmp 4, .tmp 5]) rfl (by simp) (.tmp (.tmp (.tmp (.tmp .nil))))) rfl ?_
          exact ⟨_, _, rfl, HW.zV HO284.out, HW.zV HO287.out, HW.zb⟩
      replace c10 := Bool.eq_false_iff.mpr c10; subst c10
      have H1 : (some ((⟨#[]⟩ : ByteArray), ([] : List Int), l0, false)) = some (r1, r2, r3, r4) := by rw [if_neg (show ¬ (false = true) by decide)] at H; exact H
      clear H; have H := H1; clear H1
      as_aux_lemma =>
        simp only [Option.some.injEq, Prod.mk.injEq] at H
        obtain ⟨rfl, rfl, rfl, rfl⟩ := H; obtain ⟨Ao15, co15, eo15⟩ := Kd.V_slice HO_4.out; subst eo15
        go_wp2_with (first | ((with_reducible refine gate_callee (f := 111) rfl ?_); refine HW.gz (some 25) rfl rfl Tryz.func111 (by kernel_rfl) rfl #[.slice Ao15 t273.length co15] rfl ?_; (with_reducible refine (bsoncore_readstring.calls kj2 (fun k_ => (P0_ k_ ∨ w.heap.size ≤ k_)) _ _ t273 t277 t278 true _ ?side1 A7.out).mono ?_); (case side1 => exact HO_4.out); rintro e w16 ⟨v279, rfl, ho0, hb⟩; refine ⟨_, rfl, ?_⟩; replace HO_0 := Aside0.mk (Kd.V_below (HW.zV HO_0.out) hb); have HO280 := Aside0.mk (Kd.V_lower (Kd.V_mono (ok' := fun k_ => (P0_ k_ ∨ w.heap.size ≤ k_)) ho0 (fun k_ hk_ => Or.elim hk_ (fun hs_ => hs_) (fun hn_ => (.inr (Nat.le_trans (below_size HW.zb) hn_))))) (below_size HW.zb)); replace HB := Aside0.mk (below_step HW.zb hb); (try clear hb); (try clear ho0); obtain ⟨Ao17, co17, eo17⟩ := Kd.V_slice HO280.out; subst eo17) | ((with_reducible refine gate_callee (f := 73) rfl ?_); refine HW.gz (some 34) rfl rfl Tryz.func73 (by kernel_rfl) rfl #[.slice Ao17 t278.length co17] rfl ?_; (with_reducible refine (bsoncore_ReadDocument.calls (fun k_ => (P0_ k_ ∨ w.heap.size ≤ k_)) _ _ t278 t282 t285 false _ ?side1 A9.out).mono ?_); (case side1 => exact HO280.out); rintro e w18 ⟨v283, v286, rfl, ho0, ho1, hb⟩; refine ⟨_, rfl, ?_⟩; replace HO_0 := Aside0.mk (Kd.V_below (HW.zV HO_0.out) hb); replace HB := Aside0.mk (below_step HW.zb hb); (try clear hb); (try clear ho0); (try clear ho1)))
        refine bodyPost_ret (results_list (rs := [.tmp 2, .tmp 3, .tmp 4, .tmp 5]) rfl (by simp) (.tmp (.tmp (.tmp (.tmp .nil))))) rfl ?_
        exact ⟨_, _, rfl, Kd.V_nil _ _ _ _ _, HW.zV HO_0.out, HW.zb⟩
def bsoncore_ReadInt32.f (l0 : List Int) : Option (Int × List Int × Bool) := (binaryutil_ReadI32.f l0).bind fun bt289 => (some (bt289.1, bt289.2.1, bt289.2.2))
theorem bsoncore_ReadInt32.calls (P0_ : Nat → Prop) (A0 : Option Addr) (c0 : Nat) (l0 : List Int) (r1 : Int) (r2 : List Int) (r3 : Bool) (w : World) (hs0 : Kd.V (Kd.int .u8) 5 w w.heap.size (fun k_ => P0_ k_) (.slice A0 l0.length c0) l0) (h : bsoncore_ReadInt32.f l0 = some (r1, r2, r3)) :
    Calls Tryz.prog 85 #[.slice A0 l0.length c0] w fun e w' => ∃ v1_ : Value, e = .returned (.tuple #[.int .i32 r1, v1_, .bool r3]) ∧ Kd.V (Kd.int .u8) 5 w' w.heap.size (fun k_ => (P0_ k_ ∨ w.heap.size ≤ k_)) v1_ r2 ∧ Below w.heap.size w w' := by
  have HO0 := Aside0.mk (show Kd.V (Kd.int .u8) 5 w w.heap.size (fun k_ => (P0_ k_ ∨ w.heap.size ≤ k_)) (.slice A0 l0.length c0) l0 from Kd.V_mono hs0 (fun k_ hk => .inl hk)); have HB := Aside0.mk (Below.refl w.heap.size w); have H : ((binaryutil_ReadI32.f l0).bind fun bt289 => (some (bt289.1, bt289.2.1, bt289.2.2))) = some (r1, r2, r3) := h; clear h; replace H := Option.bind_eq_some_iff.mp H; obtain ⟨⟨t289, t290, t293⟩, A20, H⟩ := H; replace H : (some (t289, t290, t293)) = some (r1, r2, r3) := H; have A2 := Aside0.mk A20; clear A20
  as_aux_lemma =>
    simp only [Option.some.injEq, Prod.mk.injEq] at H
    obtain ⟨rfl, rfl, rfl⟩ := H
    go_enter Tryz.func85, Tryz.ntmps85
    go_wp2_with (first | ((with_reducible refine gate_callee (f := 115) rfl ?_); refine HW.gz (some 6) rfl rfl Tryz.func115 (by kernel_rfl) rfl #[.slice A0 l0.length c0] rfl ?_; (with_reducible refine (binaryutil_ReadI32.calls (fun k_ => (P0_ k_ ∨ w.heap.size ≤ k_)) _ _ l0 t289 t290 t293 _ ?side1 A2.out).mono ?_); (case side1 => exact HO0.out); rintro e w3 ⟨v291, rfl, ho0, hb⟩; refine ⟨_, rfl, ?_⟩; have HO292 := Aside0.mk (Kd.V_lower (Kd.V_mono (ok' := fun k_ => (P0_ k_ ∨ w.heap.size ≤ k_)) ho0 (fun k_ hk_ => Or.elim hk_ (fun hs_ => hs_) (fun hn_ => (.inr (Nat.le_trans (below_size HW.zb) hn_))))) (below_size HW.zb)); replace HB := Aside0.mk (below_step HW.zb hb); (try clear hb); (try clear ho0)))
    go_ret3
    exact ⟨_, rfl, HW.zV HO292.out, HW.zb⟩
theorem le_at4 {w : World} {A : Option Addr} {l : List Int} (hC : Kd.C (Kd.int .u8) w A l.length l) (h8 : 4 ≤ l.length) : ∃ a, A = some a ∧ ∀ i, i < (l.take 4).length → w.cell? (a.add i) = some (.int .u8 ((l.take 4).getD i 0)) := by
  obtain ⟨a, hA, _⟩ := Kd.at_int hC 0 (by omega) (by omega)
  refine ⟨a, hA, fun i hi => ?_⟩
  have hi8 : i < 4 := by simp only [List.length_take] at hi; omega
  obtain ⟨a', hA', hx⟩ := Kd.at_int hC (i : Int) (by omega) (by omega)
  rw [hA] at hA'
  cases hA'
  rw [Int.toNat_natCast] at hx; rw [hx]
  simp [rd, rdOf, List.getD_eq_getElem?_getD, List.getElem?_take, hi8]
def binaryutil_ReadU32.f (l0 : List Int) : Option (Int × List Int × Bool) := if l0.length < 4 then some (0, l0, false) else if ∀ z ∈ l0.take 4, (Lit.int .u8 z).wf = true then some (Lib.leZ (l0.take 4), l0.drop 4, true) else none
theorem binaryutil_ReadU32.calls (P0_ : Nat → Prop) (A0 : Option Addr) (c0 : Nat) (l0 : List Int) (r1 : Int) (r2 : List Int) (r3 : Bool) (w : World) (hs0 : Kd.V (Kd.int .u8) 5 w w.heap.size (fun k_ => P0_ k_) (.slice A0 l0.length c0) l0) (h : binaryutil_ReadU32.f l0 = some (r1, r2, r3)) :
    Calls Tryz.prog 116 #[.slice A0 l0.length c0] w fun e w' => ∃ v1_ : Value, e = .returned (.tuple #[.int .u32 r1, v1_, .bool r3]) ∧ Kd.V (Kd.int .u8) 5 w' w.heap.size (fun k_ => (P0_ k_ ∨ w.heap.size ≤ k_)) v1_ r2 ∧ Below w.heap.size w w' := by
  unfold binaryutil_ReadU32.f at h
  by_cases hn : l0.length < 4
  · rw [if_pos hn] at h
    simp only [Option.some.injEq, Prod.mk.injEq] at h
    obtain ⟨rfl, rfl, rfl⟩ := h
    have hd : decide ((l0.length : Int) < 4) = true := decide_eq_true (by omega)
    have hd2 : decide (l0.length < 4) = true := decide_eq_true hn
    go_enter Tryz.func116, Tryz.ntmps116
    go_wp2
    go_ret3
    exact ⟨_, rfl, Kd.V_mono hs0 (fun k_ hk => .inl hk), Below.refl _ _⟩
  rw [if_neg hn] at h
  by_cases hw : ∀ z ∈ l0.take 4, (Lit.int .u8 z).wf = true
  case neg => rw [if_neg hw] at h; cases h
  rw [if_pos hw] at h
  simp only [Option.some.injEq, Prod.mk.injEq] at h
  obtain ⟨rfl, rfl, rfl⟩ := h
  have h8 : 4 ≤ l0.length := by omega
  obtain ⟨_, hroom, hC⟩ := Kd.V_reads' hs0; obtain ⟨a, rfl, hcell⟩ := le_at4 hC h8
  have hd : decide ((l0.length : Int) < 4) = false := decide_eq_false (by omega)
  have hd2 : decide (l0.length < 4) = false := decide_eq_false hn
  have hl8 : (l0.take 4).length = 4 := by simp only [List.length_take]; omega
  have ht : (l0.take 4).take 4 = l0.take 4 := by simp [List.take_take]
  obtain ⟨i0, hi0, _, hsz0, _⟩ := info_parts info5; have hF : Kd.F (Kd.int .u8) w (fun k_ => P0_ k_) (some a) l0.length l0 := (Kd.V_at (base := w.heap.size) hs0).2.2
  have hcut := cut_from (P := Tryz.prog) 22 5 .i64 Tryz.underlying22 hi0 1 hsz0 (some a) l0.length c0 4 (by omega) (by omega)
  have hr := Kd.F_cut (m := (4 : Int).toNat) (c := c0) hF (by show 4 ≤ l0.length; omega) hroom
  obtain ⟨A8, hA8⟩ : ∃ A1, A1 = (if c0 = (4 : Int).toNat then (some a) else ((some a) : Option Addr).map (·.add ((4 : Int).toNat * 1))) := ⟨_, rfl⟩; have hy : (l0.drop 4).length = l0.length - (4 : Int).toNat := List.length_drop
  have hr' : Kd.F (Kd.int .u8) w (fun k_ => P0_ k_) A8 (l0.drop 4).length (l0.drop 4) := by rw [hA8]; exact hr
  rw [← hA8] at hcut; clear hA8 hr hF
  have hV : Kd.V (Kd.int .u8) 5 w w.heap.size (fun k_ => P0_ k_) (.slice A8 (l0.drop 4).length (c0 - (4 : Int).toNat)) (l0.drop 4) := Kd.V_mk (by rw [hy]; exact Nat.sub_le_sub_right hroom _) hr'
  rw [hy] at hV; clear hr' hy hs0
  go_enter Tryz.func116, Tryz.ntmps116
  go_wp2
  refine start_ (n := 8) (S := fun _ => True) (ds := []) #[ff,ff,ff,ff,ff,ff,ff,ff] (by kernel_rfl) rfl rfl trivial (fun hHeld => ?_)
  refine take_ (i := 0) (N := some 9) (v := ?_) (a' := ?_) #[tt,ff,ff,ff,ff,ff,ff,ff] rfl rfl (by kernel_rfl) (fun _ _ _ h => h) (Or.inl ⟨by rfl, ?_⟩) hHeld ?_ ?_
  rotate_left
  · rintro w' _
    go_simp
    with_reducible rfl
  rotate_left
  · exact HW.pt
  refine HW.pz (i := 1) (N := some 10) #[tt,tt,ff,ff,ff,ff,ff,ff] ?_
  refine HW.pz (i := 3) (N := some 12) #[tt,tt,ff,tt,ff,ff,ff,ff] ?_
  refine pure_ (i := 4) (N := some 13) (v := .slice A8 (l0.length - (4 : Int).toNat) (c0 - (4 : Int).toNat)) (a' := ?_) #[tt,tt,ff,tt,tt,ff,ff,ff] rfl rfl (by kernel_rfl) (fun _ _ _ h => h) (Or.inl ⟨by rfl, ?_⟩) ?_ ?_
  · intro w'
    simp [execOp, Act.eval, Sem.run_bind]
    have hx : (Tryz.prog).underlying 22 = some (.slice ((Tryz.prog).elem 22)) := by kernel_rfl
    rw [(run_sliceAt_slice (P := Tryz.prog) (w := w') 22 (.slice (some a) l0.length c0) (some (.int .i64 4)) none none hx).trans (hcut w')]
    rfl
  rotate_left
  · exact HW.pt
  refine one_ (i := 2) (N := some 11) #[tt,tt,tt,tt,tt,ff,ff,ff] rfl rfl (by kernel_rfl) (by decide) (fun K_ hK => ?_)
  refine goes_ Tryz.func166 (by kernel_rfl) rfl #[.agg #[], .slice (some a) l0.length c0] (by rfl) rfl rfl HW.mt ?_
  refine (Tryz.binary_LE_Uint32_z a l0.length c0 (l0.take 4) w.drew h8 (Nat.le_of_eq hl8.symm) hcell hw).mono ?_
  rintro e w' ⟨rfl, hb⟩
  rw [ht]
  refine ⟨_, rfl, ?_⟩
  refine hK.out _ _ trivial (fun hHeld => ?_)
  clear hK K_
  refine HW.nz (N := (some 11)) ?_
  refine HW.pz (i := 5) (N := some 2) #[tt,tt,tt,tt,tt,tt,ff,ff] ?_
  refine HW.pz (i := 6) (N := some 3) #[tt,tt,tt,tt,tt,tt,tt,ff] ?_
  refine HW.pz (i := 7) (N := some 4) #[tt,tt,tt,tt,tt,tt,tt,tt] ?_
  refine done_ (by kernel_rfl) ?_
  go_wp2
  go_ret3
  exact ⟨_, rfl, Kd.V_mono (Kd.V_below hV (below_step (below_drew1 (Below.refl w.heap.size w)) hb)) (fun k_ hk => .inl hk), below_step (below_drew1 (Below.refl w.heap.size w)) hb⟩
def bsoncore_ReadTimestamp.f (l0 : List Int) : Option (Int × Int × List Int × Bool) := (binaryutil_ReadU32.f l0).bind fun bt294 => (if bt294.2.2 = true then ((binaryutil_ReadU32.f bt294.2.1).bind fun bt299 => (if bt299.2.2 = true then (some (bt299.1, bt294.1, bt299.2.1, true)) else (some (0, 0, l0, false)))) else (some (0, 0, l0, false)))
theorem bsoncore_ReadTimestamp.calls (P0_ : Nat → Prop) (A0 : Option Addr) (c0 : Nat) (l0 : List Int) (r1 : Int) (r2 : Int) (r3 : List Int) (r4 : Bool) (w : World) (hs0 : Kd.V (Kd.int .u8) 5 w w.heap.size (fun k_ => P0_ k_) (.slice A0 l0.length c0) l0) (h : bsoncore_ReadTimestamp.f l0 = some (r1, r2, r3, r4)) :
    Calls Tryz.prog 86 #[.slice A0 l0.length c0] w fun e w' => ∃ v2_ : Value, e = .returned (.tuple #[.int .u32 r1, .int .u32 r2, v2_, .bool r4]) ∧ Kd.V (Kd.int .u8) 5 w' w.heap.size (fun k_ => (P0_ k_ ∨ w.heap.size ≤ k_)) v2_ r3 ∧ Below w.heap.size w w' := by
  have HO0 := Aside0.mk (show Kd.V (Kd.int .u8) 5 w w.heap.size (fun k_ => (P0_ k_ ∨ w.heap.size ≤ k_)) (.slice A0 l0.length c0) l0 from Kd.V_mono hs0 (fun k_ hk => .inl hk)); have HB := Aside0.mk (Below.refl w.heap.size w); have H : ((binaryutil_ReadU32.f l0).bind fun bt294 => (if bt294.2.2 = true then ((binaryutil_ReadU32.f bt294.2.1).bind fun bt299 => (if bt299.2.2 = true then (some (bt299.1, bt294.1, bt299.2.1, true)) else (some (0, 0, l0, false)))) else (some (0, 0, l0, false)))) = some (r1, r2, r3, r4) := h; clear h; replace H := Option.bind_eq_some_iff.mp H; obtain ⟨⟨t294, t295, t298⟩, A20, H⟩ := H; replace H : (if t298 = true then ((binaryutil_ReadU32.f t295).bind fun bt299 => (if bt299.2.2 = true then (some (bt299.1, t294, bt299.2.1, true)) else (some (0, 0, l0, false)))) else (some (0, 0, l0, false))) = some (r1, r2, r3, r4) := H; have A2 := Aside0.mk A20; clear A20
  by_cases c3 : t298 = true
  rotate_left
  · replace c3 := Bool.eq_false_iff.mpr c3
    subst c3
    have H1 : (some (0, 0, l0, false)) = some (r1, r2, r3, r4) := by rw [if_neg (show ¬ (false = true) by decide)] at H; exact H
    clear H; have H := H1; clear H1
    as_aux_lemma =>
      simp only [Option.some.injEq, Prod.mk.injEq] at H
      obtain ⟨rfl, rfl, rfl, rfl⟩ := H
      go_enter Tryz.func86, Tryz.ntmps86
      go_wp2_with (first | ((with_reducible refine gate_callee (f := 116) rfl ?_); refine HW.gz (some 8) rfl rfl Tryz.func116 (by kernel_rfl) rfl #[.slice A0 l0.length c0] rfl ?_; (with_reducible refine (binaryutil_ReadU32.calls (fun k_ => (P0_ k_ ∨ w.heap.size ≤ k_)) _ _ l0 t294 t295 false _ ?side1 A2.out).mono ?_); (case side1 => exact HO0.out); rintro e w12 ⟨v296, rfl, ho0, hb⟩; refine ⟨_, rfl, ?_⟩; replace HO0 := Aside0.mk (Kd.V_below (HW.zV HO0.out) hb); have HO297 := Aside0.mk (Kd.V_lower (Kd.V_mono (ok' := fun k_ => (P0_ k_ ∨ w.heap.size ≤ k_)) ho0 (fun k_ hk_ => Or.elim hk_ (fun hs_ => hs_) (fun hn_ => (.inr (Nat.le_trans (below_size HW.zb) hn_))))) (below_size HW.zb)); replace HB := Aside0.mk (below_step HW.zb hb); (try clear hb); (try clear ho0)))
      refine bodyPost_ret (results_list (rs := [.tmp 2, .tmp 3, .tmp 4, .tmp 5]) rfl (by simp) (.tmp (.tmp (.tmp (.tmp .nil))))) rfl ?_
      exact ⟨_, rfl, HW.zV HO0.out, HW.zb⟩
  subst c3
  have H1 : ((binaryutil_ReadU32.f t295).bind fun bt299 => (if bt299.2.2 = true then (some (bt299.1, t294, bt299.2.1, true)) else (some (0, 0, l0, false)))) = some (r1, r2, r3, r4) := by rw [if_pos rfl] at H; exact H
  clear H; have H := H1; clear H1; replace H := Option.bind_eq_some_iff.mp H; obtain ⟨⟨t299, t300, t303⟩, A40, H⟩ := H; replace H : (if t303 = true then (some (t299, t294, t300, true)) else (some (0, 0, l0, false))) = some (r1, r2, r3, r4) := H; have A4 := Aside0.mk A40; clear A40
  by_cases c5 : t303 = true
  · subst c5
    have H1 : (some (t299, t294, t300, true)) = some (r1, r2, r3, r4) := by rw [if_pos rfl] at H; exact H
    clear H; have H := H1; clear H1
    as_aux_lemma =>
      simp only [Option.some.injEq, Prod.mk.injEq] at H
      obtain ⟨rfl, rfl, rfl, rfl⟩ := H
      go_enter Tryz.func86, Tryz.ntmps86
      go_wp2_with (first | ((with_reducible refine gate_callee (f := 116) rfl ?_); refine HW.gz (some 8) rfl rfl Tryz.func116 (by kernel_rfl) rfl #[.slice A0 l0.length c0] rfl ?_; (with_reducible refine (binaryutil_ReadU32.calls (fun k_ => (P0_ k_ ∨ w.heap.size ≤ k_)) _ _ l0 t294 t295 true _ ?side1 A2.out).mono ?_); (case side1 => exact HO0.out); rintro e w6 ⟨v296, rfl, ho0, hb⟩; refine ⟨_, rfl, ?_⟩; replace HO0 := Aside0.mk (Kd.V_below (HW.zV HO0.out) hb); have HO297 := Aside0.mk (Kd.V_lower (Kd.V_mono (ok' := fun k_ => (P0_ k_ ∨ w.heap.size ≤ k_)) ho0 (fun k_ hk_ => Or.elim hk_ (fun hs_ => hs_) (fun hn_ => (.inr (Nat.le_trans (below_size HW.zb) hn_))))) (below_size HW.zb)); replace HB := Aside0.mk (below_step HW.zb hb); (try clear hb); (try clear ho0); obtain ⟨Ao7, co7, eo7⟩ := Kd.V_slice HO297.out; subst eo7) | ((with_reducible refine gate_callee (f := 116) rfl ?_); refine HW.gz (some 17) rfl rfl Tryz.func116 (by kernel_rfl) rfl #[.slice Ao7 t295.length co7] rfl ?_; (with_reducible refine (binaryutil_ReadU32.calls (fun k_ => (P0_ k_ ∨ w.heap.size ≤ k_)) _ _ t295 t299 t300 true _ ?side1 A4.out).mono ?_); (case side1 => exact HO297.out); rintro e w8 ⟨v301, rfl, ho0, hb⟩; refine ⟨_, rfl, ?_⟩; replace HO0 := Aside0.mk (Kd.V_below (HW.zV HO0.out) hb); replace HO297 := Aside0.mk (Kd.V_below (HW.zV HO297.out) hb); have HO302 := Aside0.mk (Kd.V_lower (Kd.V_mono (ok' := fun k_ => (P0_ k_ ∨ w.heap.size ≤ k_)) ho0 (fun k_ hk_ => Or.elim hk_ (fun hs_ => hs_) (fun hn_ => (.inr (Nat.le_trans (below_size HW.zb) hn_))))) (below_size HW.zb)); replace HB := Aside0.mk (below_step HW.zb hb); (try clear hb); (try clear ho0)))
      refine bodyPost_ret (results_list (rs := [.tmp 2, .tmp 3, .tmp 4, .tmp 5]) rfl (by simp) (.tmp (.tmp (.tmp (.tmp .nil))))) rfl ?_
      exact ⟨_, rfl, HW.zV HO302.out, HW.zb⟩
  replace c5 := Bool.eq_false_iff.mpr c5; subst c5
  have H1 : (some (0, 0, l0, false)) = some (r1, r2, r3, r4) := by rw [if_neg (show ¬ (false = true) by decide)] at H; exact H
  clear H; have H := H1; clear H1
  as_aux_lemma =>
    simp only [Option.some.injEq, Prod.mk.injEq] at H
    obtain ⟨rfl, rfl, rfl, rfl⟩ := H
    go_enter Tryz.func86, Tryz.ntmps86
    go_wp2_with (first | ((with_reducible refine gate_callee (f := 116) rfl ?_); refine HW.gz (some 8) rfl rfl Tryz.func116 (by kernel_rfl) rfl #[.slice A0 l0.length c0] rfl ?_; (with_reducible refine (binaryutil_ReadU32.calls (fun k_ => (P0_ k_ ∨ w.heap.size ≤ k_)) _ _ l0 t294 t295 true _ ?side1 A2.out).mono ?_); (case side1 => exact HO0.out); rintro e w9 ⟨v296, rfl, ho0, hb⟩; refine ⟨_, rfl, ?_⟩; replace HO0 := Aside0.mk (Kd.V_below (HW.zV HO0.out) hb); have HO297 := Aside0.mk (Kd.V_lower (Kd.V_mono (ok' := fun k_ => (P0_ k_ ∨ w.heap.size ≤ k_)) ho0 (fun k_ hk_ => Or.elim hk_ (fun hs_ => hs_) (fun hn_ => (.inr (Nat.le_trans (below_size HW.zb) hn_))))) (below_size HW.zb)); replace HB := Aside0.mk (below_step HW.zb hb); (try clear hb); (try clear ho0); obtain ⟨Ao10, co10, eo10⟩ := Kd.V_slice HO297.out; subst eo10) | ((with_reducible refine gate_callee (f := 116) rfl ?_); refine HW.gz (some 17) rfl rfl Tryz.func116 (by kernel_rfl) rfl #[.slice Ao10 t295.length co10] rfl ?_; (with_reducible refine (binaryutil_ReadU32.calls (fun k_ => (P0_ k_ ∨ w.heap.size ≤ k_)) _ _ t295 t299 t300 false _ ?side1 A4.out).mono ?_); (case side1 => exact HO297.out); rintro e w11 ⟨v301, rfl, ho0, hb⟩; refine ⟨_, rfl, ?_⟩; replace HO0 := Aside0.mk (Kd.V_below (HW.zV HO0.out) hb); replace HB := Aside0.mk (below_step HW.zb hb); (try clear hb); (try clear ho0)))
    refine bodyPost_ret (results_list (rs := [.tmp 2, .tmp 3, .tmp 4, .tmp 5]) rfl (by simp) (.tmp (.tmp (.tmp (.tmp .nil))))) rfl ?_
    exact ⟨_, rfl, HW.zV HO0.out, HW.zb⟩
def bsoncore_ReadInt64.f (l0 : List Int) : Option (Int × List Int × Bool) := (binaryutil_ReadI64.f l0).bind fun bt304 => (some (bt304.1, bt304.2.1, bt304.2.2))
theorem bsoncore_ReadInt64.calls (P0_ : Nat → Prop) (A0 : Option Addr) (c0 : Nat) (l0 : List Int) (r1 : Int) (r2 : List Int) (r3 : Bool) (w : World) (hs0 : Kd.V (Kd.int .u8) 5 w w.heap.size (fun k_ => P0_ k_) (.slice A0 l0.length c0) l0) (h : bsoncore_ReadInt64.f l0 = some (r1, r2, r3)) :
    Calls Tryz.prog 87 #[.slice A0 l0.length c0] w fun e w' => ∃ v1_ : Value, e = .returned (.tuple #[.int .i64 r1, v1_, .bool r3]) ∧ Kd.V (Kd.int .u8) 5 w' w.heap.size (fun k_ => (P0_ k_ ∨ w.heap.size ≤ k_)) v1_ r2 ∧ Below w.heap.size w w' := by
  have HO0 := Aside0.mk (show Kd.V (Kd.int .u8) 5 w w.heap.size (fun k_ => (P0_ k_ ∨ w.heap.size ≤ k_)) (.slice A0 l0.length c0) l0 from Kd.V_mono hs0 (fun k_ hk => .inl hk)); have HB := Aside0.mk (Below.refl w.heap.size w); have H : ((binaryutil_ReadI64.f l0).bind fun bt304 => (some (bt304.1, bt304.2.1, bt304.2.2))) = some (r1, r2, r3) := h; clear h; replace H := Option.bind_eq_some_iff.mp H; obtain ⟨⟨t304, t305, t308⟩, A20, H⟩ := H; replace H : (some (t304, t305, t308)) = some (r1, r2, r3) := H; have A2 := Aside0.mk A20; clear A20
  as_aux_lemma =>
    simp only [Option.some.injEq, Prod.mk.injEq] at H
    obtain ⟨rfl, rfl, rfl⟩ := H
    go_enter Tryz.func87, Tryz.ntmps87
    go_wp2_with (first | ((with_reducible refine gate_callee (f := 114) rfl ?_); refine HW.gz (some 6) rfl rfl Tryz.func114 (by kernel_rfl) rfl #[.slice A0 l0.length c0] rfl ?_; (with_reducible refine (binaryutil_ReadI64.calls (fun k_ => (P0_ k_ ∨ w.heap.size ≤ k_)) _ _ l0 t304 t305 t308 _ ?side1 A2.out).mono ?_); (case side1 => exact HO0.out); rintro e w3 ⟨v306, rfl, ho0, hb⟩; refine ⟨_, rfl, ?_⟩; have HO307 := Aside0.mk (Kd.V_lower (Kd.V_mono (ok' := fun k_ => (P0_ k_ ∨ w.heap.size ≤ k_)) ho0 (fun k_ hk_ => Or.elim hk_ (fun hs_ => hs_) (fun hn_ => (.inr (Nat.le_trans (below_size HW.zb) hn_))))) (below_size HW.zb)); replace HB := Aside0.mk (below_step HW.zb hb); (try clear hb); (try clear ho0)))
    go_ret3
    exact ⟨_, rfl, HW.zV HO307.out, HW.zb⟩
theorem le_at8 {w : World} {A : Option Addr} {l : List Int} (hC : Kd.C (Kd.int .u8) w A l.length l) (h8 : 8 ≤ l.length) : ∃ a, A = some a ∧ ∀ i, i < (l.take 8).length → w.cell? (a.add i) = some (.int .u8 ((l.take 8).getD i 0)) := by
  obtain ⟨a, hA, _⟩ := Kd.at_int hC 0 (by omega) (by omega)
  refine ⟨a, hA, fun i hi => ?_⟩
  have hi8 : i < 8 := by simp only [List.length_take] at hi; omega
  obtain ⟨a', hA', hx⟩ := Kd.at_int hC (i : Int) (by omega) (by omega)
  rw [hA] at hA'
  cases hA'
  rw [Int.toNat_natCast] at hx; rw [hx]
  simp [rd, rdOf, List.getD_eq_getElem?_getD, List.getElem?_take, hi8]
def binaryutil_ReadU64.f (l0 : List Int) : Option (Int × List Int × Bool) := if l0.length < 8 then some (0, l0, false) else if ∀ z ∈ l0.take 8, (Lit.int .u8 z).wf = true then some (Lib.leZ (l0.take 8), l0.drop 8, true) else none
theorem binaryutil_ReadU64.calls (P0_ : Nat → Prop) (A0 : Option Addr) (c0 : Nat) (l0 : List Int) (r1 : Int) (r2 : List Int) (r3 : Bool) (w : World) (hs0 : Kd.V (Kd.int .u8) 5 w w.heap.size (fun k_ => P0_ k_) (.slice A0 l0.length c0) l0) (h : binaryutil_ReadU64.f l0 = some (r1, r2, r3)) :
    Calls Tryz.prog 110 #[.slice A0 l0.length c0] w fun e w' => ∃ v1_ : Value, e = .returned (.tuple #[.int .u64 r1, v1_, .bool r3]) ∧ Kd.V (Kd.int .u8) 5 w' w.heap.size (fun k_ => (P0_ k_ ∨ w.heap.size ≤ k_)) v1_ r2 ∧ Below w.heap.size w w' := by
  unfold binaryutil_ReadU64.f at h
  by_cases hn : l0.length < 8
  · rw [if_pos hn] at h
    simp only [Option.some.injEq, Prod.mk.injEq] at h
    obtain ⟨rfl, rfl, rfl⟩ := h
    have hd : decide ((l0.length : Int) < 8) = true := decide_eq_true (by omega)
    have hd2 : decide (l0.length < 8) = true := decide_eq_true hn
    go_enter Tryz.func110, Tryz.ntmps110
    go_wp2
    go_ret3
    exact ⟨_, rfl, Kd.V_mono hs0 (fun k_ hk => .inl hk), Below.refl _ _⟩
  rw [if_neg hn] at h
  by_cases hw : ∀ z ∈ l0.take 8, (Lit.int .u8 z).wf = true
  case neg => rw [if_neg hw] at h; cases h
  rw [if_pos hw] at h
  simp only [Option.some.injEq, Prod.mk.injEq] at h
  obtain ⟨rfl, rfl, rfl⟩ := h
  have h8 : 8 ≤ l0.length := by omega
  obtain ⟨_, hroom, hC⟩ := Kd.V_reads' hs0; obtain ⟨a, rfl, hcell⟩ := le_at8 hC h8
  have hd : decide ((l0.length : Int) < 8) = false := decide_eq_false (by omega)
  have hd2 : decide (l0.length < 8) = false := decide_eq_false hn
  have hl8 : (l0.take 8).length = 8 := by simp only [List.length_take]; omega
  have ht : (l0.take 8).take 8 = l0.take 8 := by simp [List.take_take]
  obtain ⟨i0, hi0, _, hsz0, _⟩ := info_parts info5; have hF : Kd.F (Kd.int .u8) w (fun k_ => P0_ k_) (some a) l0.length l0 := (Kd.V_at (base := w.heap.size) hs0).2.2
  have hcut := cut_from (P := Tryz.prog) 22 5 .i64 Tryz.underlying22 hi0 1 hsz0 (some a) l0.length c0 8 (by omega) (by omega)
  have hr := Kd.F_cut (m := (8 : Int).toNat) (c := c0) hF (by show 8 ≤ l0.length; omega) hroom
  obtain ⟨A8, hA8⟩ : ∃ A1, A1 = (if c0 = (8 : Int).toNat then (some a) else ((some a) : Option Addr).map (·.add ((8 : Int).toNat * 1))) := ⟨_, rfl⟩; have hy : (l0.drop 8).length = l0.length - (8 : Int).toNat := List.length_drop
  have hr' : Kd.F (Kd.int .u8) w (fun k_ => P0_ k_) A8 (l0.drop 8).length (l0.drop 8) := by rw [hA8]; exact hr
  rw [← hA8] at hcut; clear hA8 hr hF
  have hV : Kd.V (Kd.int .u8) 5 w w.heap.size (fun k_ => P0_ k_) (.slice A8 (l0.drop 8).length (c0 - (8 : Int).toNat)) (l0.drop 8) := Kd.V_mk (by rw [hy]; exact Nat.sub_le_sub_right hroom _) hr'
  rw [hy] at hV; clear hr' hy hs0
  go_enter Tryz.func110, Tryz.ntmps110
  go_wp2
  refine start_ (n := 8) (S := fun _ => True) (ds := []) #[ff,ff,ff,ff,ff,ff,ff,ff] (by kernel_rfl) rfl rfl trivial (fun hHeld => ?_)
  refine take_ (i := 0) (N := some 9) (v := ?_) (a' := ?_) #[tt,ff,ff,ff,ff,ff,ff,ff] rfl rfl (by kernel_rfl) (fun _ _ _ h => h) (Or.inl ⟨by rfl, ?_⟩) hHeld ?_ ?_
  rotate_left
  · rintro w' _
    go_simp
    with_reducible rfl
  rotate_left
  · exact HW.pt
  refine HW.pz (i := 1) (N := some 10) #[tt,tt,ff,ff,ff,ff,ff,ff] ?_
  refine HW.pz (i := 3) (N := some 12) #[tt,tt,ff,tt,ff,ff,ff,ff] ?_
  refine pure_ (i := 4) (N := some 13) (v := .slice A8 (l0.length - (8 : Int).toNat) (c0 - (8 : Int).toNat)) (a' := ?_) #[tt,tt,ff,tt,tt,ff,ff,ff] rfl rfl (by kernel_rfl) (fun _ _ _ h => h) (Or.inl ⟨by rfl, ?_⟩) ?_ ?_
  · intro w'
    simp [execOp, Act.eval, Sem.run_bind]
    have hx : (Tryz.prog).underlying 22 = some (.slice ((Tryz.prog).elem 22)) := by kernel_rfl
    rw [(run_sliceAt_slice (P := Tryz.prog) (w := w') 22 (.slice (some a) l0.length c0) (some (.int .i64 8)) none none hx).trans (hcut w')]
    rfl
  rotate_left
  · exact HW.pt
  refine one_ (i := 2) (N := some 11) #[tt,tt,tt,tt,tt,ff,ff,ff] rfl rfl (by kernel_rfl) (by decide) (fun K_ hK => ?_)
  refine goes_ Tryz.func165 (by kernel_rfl) rfl #[.agg #[], .slice (some a) l0.length c0] (by rfl) rfl rfl HW.mt ?_
  refine (Tryz.binary_LE_Uint64_z a l0.length c0 (l0.take 8) w.drew h8 (Nat.le_of_eq hl8.symm) hcell hw).mono ?_
  rintro e w' ⟨rfl, hb⟩
  rw [ht]
  refine ⟨_, rfl, ?_⟩
  refine hK.out _ _ trivial (fun hHeld => ?_)
  clear hK K_
  refine HW.nz (N := (some 11)) ?_
  refine HW.pz (i := 5) (N := some 2) #[tt,tt,tt,tt,tt,tt,ff,ff] ?_
  refine HW.pz (i := 6) (N := some 3) #[tt,tt,tt,tt,tt,tt,tt,ff] ?_
  refine HW.pz (i := 7) (N := some 4) #[tt,tt,tt,tt,tt,tt,tt,tt] ?_
  refine done_ (by kernel_rfl) ?_
  go_wp2
  go_ret3
  exact ⟨_, rfl, Kd.V_mono (Kd.V_below hV (below_step (below_drew1 (Below.refl w.heap.size w)) hb)) (fun k_ hk => .inl hk), below_step (below_drew1 (Below.refl w.heap.size w)) hb⟩
def bsoncore_ReadDecimal128.f (l0 : List Int) : Option (Int × Int × List Int × Bool) := (binaryutil_ReadU64.f l0).bind fun bt309 => (if bt309.2.2 = true then ((binaryutil_ReadU64.f bt309.2.1).bind fun bt314 => (if bt314.2.2 = true then (some (bt314.1, bt309.1, bt314.2.1, true)) else (some (0, 0, l0, false)))) else (some (0, 0, l0, false)))
theorem bsoncore_ReadDecimal128.calls (P0_ : Nat → Prop) (A0 : Option Addr) (c0 : Nat) (l0 : List Int) (r1 : Int) (r2 : Int) (r3 : List Int) (r4 : Bool) (w : World) (hs0 : Kd.V (Kd.int .u8) 5 w w.heap.size (fun k_ => P0_ k_) (.slice A0 l0.length c0) l0) (h : bsoncore_ReadDecimal128.f l0 = some (r1, r2, r3, r4)) :
    Calls Tryz.prog 88 #[.slice A0 l0.length c0] w fun e w' => ∃ v2_ : Value, e = .returned (.tuple #[.int .u64 r1, .int .u64 r2, v2_, .bool r4]) ∧ Kd.V (Kd.int .u8) 5 w' w.heap.size (fun k_ => (P0_ k_ ∨ w.heap.size ≤ k_)) v2_ r3 ∧ Below w.heap.size w w' := by
  have HO0 := Aside0.mk (show Kd.V (Kd.int .u8) 5 w w.heap.size (fun k_ => (P0_ k_ ∨ w.heap.size ≤ k_)) (.slice A0 l0.length c0) l0 from Kd.V_mono hs0 (fun k_ hk => .inl hk)); have HB := Aside0.mk (Below.refl w.heap.size w); have H : ((binaryutil_ReadU64.f l0).bind fun bt309 => (if bt309.2.2 = true then ((binaryutil_ReadU64.f bt309.2.1).bind fun bt314 => (if bt314.2.2 = true then (some (bt314.1, bt309.1, bt314.2.1, true)) else (some (0, 0, l0, false)))) else (some (0, 0, l0, false)))) = some (r1, r2, r3, r4) := h; clear h; replace H := Option.bind_eq_some_iff.mp H; obtain ⟨⟨t309, t310, t313⟩, A20, H⟩ := H; replace H : (if t313 = true then ((binaryutil_ReadU64.f t310).bind fun bt314 => (if bt314.2.2 = true then (some (bt314.1, t309, bt314.2.1, true)) else (some (0, 0, l0, false)))) else (some (0, 0, l0, false))) = some (r1, r2, r3, r4) := H; have A2 := Aside0.mk A20; clear A20
  by_cases c3 : t313 = true
  rotate_left
  · replace c3 := Bool.eq_false_iff.mpr c3
    subst c3
    have H1 : (some (0, 0, l0, false)) = some (r1, r2, r3, r4) := by rw [if_neg (show ¬ (false = true) by decide)] at H; exact H
    clear H; have H := H1; clear H1
    as_aux_lemma =>
      simp only [Option.some.injEq, Prod.mk.injEq] at H
      obtain ⟨rfl, rfl, rfl, rfl⟩ := H
      go_enter Tryz.func88, Tryz.ntmps88
      go_wp2_with (first | ((with_reducible refine gate_callee (f := 110) rfl ?_); refine HW.gz (some 8) rfl rfl Tryz.func110 (by kernel_rfl) rfl #[.slice A0 l0.length c0] rfl ?_; (with_reducible refine (binaryutil_ReadU64.calls (fun k_ => (P0_ k_ ∨ w.heap.size ≤ k_)) _ _ l0 t309 t310 false _ ?side1 A2.out).mono ?_); (case side1 => exact HO0.out); rintro e w12 ⟨v311, rfl, ho0, hb⟩; refine ⟨_, rfl, ?_⟩; replace HO0 := Aside0.mk (Kd.V_below (HW.zV HO0.out) hb); have HO312 := Aside0.mk (Kd.V_lower (Kd.V_mono (ok' := fun k_ => (P0_ k_ ∨ w.heap.size ≤ k_)) ho0 (fun k_ hk_ => Or.elim hk_ (fun hs_ => hs_) (fun hn_ => (.inr (Nat.le_trans (below_size HW.zb) hn_))))) (below_size HW.zb)); replace HB := Aside0.mk (below_step HW.zb hb); (try clear hb); (try clear ho0)))
      refine bodyPost_ret (results_list (rs := [.tmp 2, .tmp 3, .tmp 4, .tmp 5]) rfl (by simp) (.tmp (.tmp (.tmp (.tmp .nil))))) rfl ?_
      exact ⟨_, rfl, HW.zV HO0.out, HW.zb⟩
  subst c3
  have H1 : ((binaryutil_ReadU64.f t310).bind fun bt314 => (if bt314.2.2 = true then (some (bt314.1, t309, bt314.2.1, true)) else (some (0, 0, l0, false)))) = some (r1, r2, r3, r4) := by rw [if_pos rfl] at H; exact H
  clear H; have H := H1; clear H1; replace H := Option.bind_eq_some_iff.mp H; obtain ⟨⟨t314, t315, t318⟩, A40, H⟩ := H; replace H : (if t318 = true then (some (t314, t309, t315, true)) else (some (0, 0, l0, false))) = some (r1, r2, r3, r4) := H; have A4 := Aside0.mk A40; clear A40
  by_cases c5 : t318 = true
  · subst c5
    have H1 : (some (t314, t309, t315, true)) = some (r1, r2, r3, r4) := by rw [if_pos rfl] at H; exact H
    clear H; have H := H1; clear H1
    as_aux_lemma =>
      simp only [Option.some.injEq, Prod.mk.injEq] at H
      obtain ⟨rfl, rfl, rfl, rfl⟩ := H
      go_enter Tryz.func88, Tryz.ntmps88
      go_wp2_with (first | ((with_reducible refine gate_callee (f := 110) rfl ?_); refine HW.gz (some 8) rfl rfl Tryz.func110 (by kernel_rfl) rfl #[.slice A0 l0.length c0] rfl ?_; (with_reducible refine (binaryutil_ReadU64.calls (fun k_ => (P0_ k_ ∨ w.heap.size ≤ k_)) _ _ l0 t309 t310 true _ ?side1 A2.out).mono ?_); (case side1 => exact HO0.out); rintro e w6 ⟨v311, rfl, ho0, hb⟩; refine ⟨_, rfl, ?_⟩; replace HO0 := Aside0.mk (Kd.V_below (HW.zV HO0.out) hb); have HO312 := Aside0.mk (Kd.V_lower (Kd.V_mono (ok' := fun k_ => (P0_ k_ ∨ w.heap.size ≤ k_)) ho0 (fun k_ hk_ => Or.elim hk_ (fun hs_ => hs_) (fun hn_ => (.inr (Nat.le_trans (below_size HW.zb) hn_))))) (below_size HW.zb)); replace HB := Aside0.mk (below_step HW.zb hb); (try clear hb); (try clear ho0); obtain ⟨Ao7, co7, eo7⟩ := Kd.V_slice HO312.out; subst eo7) | ((with_reducible refine gate_callee (f := 110) rfl ?_); refine HW.gz (some 17) rfl rfl Tryz.func110 (by kernel_rfl) rfl #[.slice Ao7 t310.length co7] rfl ?_; (with_reducible refine (binaryutil_ReadU64.calls (fun k_ => (P0_ k_ ∨ w.heap.size ≤ k_)) _ _ t310 t314 t315 true _ ?side1 A4.out).mono ?_); (case side1 => exact HO312.out); rintro e w8 ⟨v316, rfl, ho0, hb⟩; refine ⟨_, rfl, ?_⟩; replace HO0 := Aside0.mk (Kd.V_below (HW.zV HO0.out) hb); replace HO312 := Aside0.mk (Kd.V_below (HW.zV HO312.out) hb); have HO317 := Aside0.mk (Kd.V_lower (Kd.V_mono (ok' := fun k_ => (P0_ k_ ∨ w.heap.size ≤ k_)) ho0 (fun k_ hk_ => Or.elim hk_ (fun hs_ => hs_) (fun hn_ => (.inr (Nat.le_trans (below_size HW.zb) hn_))))) (below_size HW.zb)); replace HB := Aside0.mk (below_step HW.zb hb); (try clear hb); (try clear ho0)))
      refine bodyPost_ret (results_list (rs := [.tmp 2, .tmp 3, .tmp 4, .tmp 5]) rfl (by simp) (.tmp (.tmp (.tmp (.tmp .nil))))) rfl ?_
      exact ⟨_, rfl, HW.zV HO317.out, HW.zb⟩
  replace c5 := Bool.eq_false_iff.mpr c5; subst c5
  have H1 : (some (0, 0, l0, false)) = some (r1, r2, r3, r4) := by rw [if_neg (show ¬ (false = true) by decide)] at H; exact H
  clear H; have H := H1; clear H1
  as_aux_lemma =>
    simp only [Option.some.injEq, Prod.mk.injEq] at H
    obtain ⟨rfl, rfl, rfl, rfl⟩ := H
    go_enter Tryz.func88, Tryz.ntmps88
    go_wp2_with (first | ((with_reducible refine gate_callee (f := 110) rfl ?_); refine HW.gz (some 8) rfl rfl Tryz.func110 (by kernel_rfl) rfl #[.slice A0 l0.length c0] rfl ?_; (with_reducible refine (binaryutil_ReadU64.calls (fun k_ => (P0_ k_ ∨ w.heap.size ≤ k_)) _ _ l0 t309 t310 true _ ?side1 A2.out).mono ?_); (case side1 => exact HO0.out); rintro e w9 ⟨v311, rfl, ho0, hb⟩; refine ⟨_, rfl, ?_⟩; replace HO0 := Aside0.mk (Kd.V_below (HW.zV HO0.out) hb); have HO312 := Aside0.mk (Kd.V_lower (Kd.V_mono (ok' := fun k_ => (P0_ k_ ∨ w.heap.size ≤ k_)) ho0 (fun k_ hk_ => Or.elim hk_ (fun hs_ => hs_) (fun hn_ => (.inr (Nat.le_trans (below_size HW.zb) hn_))))) (below_size HW.zb)); replace HB := Aside0.mk (below_step HW.zb hb); (try clear hb); (try clear ho0); obtain ⟨Ao10, co10, eo10⟩ := Kd.V_slice HO312.out; subst eo10) | ((with_reducible refine gate_callee (f := 110) rfl ?_); refine HW.gz (some 17) rfl rfl Tryz.func110 (by kernel_rfl) rfl #[.slice Ao10 t310.length co10] rfl ?_; (with_reducible refine (binaryutil_ReadU64.calls (fun k_ => (P0_ k_ ∨ w.heap.size ≤ k_)) _ _ t310 t314 t315 false _ ?side1 A4.out).mono ?_); (case side1 => exact HO312.out); rintro e w11 ⟨v316, rfl, ho0, hb⟩; refine ⟨_, rfl, ?_⟩; replace HO0 := Aside0.mk (Kd.V_below (HW.zV HO0.out) hb); replace HB := Aside0.mk (below_step HW.zb hb); (try clear hb); (try clear ho0)))
    refine bodyPost_ret (results_list (rs := [.tmp 2, .tmp 3, .tmp 4, .tmp 5]) rfl (by simp) (.tmp (.tmp (.tmp (.tmp .nil))))) rfl ?_
    exact ⟨_, rfl, HW.zV HO0.out, HW.zb⟩
end Go.Proofs.YtanecebppagakaaGreatDoor.PRx
