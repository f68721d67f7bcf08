/- Printed by a program of this session (a turned copy of the printer of the kit): contracts of functions of the translation, each with the Lean function that it computes. Conditions: as each theorem states them. -/
import Derived.Test.YthlpmeiihchdjaaDoorPVx0
namespace Go.Proofs.YthlpmeiihchdjaaDoor.PV
open Go.RowKit Go.Proofs.YthlpmeiihchdjaaDoorW.PrintWords Go.Proofs.YthlpmeiihchdjaaDoorW.PrintLast Go.Proofs.YthlpmeiihchdjaaDoorW.PrintMore
attribute [local go_sem] max2_int min2_int max_two min_two max_three min_three max_four min_four   -- for this text's walks alone
set_option linter.unusedVariables false
set_option linter.unusedSimpArgs false

/-! ### impl_own: function 17 -/
def impl_own.f (l0 : List Int) : Option (List Int) := if ([] : List Int).length + l0.length < 140737488355328 then (some (([] : List Int) ++ l0)) else (none)
set_option maxHeartbeats 8000000 in
set_option maxRecDepth 100000 in
theorem impl_own.calls (A0 : Option Addr) (c0 : Nat) (l0 : List Int) (r : List Int) (w : World) (hr0 : Kd.C (Kd.int .u8) w A0 l0.length l0) (hc0 : l0.length ≤ c0) (h : impl_own.f l0 = some r) :
    Calls Tryd.prog 17 #[.slice A0 l0.length c0] w fun e w' => ∃ v0_ : Value, e = .returned (v0_) ∧ Kd.R (Kd.int .u8) 5 w' w.heap.size (fun _ => True) v0_ r ∧ Below w.heap.size w w' := by
  have HR0 := Aside0.mk hr0
  have HC0 := Aside0.mk hc0
  clear hr0 hc0
  have HB := Aside0.mk (Below.refl w.heap.size w)
  have H : (if ([] : List Int).length + l0.length < 140737488355328 then (some (([] : List Int) ++ l0)) else (none)) = some r := h
  clear h
  by_cases c2 : ([] : List Int).length + l0.length < 140737488355328
  · rw [if_pos c2] at H
    have LMc2 := Aside0.mk c2
    clear c2
    obtain ⟨y101, hy101⟩ : ∃ y_ : List Int, y_ = (([] : List Int) ++ l0) := ⟨_, rfl⟩
    replace H : (some y101) = some r := by first | (rw [hy101]; with_reducible exact H) | (have H2_ := (Option.bind_some _ _).symm.trans H; rw [hy101]; with_reducible exact H2_) | (have H2_ := (Option.bind_some _ _).symm.trans H; with_reducible exact H2_) | with_reducible exact H | (rw [hy101]; exact H) | exact H
    have Ny101 := Aside0.mk hy101
    clear hy101
    as_aux_lemma =>
      obtain rfl := Option.some.inj H
      go_enter Tryd.func17, Tryd.ntmps17
      go_wp2_with (first | ((with_reducible refine gate_builtin (b := .append) (xs := #[.const (.slice none 0 0), .tmp 3]) rfl ?_); at_builtin; refine Kd.R_append_rows (Kd.int .u8) (w0 := w) w.heap.size rfl (.const (.slice none 0 0)) (.tmp 3) 22 5 (.int .u8 0) 1 rfl Tryd.underlying22 info5 rfl (by decide) (by omega) (.slice none 0 0) ([] : List Int) l0 _ _ _ (fun _ => True) (fun _ => False) rfl rfl ?aO ?aR (fun _ _ h => h) (fun _ h => h.elim) ?aF ?aB ?aS ?aL ?_; (case aR => repeat (first | exact HR0.out | (with_reducible refine Kd.C_alloc ?_ _) | (with_reducible refine Kd.C_drewN ?_ _) | (with_reducible refine Kd.C_drew ?_))); (case aB => exact (by repeat (first | (with_reducible first | exact HB.out | apply below_alloc | apply pw_below_drewN | apply below_drew1) | exact HB.out))); (case aF => exact (fun _ _ => trivial)); (case aO => exact ((Kd.R_nil _ _ _ _ (fun _ => True)))); (case aS => exact (below_size (by repeat (first | (with_reducible first | exact HB.out | apply below_alloc | apply pw_below_drewN | apply below_drew1) | exact HB.out)))); (case aL => have := LMc2.out; omega); intro v102 w3 ho hb hg hat; rw [← Ny101.out] at ho; have n0_ := Aside0.mk (hb); have n1_ := Aside0.mk (ho); clear HB; have HB := n0_; have HO103 := n1_; clear n0_ n1_; clear ho hb hg hat))
      go_ret
      exact ⟨_, by first | rfl | (simp [errW_none, errW_some] <;> rfl) | (simp [*, errW_none, errW_some] <;> rfl), by (with_reducible repeat (first | apply Kd.R_alloc | apply Kd.R_drewN | apply Kd.R_drew)); exact HO103.out, by repeat (first | (with_reducible first | exact HB.out | apply below_alloc | apply pw_below_drewN | apply below_drew1) | exact HB.out)⟩
  · rw [if_neg c2] at H
    exact absurd H (by simp)

-- NOT PRINTED: function 21 (bson_NewPackedBitVector)

-- NOT PRINTED: function 24 (bson_Vector_Type)

/-! ### bson_binaryFromInt8Vector: function 32 -/
def bson_binaryFromInt8Vector.l0 : Nat → List Int → List Int → Int → Int → Option (Int × List Int)
  | 0, _, _, _, _ => none
  | k + 1, x3, x14, x15, x16 => if x16 < x15 then (if 0 ≤ x16 then (if x16 < (x14.length : Int) then (if 0 ≤ (wrap64 (x16 + 2)) then (if (wrap64 (x16 + 2)) < (x3.length : Int) then (bson_binaryFromInt8Vector.l0 k (x3.set ((wrap64 (x16 + 2)) : Int).toNat ((rd x14 x16) % 256)) x14 x15 (wrap64 (x16 + 1))) else (none)) else (none)) else (none)) else (none)) else (some (9, x3))
def bson_binaryFromInt8Vector.f (k : Nat) (l0 : List Int) : Option (Int × List Int) := if 0 ≤ (wrap64 ((l0.length : Int) + 2)) then (if (wrap64 ((l0.length : Int) + 2) : Int).toNat ≤ 281474976710656 then ((some (List.replicate (wrap64 ((l0.length : Int) + 2) : Int).toNat 0 : List Int)).bind fun y105 => (if 0 < (y105.length : Int) then (if 1 < (y105.length : Int) then (bson_binaryFromInt8Vector.l0 k ((y105.set (0 : Int).toNat 3).set (1 : Int).toNat 0) l0 (l0.length : Int) 0) else (none)) else (none))) else (none)) else (none)
theorem bson_binaryFromInt8Vector.mono_l : ∀ k, (∀ y0 y1 y2 y3, LeO (bson_binaryFromInt8Vector.l0 k y0 y1 y2 y3) (bson_binaryFromInt8Vector.l0 (k + 1) y0 y1 y2 y3))
  | 0 => fun _ _ _ _ r h => by simp [bson_binaryFromInt8Vector.l0] at h
  | k + 1 => by
    have ih0 := bson_binaryFromInt8Vector.mono_l k
    · intro y0 y1 y2 y3
      unfold bson_binaryFromInt8Vector.l0
      repeat' first
      | (with_reducible exact ih0 _ _ _ _)
      | (with_reducible exact LeO.refl _)
      | (with_reducible exact LeO.none _)
      | (with_reducible refine LeO.ite ?_ ?_)
      | (with_reducible refine LeO.bind ?_ (fun _ => ?_))
      | exact ih0 _ _ _ _
      | exact LeO.none _
      | refine LeO.ite ?_ ?_
      | refine LeO.bind ?_ (fun _ => ?_)
theorem bson_binaryFromInt8Vector.mono : ∀ a0 k, LeO (bson_binaryFromInt8Vector.f k a0) (bson_binaryFromInt8Vector.f (k + 1) a0) := by
  intro a0 k
  have ih0 := bson_binaryFromInt8Vector.mono_l k
  unfold bson_binaryFromInt8Vector.f
  repeat' first
      | (with_reducible exact ih0 _ _ _ _)
      | (with_reducible exact LeO.refl _)
      | (with_reducible exact LeO.none _)
      | (with_reducible refine LeO.ite ?_ ?_)
      | (with_reducible refine LeO.bind ?_ (fun _ => ?_))
      | exact ih0 _ _ _ _
      | exact LeO.none _
      | refine LeO.ite ?_ ?_
      | refine LeO.bind ?_ (fun _ => ?_)
set_option maxHeartbeats 8000000 in
set_option maxRecDepth 100000 in
theorem bson_binaryFromInt8Vector.calls (k : Nat) (A0 : Option Addr) (c0 : Nat) (l0 : List Int) (r1 : Int) (r2 : List Int) (w : World) (hr0 : Kd.C (Kd.int .i8) w A0 l0.length l0) (hc0 : l0.length ≤ c0) (h : bson_binaryFromInt8Vector.f k l0 = some (r1, r2)) :
    Calls Tryd.prog 32 #[.slice A0 l0.length c0] w fun e w' => ∃ v1_ : Value, e = .returned (.agg #[.int .u8 r1, v1_]) ∧ Kd.R (Kd.int .u8) 5 w' w.heap.size (fun _ => True) v1_ r2 ∧ Below w.heap.size w w' := by
  have hu58 := Tryd.underlying58
  have HR0 := Aside0.mk hr0
  have HC0 := Aside0.mk hc0
  clear hr0 hc0
  have HB := Aside0.mk (Below.refl w.heap.size w)
  have H : (if 0 ≤ (wrap64 ((l0.length : Int) + 2)) then (if (wrap64 ((l0.length : Int) + 2) : Int).toNat ≤ 281474976710656 then ((some (List.replicate (wrap64 ((l0.length : Int) + 2) : Int).toNat 0 : List Int)).bind fun y105 => (if 0 < (y105.length : Int) then (if 1 < (y105.length : Int) then (bson_binaryFromInt8Vector.l0 k ((y105.set (0 : Int).toNat 3).set (1 : Int).toNat 0) l0 (l0.length : Int) 0) else (none)) else (none))) else (none)) else (none)) = some (r1, r2) := h
  clear h
  obtain ⟨ji2, hji2⟩ : ∃ j_ : Int, (wrap64 ((l0.length : Int) + 2)) = j_ := ⟨_, rfl⟩
  replace H : (if 0 ≤ (ji2) then (if (ji2 : Int).toNat ≤ 281474976710656 then ((some (List.replicate (ji2 : Int).toNat 0 : List Int)).bind fun y105 => (if 0 < (y105.length : Int) then (if 1 < (y105.length : Int) then (bson_binaryFromInt8Vector.l0 k ((y105.set (0 : Int).toNat 3).set (1 : Int).toNat 0) l0 (l0.length : Int) 0) else (none)) else (none))) else (none)) else (none)) = some (r1, r2) := by first | (rw [hji2] at H; exact H) | (simp only [hji2] at H ⊢; exact H)
  have hji2w : (IntKind.i64.wrap ((l0.length : Int) + 2)) = ji2 := (i64_w _).trans hji2
  by_cases c3 : 0 ≤ (ji2)
  · rw [if_pos c3] at H
    have c3b0 := eq_true c3
    have c3b1 : decide (0 ≤ (ji2)) = true := decide_eq_true c3
    clear c3
    by_cases c4 : (ji2 : Int).toNat ≤ 281474976710656
    · rw [if_pos c4] at H
      have c4b0 := eq_true c4
      have c4b1 : decide ((ji2 : Int).toNat ≤ 281474976710656) = true := decide_eq_true c4
      clear c4
      obtain ⟨y105, hy105⟩ : ∃ y_ : List Int, y_ = (List.replicate (ji2 : Int).toNat 0) := ⟨_, rfl⟩
      replace H : (if 0 < (y105.length : Int) then (if 1 < (y105.length : Int) then (bson_binaryFromInt8Vector.l0 k ((y105.set (0 : Int).toNat 3).set (1 : Int).toNat 0) l0 (l0.length : Int) 0) else (none)) else (none)) = some (r1, r2) := by first | (rw [hy105]; with_reducible exact H) | (have H2_ := (Option.bind_some _ _).symm.trans H; rw [hy105]; with_reducible exact H2_) | (have H2_ := (Option.bind_some _ _).symm.trans H; with_reducible exact H2_) | with_reducible exact H | (rw [hy105]; exact H) | exact H
      have Ny105 := Aside0.mk hy105
      clear hy105
      by_cases c5 : 0 < (y105.length : Int)
      · rw [if_pos c5] at H
        have c5b0 : decide (0 < (y105.length : Int)) = true := decide_eq_true c5
        have c5b1 : decide (0 < y105.length) = true := decide_eq_true (by omega)
        clear c5
        obtain ⟨y108, hy108⟩ : ∃ y_ : List Int, y_ = (y105.set (0 : Int).toNat 3) := ⟨_, rfl⟩
        replace H : (if 1 < (y105.length : Int) then (bson_binaryFromInt8Vector.l0 k (y108.set (1 : Int).toNat 0) l0 (l0.length : Int) 0) else (none)) = some (r1, r2) := by first | (rw [hy108]; with_reducible exact H) | (have H2_ := (Option.bind_some _ _).symm.trans H; rw [hy108]; with_reducible exact H2_) | (have H2_ := (Option.bind_some _ _).symm.trans H; with_reducible exact H2_) | with_reducible exact H | (rw [hy108]; exact H) | exact H
        have Ny108 := Aside0.mk hy108
        clear hy108
        by_cases c7 : 1 < (y105.length : Int)
        · rw [if_pos c7] at H
          have c7b0 : decide (1 < (y105.length : Int)) = true := decide_eq_true c7
          have c7b1 : decide (1 < y105.length) = true := decide_eq_true (by omega)
          clear c7
          obtain ⟨y109, hy109⟩ : ∃ y_ : List Int, y_ = (y108.set (1 : Int).toNat 0) := ⟨_, rfl⟩
          replace H : (bson_binaryFromInt8Vector.l0 k y109 l0 (l0.length : Int) 0) = some (r1, r2) := by first | (rw [hy109]; with_reducible exact H) | (have H2_ := (Option.bind_some _ _).symm.trans H; rw [hy109]; with_reducible exact H2_) | (have H2_ := (Option.bind_some _ _).symm.trans H; with_reducible exact H2_) | with_reducible exact H | (rw [hy109]; exact H) | exact H
          have Ny109 := Aside0.mk hy109
          clear hy109
          have H' := Aside0.mk H
          clear H
          go_enter Tryd.func32, Tryd.ntmps32
          go_wp2_with (first | ((with_reducible refine gate_dst (N := 2) rfl ?_); refine box_event ?hg (N := 2) ?hd (cs := #[.int .u8 0, .slice none 0 0]) (t := 58) ?hr ?_; (case hd => rfl); (case hg => rfl); (case hr => first | (go_simp; done) | (go_simp; rfl)); intro gb104 hg w9 hbox hb; have n0_ := Aside0.mk (below_step (by repeat (first | (with_reducible first | exact HB.out | apply below_alloc | apply pw_below_drewN | apply below_drew1) | exact HB.out)) hb); have n1_ := Aside0.mk (hbox); have n2_ := Aside0.mk ((by rw [hg]; exact (below_size (by repeat (first | (with_reducible first | exact HB.out | apply below_alloc | apply pw_below_drewN | apply below_drew1) | exact HB.out))) : w.heap.size ≤ gb104)); have n3_ := Aside0.mk ((by rw [hg]; exact (below_size (by repeat (first | (with_reducible first | exact HB.out | apply below_alloc | apply pw_below_drewN | apply below_drew1) | exact HB.out))) : w.heap.size ≤ gb104)); clear HB; have HB := n0_; have BK104 := n1_; have GW104 := n2_; have GE104 := n3_; clear n0_ n1_ n2_ n3_; clear hb hbox hg) | ((with_reducible refine gate_dst (N := 9) rfl ?_); refine Kd.R_make (Kd.int .u8) _ 5 rfl (N := 9) rfl 22 _ _ rfl ji2 rfl rfl Tryd.underlying22 (.int .u8 0) 1 info5 rfl (by decide) (by omega) 0 (ok := fun _ => True) (okp := fun _ => True) rfl (fun _ hk => hk) trivial (of_decide_eq_true (by first | (with_reducible assumption) | assumption)) (Nat.le_trans (Nat.mul_le_mul_right _ (of_decide_eq_true (by first | (with_reducible assumption) | assumption) : ji2.toNat ≤ 281474976710656)) (by omega)) (Below.refl _ _) (Nat.le_refl _) ?_; intro v106 w10 ho11 hb hg_ hnew_; clear hg_ hnew_; (first | rw [← Ny105.out] at ho11 | (simp only [Int.reduceToNat] at ho11; rw [← Ny105.out] at ho11)); have n0_ := Aside0.mk (Kd.R_lower ho11 (below_size (by repeat (first | (with_reducible first | exact HB.out | apply below_alloc | apply pw_below_drewN | apply below_drew1 | refine below_set ?_ GE104.out) | exact HB.out)))); have n1_ := Aside0.mk (blk_below (g := gb104) (o := .cells #[.int .u8 0, .slice none 0 0] 58 (0, 0)) (by (with_reducible repeat (first | refine blk_drewN ?_ _ | refine blk_drew ?_ | refine blk_alloc ?_ _)); exact BK104.out) hb); have n2_ := Aside0.mk (below_step (by repeat (first | (with_reducible first | exact HB.out | apply below_alloc | apply pw_below_drewN | apply below_drew1 | refine below_set ?_ GE104.out) | exact HB.out)) hb); clear BK104; clear HB; have HO107 := n0_; have BK104 := n1_; have HB := n2_; clear n0_ n1_ n2_; clear hb ho11; have p6 : 0 ≤ (0 : Int) := (by omega); have q6 : (0 : Int) < ((y105.length : Int) : Int) := of_decide_eq_true (by first | (with_reducible assumption) | assumption); have qi6 : (0 < y105.length) = True := eq_true (by omega); obtain ⟨go6, co6, eo6, gb6, gl6, cl6, HG6⟩ := Kd.R_form HO107.out (by omega); (first | cases eo6 | (injection eo6 with ea_ en_ ec_; (first | subst ea_ | (injection ea_ with ea_; subst ea_)); subst ec_; clear en_)); have GB6 := Aside0.mk gb6; have GG6 := Aside0.mk HG6; clear gb6 gl6 HG6; obtain ⟨hx6_0, hf6_0⟩ := Kd.R_celln 0 HO107.out (0 : Int) p6 q6; (try rw [show ((0 : Int)).toNat = 0 from rfl] at hx6_0); (try simp only [Nat.reduceMul, Nat.zero_mul, Nat.zero_add, Nat.reduceAdd] at hx6_0); (try rw [show ((0 : Int)).toNat = 0 from rfl] at hf6_0); (try simp only [Nat.reduceMul, Nat.zero_mul, Nat.zero_add, Nat.reduceAdd] at hf6_0); replace p6 := eq_true p6; replace q6 := eq_true q6; obtain ⟨hy12_, hz12_⟩ := Kd.R_celln 0 HO107.out (0 : Int) (by omega) (of_decide_eq_true (by first | (with_reducible assumption) | assumption)); (try simp only [Int.reduceToNat, Int.toNat_zero, Int.toNat_ofNat, Nat.reduceMul, Nat.zero_mul, Nat.zero_add] at hy12_ hz12_); (try rw [show ((0 : Int)).toNat = 0 from rfl] at hy12_); (try rw [show ((0 : Int)).toNat = 0 from rfl] at hz12_); have HP12 := Kd.R_putg HO107.out (0 : Int) 3) | ((with_reducible refine gate_store (t := 5) (p := 11) rfl ?_); refine store_event (t := 5) (p := 11) (v := ?vo_w13) (w1 := (w10.setCell ⟨go6, (0 : Int).toNat, none⟩ (.int .u8 3))) ?hg ?ho ?hn ?hr ?_; (case ho => rfl); (case hg => rfl); (case hn => rfl); (case hr => first | (go_simp; done) | (go_simp; rfl)); intro w13 hw; have hg : w10.grownBy w13 (some go6) := (by rw [hw]; exact HP12.2); have hp_ : Kd.R (Kd.int .u8) 5 w13 w.heap.size (fun _ => True) (.slice (some ⟨go6, 0, none⟩) y105.length co6) y108 := (by rw [hw, Ny108.out]; exact HP12.1); clear HP12; have n0_ := Aside0.mk (blk_grown (g := gb104) (o := .cells #[.int .u8 0, .slice none 0 0] 58 (0, 0)) (by (with_reducible repeat (first | refine blk_drewN ?_ _ | refine blk_drew ?_ | refine blk_alloc ?_ _)); exact BK104.out) hg (Kd.R_ne HO107.out BK104.out (by decide))); have n1_ := Aside0.mk (hp_); have n2_ := Aside0.mk ((by rw [hw]; exact below_set (HB.out) GB6.out : Below w.heap.size w w13)); clear BK104; clear HO107; clear HB; have BK104 := n0_; have HO107 := n1_; have HB := n2_; clear n0_ n1_ n2_; clear hg hw hp_; have p8 : 0 ≤ (1 : Int) := (by omega); have q8 : (1 : Int) < ((y105.length : Int) : Int) := of_decide_eq_true (by first | (with_reducible assumption) | assumption); have qi8 : (1 < y105.length) = True := eq_true (by omega); obtain ⟨hx8_0, hf8_0⟩ := Kd.R_celln 0 HO107.out (1 : Int) p8 q8; (try rw [show ((1 : Int)).toNat = 1 from rfl] at hx8_0); (try simp only [Nat.reduceMul, Nat.zero_mul, Nat.zero_add, Nat.reduceAdd] at hx8_0); (try rw [show ((1 : Int)).toNat = 1 from rfl] at hf8_0); (try simp only [Nat.reduceMul, Nat.zero_mul, Nat.zero_add, Nat.reduceAdd] at hf8_0); replace p8 := eq_true p8; replace q8 := eq_true q8; obtain ⟨hy14_, hz14_⟩ := Kd.R_celln 0 HO107.out (1 : Int) (by omega) (of_decide_eq_true (by first | (with_reducible assumption) | assumption)); (try simp only [Int.reduceToNat, Int.toNat_zero, Int.toNat_ofNat, Nat.reduceMul, Nat.zero_mul, Nat.zero_add] at hy14_ hz14_); (try rw [show ((1 : Int)).toNat = 1 from rfl] at hy14_); (try rw [show ((1 : Int)).toNat = 1 from rfl] at hz14_); have HP14 := Kd.R_putg HO107.out (1 : Int) 0) | ((with_reducible refine gate_store (t := 5) (p := 13) rfl ?_); refine store_event (t := 5) (p := 13) (v := ?vo_w15) (w1 := (w13.setCell ⟨go6, (1 : Int).toNat, none⟩ (.int .u8 0))) ?hg ?ho ?hn ?hr ?_; (case ho => rfl); (case hg => rfl); (case hn => rfl); (case hr => first | (go_simp; done) | (go_simp; rfl)); intro w15 hw; have hg : w13.grownBy w15 (some go6) := (by rw [hw]; exact HP14.2); have hp_ : Kd.R (Kd.int .u8) 5 w15 w.heap.size (fun _ => True) (.slice (some ⟨go6, 0, none⟩) y105.length co6) y109 := (by rw [hw, Ny109.out]; exact HP14.1); clear HP14; have n0_ := Aside0.mk (blk_grown (g := gb104) (o := .cells #[.int .u8 0, .slice none 0 0] 58 (0, 0)) (by (with_reducible repeat (first | refine blk_drewN ?_ _ | refine blk_drew ?_ | refine blk_alloc ?_ _)); exact BK104.out) hg (Kd.R_ne HO107.out BK104.out (by decide))); have n1_ := Aside0.mk (hp_); have n2_ := Aside0.mk ((by rw [hw]; exact below_set (HB.out) GB6.out : Below w.heap.size w w15)); clear BK104; clear HO107; clear HB; have BK104 := n0_; have HO107 := n1_; have HB := n2_; clear n0_ n1_ n2_; clear hg hw hp_))
          go_loopg [16] k (fun kq v16 w' => ∃ (x3_1 : List Int) (x16_1 : Int), v16 = .int .i64 x16_1 ∧ Aside0 (bson_binaryFromInt8Vector.l0 kq x3_1 l0 (l0.length : Int) x16_1 = some (r1, r2)) ∧ Aside0 (kq ≤ k) ∧ Aside0 (Kd.R (Kd.int .u8) 5 w' w.heap.size (fun _ => True) (.slice (some ⟨go6, 0, none⟩) y105.length co6) x3_1) ∧ Aside0 (w'.heap[gb104]? = some (.cells #[.int .u8 0, (.slice none 0 0)] 58 (0, 0))) ∧ Aside0 (Below w.heap.size w w'))
          case atStart => exact ⟨(y109), (0), (by first | rfl | (simp; done) | (simp [*]; done)), H', ⟨Nat.le_refl _⟩, ⟨by (with_reducible repeat (first | apply Kd.R_alloc | apply Kd.R_drewN | apply Kd.R_drew)); exact HO107.out⟩, ⟨by (with_reducible repeat (first | refine blk_drewN ?_ _ | refine blk_drew ?_ | refine blk_alloc ?_ _)); exact BK104.out⟩, ⟨by repeat (first | (with_reducible first | exact HB.out | apply below_alloc | apply pw_below_drewN | apply below_drew1 | refine below_set ?_ GE104.out) | exact HB.out)⟩⟩
          case round =>
            clear H'
            try clear p2
            try clear c3
            try clear c3b0
            try clear c3b1
            try clear c4
            try clear c4b0
            try clear c4b1
            try clear c5
            try clear c5b0
            try clear c5b1
            try clear p6
            try clear q6
            try clear hx6
            try clear qi6
            try clear hf6
            try clear c7
            try clear c7b0
            try clear c7b1
            try clear p8
            try clear q8
            try clear hx8
            try clear qi8
            try clear hf8
            try clear hx6_0
            try clear hx8_0
            try clear p6
            try clear p8
            try clear q6
            try clear q8
            obtain ⟨x3_1, x16_1, rfl, HA, HK1, HO_3, BK104, HB⟩ := hrel
            have hl3_1 := (Kd.R_reads' HO_3.out).1
            rw [hl3_1] at HO_3
            (try simp only [hl3_1])
            (try simp only [hl3_1] at BK104)
            cases gk with
            | zero => exact absurd HA.out (by simp [bson_binaryFromInt8Vector.l0])
            | succ k1 =>
              have H := HA.out
              clear HA
              simp only [bson_binaryFromInt8Vector.l0] at H
              by_cases c16 : x16_1 < (l0.length : Int)
              · rw [if_pos c16] at H
                have c16b0 : decide (x16_1 < (l0.length : Int)) = true := decide_eq_true c16
                clear c16
                by_cases c17 : 0 ≤ x16_1
                · rw [if_pos c17] at H
                  have c17b0 : decide (0 ≤ x16_1) = true := decide_eq_true c17
                  clear c17
                  by_cases c18 : x16_1 < (l0.length : Int)
                  · rw [if_pos c18] at H
                    have c18b0 : decide (x16_1 < (l0.length : Int)) = true := decide_eq_true c18
                    clear c18
                    obtain ⟨ji19, hji19⟩ : ∃ j_ : Int, (wrap64 (x16_1 + 2)) = j_ := ⟨_, rfl⟩
                    replace H : (if 0 ≤ (ji19) then (if (ji19) < (x3_1.length : Int) then (bson_binaryFromInt8Vector.l0 k1 (x3_1.set ((ji19) : Int).toNat ((rd l0 x16_1) % 256)) l0 (l0.length : Int) (wrap64 (x16_1 + 1))) else (none)) else (none)) = some (r1, r2) := by first | (rw [hji19] at H; exact H) | (simp only [hji19] at H ⊢; exact H)
                    have hji19w : (IntKind.i64.wrap (x16_1 + 2)) = ji19 := (i64_w _).trans hji19
                    by_cases c20 : 0 ≤ (ji19)
                    · rw [if_pos c20] at H
                      have c20b0 : decide (0 ≤ (ji19)) = true := decide_eq_true c20
                      clear c20
                      by_cases c21 : (ji19) < (x3_1.length : Int)
                      · rw [if_pos c21] at H
                        have c21b0 : decide ((ji19) < (x3_1.length : Int)) = true := decide_eq_true c21
                        clear c21
                        obtain ⟨y111, hy111⟩ : ∃ y_ : List Int, y_ = (x3_1.set ((ji19) : Int).toNat ((rd l0 x16_1) % 256)) := ⟨_, rfl⟩
                        replace H : (bson_binaryFromInt8Vector.l0 k1 y111 l0 (l0.length : Int) (wrap64 (x16_1 + 1))) = some (r1, r2) := by first | (rw [hy111]; with_reducible exact H) | (have H2_ := (Option.bind_some _ _).symm.trans H; rw [hy111]; with_reducible exact H2_) | (have H2_ := (Option.bind_some _ _).symm.trans H; with_reducible exact H2_) | with_reducible exact H | (rw [hy111]; exact H) | exact H
                        have Ny111 := Aside0.mk hy111
                        clear hy111
                        as_aux_lemma =>
                          have H' := Aside0.mk H
                          clear H
                          have p110 : 0 ≤ (x16_1 : Int) := of_decide_eq_true (by first | (with_reducible assumption) | assumption)
                          have q110 : x16_1 < (l0.length : Int) := of_decide_eq_true (by first | (with_reducible assumption) | assumption)
                          obtain ⟨ad110, e110, hx110_0⟩ := Kd.at_int HR0.out x16_1 p110 q110
                          cases e110
                          replace hx110_0 := (HB.out.cell (World.block_lt_of_cell? w _ hx110_0)).trans hx110_0
                          replace p110 := eq_true p110
                          replace q110 := eq_true q110
                          have p22 : 0 ≤ ((ji19) : Int) := of_decide_eq_true (by first | (with_reducible assumption) | assumption)
                          have q22 : ((ji19) : Int) < ((x3_1.length : Int) : Int) := of_decide_eq_true (by first | (with_reducible assumption) | assumption)
                          obtain ⟨hx22_0, hf22_0⟩ := Kd.R_celln 0 HO_3.out ((ji19) : Int) p22 q22
                          replace p22 := eq_true p22
                          replace q22 := eq_true q22
                          have HP23 := Kd.R_putg HO_3.out ((ji19) : Int) ((rd l0 x16_1) % 256)
                          go_wp2_with (first | ((with_reducible refine gate_store (t := 5) (p := 26) rfl ?_); refine store_event (t := 5) (p := 26) (v := ?vo_w24) (w1 := (wr.setCell ⟨go6, ((ji19) : Int).toNat, none⟩ (.int .u8 ((rd l0 x16_1) % 256)))) ?hg ?ho ?hn ?hr ?_; (case ho => rfl); (case hg => rfl); (case hn => rfl); (case hr => first | (go_simp; done) | (go_simp; rfl)); intro w24 hw; have hg : wr.grownBy w24 (some go6) := (by rw [hw]; exact HP23.2); have hp_ : Kd.R (Kd.int .u8) 5 w24 w.heap.size (fun _ => True) (.slice (some ⟨go6, 0, none⟩) x3_1.length co6) y111 := (by rw [hw, Ny111.out]; exact HP23.1); clear HP23; have n0_ := Aside0.mk (hp_); have n1_ := Aside0.mk (blk_grown (g := gb104) (o := .cells #[.int .u8 0, .slice none 0 0] 58 (0, 0)) (by (with_reducible repeat (first | refine blk_drewN ?_ _ | refine blk_drew ?_ | refine blk_alloc ?_ _)); exact BK104.out) hg (Kd.R_ne HO_3.out BK104.out (by decide))); have n2_ := Aside0.mk ((by rw [hw]; exact below_set (HB.out) GB6.out : Below w.heap.size w w24)); clear HO_3; clear BK104; clear HB; have HO_3 := n0_; have BK104 := n1_; have HB := n2_; clear n0_ n1_ n2_; clear hg hw hp_))
                          (try simp only [← hl3_1])
                          go_roundg k1
                          case measure => have := HK1.out; omega
                          case rel => exact ⟨(y111), (wrap64 (x16_1 + 1)), (by first | rfl | (simp; done) | (simp [*]; done)), H', ⟨by have := HK1.out; omega⟩, ⟨by (try simp only [hl3_1]); (with_reducible repeat (first | apply Kd.R_alloc | apply Kd.R_drewN | apply Kd.R_drew)); exact HO_3.out⟩, ⟨by (try simp only [hl3_1]); (with_reducible repeat (first | refine blk_drewN ?_ _ | refine blk_drew ?_ | refine blk_alloc ?_ _)); exact BK104.out⟩, ⟨by repeat (first | (with_reducible first | exact HB.out | apply below_alloc | apply pw_below_drewN | apply below_drew1 | refine below_set ?_ GE104.out) | exact HB.out)⟩⟩
                      · rw [if_neg c21] at H
                        exact absurd H (by simp)
                    · rw [if_neg c20] at H
                      exact absurd H (by simp)
                  · rw [if_neg c18] at H
                    exact absurd H (by simp)
                · rw [if_neg c17] at H
                  exact absurd H (by simp)
              · rw [if_neg c16] at H
                have c16b0 : decide (x16_1 < (l0.length : Int)) = false := decide_eq_false c16
                clear c16
                as_aux_lemma =>
                  simp only [Option.some.injEq, Prod.mk.injEq] at H
                  obtain ⟨rfl, rfl⟩ := H
                  have hcz25_0 : wr.cell? ⟨gb104, 0, none⟩ = some (.int .u8 0) := (blk_cell BK104.out 0).trans rfl
                  have hcz25_1 : wr.cell? ⟨gb104, 1, none⟩ = some (.slice none 0 0) := (blk_cell BK104.out 1).trans rfl
                  have hfz25_0 := blk_frozen BK104.out 0
                  have hfz25_1 := blk_frozen BK104.out 1
                  go_wp2
                  refine bodyPost_ret (results_cell_row rfl _ _ gb104 58 #[.int .u8 9, .slice (some ⟨go6, 0, none⟩) x3_1.length co6] (0, 0) _ rfl (by (with_reducible repeat (first | refine blk_drewN ?_ _ | refine blk_drew ?_ | refine blk_alloc ?_ _)); refine blk_put (cs := #[.int .u8 9, .slice none 0 0]) ?_ 1 _ rfl; (with_reducible repeat (first | refine blk_drewN ?_ _ | refine blk_drew ?_ | refine blk_alloc ?_ _)); refine blk_put (cs := #[.int .u8 0, .slice none 0 0]) ?_ 0 _ rfl; (with_reducible repeat (first | refine blk_drewN ?_ _ | refine blk_drew ?_ | refine blk_alloc ?_ _)); exact BK104.out) Tryd.underlying58 rfl (by kernel_rfl)) rfl ?_
                  exact ⟨_, by first | rfl | (simp [errW_none, errW_some] <;> rfl) | (simp only [← hji2]; first | rfl | (simp [errW_none, errW_some] <;> rfl)) | (simp [*, errW_none, errW_some] <;> rfl), by (with_reducible repeat (first | apply Kd.R_alloc | apply Kd.R_drewN | apply Kd.R_drew)); exact Kd.R_mono (Kd.R_far (p := ⟨gb104, 1, none⟩) (Kd.R_far (p := ⟨gb104, 0, none⟩) (Kd.R_types HO_3.out BK104.out (by decide)) (fun _ hk => hk.2) (.int .u8 9)) (fun _ hk => hk.2) (.slice (some ⟨go6, 0, none⟩) x3_1.length co6)) (fun _ hk => trivial), by repeat (first | (with_reducible first | exact HB.out | apply below_alloc | apply pw_below_drewN | apply below_drew1 | refine below_set ?_ GE104.out) | exact HB.out)⟩
        · rw [if_neg c7] at H
          exact absurd H (by simp)
      · rw [if_neg c5] at H
        exact absurd H (by simp)
    · rw [if_neg c4] at H
      exact absurd H (by simp)
  · rw [if_neg c3] at H
    exact absurd H (by simp)

-- NOT PRINTED: function 25 (bson_Vector_Int8OK)

-- NOT PRINTED: function 33 (bson_Vector_Int8)

-- NOT PRINTED: function 27 (math_Float32bits)

-- NOT PRINTED: function 43 (binary_littleEndian_PutUint32)

-- NOT PRINTED: function 34 (bson_binaryFromFloat32Vector)

-- NOT PRINTED: function 26 (bson_Vector_Float32OK)

-- NOT PRINTED: function 35 (bson_Vector_Float32)

-- NOT PRINTED: function 36 (bson_binaryFromBitVector)

-- NOT PRINTED: function 28 (bson_Vector_PackedBitOK)

-- NOT PRINTED: function 37 (bson_Vector_PackedBit)

-- NOT PRINTED: function 22 (bson_Vector_Binary)

/-! ### impl_VectorBits: function 10 -/
def impl_VectorBits.f (l0 : List Int) (a1 : Int) : Option (Int × List Int × Bool) := if l0.length ≤ 1000000 then (if 7 < a1 ∨ 0 < a1 ∧ l0.length = 0 then some (0, [], false) else some (9, 16 :: a1 :: l0, true)) else none
theorem impl_VectorBits.calls (A0 : Option Addr) (c0 : Nat) (l0 : List Int) (a1 : Int) (r1 : Int) (r2 : List Int) (r3 : Bool) (w : World) (hlaid : Vec.LaidV w) (hr0 : Kd.C (Kd.int .u8) w A0 l0.length l0) (hc0 : l0.length ≤ c0) (h : impl_VectorBits.f l0 a1 = some (r1, r2, r3)) :
    Calls Tryd.prog 10 #[.slice A0 l0.length c0, .int .u8 a1] w fun e w' => ∃ v1_ : Value, e = .returned (.tuple #[.int .i64 r1, v1_, .bool r3]) ∧ Kd.R (Kd.int .u8) 5 w' w.heap.size (fun _ => True) v1_ r2 ∧ Below w.heap.size w w' := by
  unfold impl_VectorBits.f at h
  by_cases hl : l0.length ≤ 1000000
  · rw [if_pos hl] at h
    by_cases hb : 7 < a1 ∨ 0 < a1 ∧ l0.length = 0
    · rw [if_pos hb] at h
      simp only [Option.some.injEq, Prod.mk.injEq] at h
      obtain ⟨rfl, rfl, rfl⟩ := h
      refine (Vec.vb_bad A0 c0 l0 a1 w hlaid hb).mono ?_
      rintro e w' ⟨rfl, hB⟩
      exact ⟨_, rfl, Kd.R_nil _ _ _ _ _, hB⟩
    · rw [if_neg hb] at h
      simp only [Option.some.injEq, Prod.mk.injEq] at h
      obtain ⟨rfl, rfl, rfl⟩ := h
      exact Vec.vb_good A0 c0 l0 a1 w hr0 hl (by omega) (by omega)
  · rw [if_neg hl] at h; cases h

-- NOT PRINTED: function 38 (errors_New)

-- NOT PRINTED: function 44 (bson_NewVector_int8)

-- NOT PRINTED: function 39 (bson_newInt8Vector)

-- NOT PRINTED: function 45 (math_Float32frombits)

-- NOT PRINTED: function 46 (binary_littleEndian_Uint32)

-- NOT PRINTED: function 47 (bson_NewVector_float32)

-- NOT PRINTED: function 40 (bson_newFloat32Vector)

-- NOT PRINTED: function 41 (bson_newBitVector)

-- NOT PRINTED: function 23 (bson_NewVectorFromBinary)

/-! ### impl_VectorOf: function 11 -/
def impl_VectorOf.f (a0 : Int) (l1 : List Int) : Option (Int × List Int × List Int × List Int × Int × Bool) := if a0 = 9 ∧ l1 = 16 :: l1.getD 1 0 :: l1.drop 2 ∧ 0 ≤ l1.getD 1 0 ∧ l1.getD 1 0 ≤ 7 ∧ (l1.drop 2).length ≤ 1000000 ∧ ¬ (0 < l1.getD 1 0 ∧ (l1.drop 2).length = 0) then some (16, [], [], l1.drop 2, l1.getD 1 0, true) else none
theorem impl_VectorOf.calls (a0 : Int) (A1 : Option Addr) (c1 : Nat) (l1 : List Int) (r1 : Int) (r2 r3 r4 : List Int) (r5 : Int) (r6 : Bool) (w : World) (hlaid : Vec.LaidV w) (hr1 : Kd.C (Kd.int .u8) w A1 l1.length l1) (hc1 : l1.length ≤ c1) (h : impl_VectorOf.f a0 l1 = some (r1, r2, r3, r4, r5, r6)) :
    Calls Tryd.prog 11 #[.int .i64 a0, .slice A1 l1.length c1] w fun e w' => ∃ v1_ v2_ v3_ : Value, e = .returned (.tuple #[.agg #[.int .i64 r1, v1_, v2_, v3_, .int .i64 r5], .bool r6]) ∧ Kd.R (Kd.int .i8) 71 w' w.heap.size (fun _ => True) v1_ r2 ∧ Kd.R (Kd.int .u32) 67 w' w.heap.size (fun _ => True) v2_ r3 ∧ Kd.R (Kd.int .u8) 5 w' w.heap.size (fun _ => True) v3_ r4 ∧ Below w.heap.size w w' := by
  unfold impl_VectorOf.f at h
  by_cases hl : a0 = 9 ∧ l1 = 16 :: l1.getD 1 0 :: l1.drop 2 ∧ 0 ≤ l1.getD 1 0 ∧ l1.getD 1 0 ≤ 7 ∧ (l1.drop 2).length ≤ 1000000 ∧ ¬ (0 < l1.getD 1 0 ∧ (l1.drop 2).length = 0)
  · rw [if_pos hl] at h
    simp only [Option.some.injEq, Prod.mk.injEq] at h
    obtain ⟨rfl, rfl, rfl, rfl, rfl, rfl⟩ := h
    obtain ⟨rfl, he, h0, h7, hn, hz⟩ := hl
    revert h0 h7 hn hz hr1 hc1
    generalize l1.getD 1 0 = p at he ⊢
    generalize l1.drop 2 = l at he ⊢
    subst he
    intro hr1 hc1 h0 h7 hn hz
    refine (Vof.vo_good A1 c1 l p w hr1 hc1 hn h7 h0 hz).mono ?_
    rintro e w' ⟨v, rfl, hR, hB⟩
    exact ⟨_, _, v, rfl, Kd.R_nil _ _ _ _ _, Kd.R_nil _ _ _ _ _, hR, hB⟩
  · rw [if_neg hl] at h; cases h

/-! ### laws_vecBytes: function 12 -/
def laws_vecBytes.f (l0 : List Int) (l1 : List Int) : Option (Bool) := some ((strOfNums l0).toList == (strOfNums l1).toList)
set_option maxHeartbeats 8000000 in
set_option maxRecDepth 100000 in
theorem laws_vecBytes.calls (A0 : Option Addr) (c0 : Nat) (l0 : List Int) (A1 : Option Addr) (c1 : Nat) (l1 : List Int) (r : Bool) (w : World) (hr0 : Kd.C (Kd.int .u8) w A0 l0.length l0) (hc0 : l0.length ≤ c0) (hr1 : Kd.C (Kd.int .u8) w A1 l1.length l1) (hc1 : l1.length ≤ c1) (h : laws_vecBytes.f l0 l1 = some r) :
    Calls Tryd.prog 12 #[.slice A0 l0.length c0, .slice A1 l1.length c1] w fun e w' => e = .returned (.bool r) ∧ Drawn0 w w' := by
  have HR0 := Aside0.mk hr0
  have HC0 := Aside0.mk hc0
  clear hr0 hc0
  have HR1 := Aside0.mk hr1
  have HC1 := Aside0.mk hc1
  clear hr1 hc1
  have H : (some ((strOfNums l0).toList == (strOfNums l1).toList)) = some r := h
  clear h
  as_aux_lemma =>
    obtain rfl := Option.some.inj H
    have hcv3 := Kd.C_string (P := Tryd.prog) (A := A0) (c := c0) Tryd.underlying22 Tryd.underlying5 Tryd.underlying9 HR0.out
    have hcv4 := Kd.C_string (P := Tryd.prog) (A := A1) (c := c1) Tryd.underlying22 Tryd.underlying5 Tryd.underlying9 HR1.out
    go_enter Tryd.func12, Tryd.ntmps12
    go_wp2
    go_ret
    exact ⟨by first | rfl | (simp; done) | (simp [*]; done), by repeat (first | exact Drawn0.refl _ | apply Drawn0.step)⟩

/-! ### spec_VectorBytes: function 13 -/
mutual
def spec_VectorBytes.l0 : Nat → List Int → List Int → Int → Int → Option (List Int)
  | 0, _, _, _, _ => none
  | k + 1, x3, x20, x21, x22 => if x22 < x21 then (if 0 ≤ x22 then (if x22 < (x20.length : Int) then (if x3.length < 140737488355328 then (spec_VectorBytes.l0 k (x3 ++ [(rd x20 x22) % 256]) x20 x21 (wrap64 (x22 + 1))) else (none)) else (none)) else (none)) else (some x3)
def spec_VectorBytes.l1 : Nat → List Int → List Int → Int → Int → Option (List Int)
  | 0, _, _, _, _ => none
  | k + 1, x3, x35, x36, x37 => if x37 < x36 then (if 0 ≤ x37 then (if x37 < (x35.length : Int) then ((some (([(rd x35 x37) % 256, ((rd x35 x37) / 256) % 256, ((rd x35 x37) / 65536) % 256, ((rd x35 x37) / 16777216) % 256] : List Int) : List Int)).bind fun y132 => (if x3.length + y132.length < 140737488355328 then (spec_VectorBytes.l1 k (x3 ++ y132) x35 x36 (wrap64 (x37 + 1))) else (none))) else (none)) else (none)) else (some x3)
end
def spec_VectorBytes.f (k : Nat) (a0_0 : Int) (l0_1 : List Int) (l0_2 : List Int) (l0_3 : List Int) (a0_4 : Int) : Option (List Int) := (some (([(a0_0) % 256, (a0_4) % 256] : List Int) : List Int)).bind fun y124 => (if a0_0 = 3 then (spec_VectorBytes.l0 k y124 l0_1 (l0_1.length : Int) 0) else (if a0_0 = 39 then (spec_VectorBytes.l1 k y124 l0_2 (l0_2.length : Int) 0) else (if a0_0 = 16 then (if y124.length + l0_3.length < 140737488355328 then (some (y124 ++ l0_3)) else (none)) else (some y124))))
theorem spec_VectorBytes.mono_l : ∀ k, (∀ y0 y1 y2 y3, LeO (spec_VectorBytes.l0 k y0 y1 y2 y3) (spec_VectorBytes.l0 (k + 1) y0 y1 y2 y3)) ∧ (∀ y0 y1 y2 y3, LeO (spec_VectorBytes.l1 k y0 y1 y2 y3) (spec_VectorBytes.l1 (k + 1) y0 y1 y2 y3))
  | 0 => ⟨fun _ _ _ _ r h => by simp [spec_VectorBytes.l0] at h, fun _ _ _ _ r h => by simp [spec_VectorBytes.l1] at h⟩
  | k + 1 => by
    obtain ⟨ih0, ih1⟩ := spec_VectorBytes.mono_l k
    refine ⟨?_, ?_⟩
    · intro y0 y1 y2 y3
      unfold spec_VectorBytes.l0
      repeat' first
      | (with_reducible exact ih0 _ _ _ _)
      | (with_reducible exact ih1 _ _ _ _)
      | (with_reducible exact LeO.refl _)
      | (with_reducible exact LeO.none _)
      | (with_reducible refine LeO.ite ?_ ?_)
      | (with_reducible refine LeO.bind ?_ (fun _ => ?_))
      | exact ih0 _ _ _ _
      | exact ih1 _ _ _ _
      | exact LeO.none _
      | refine LeO.ite ?_ ?_
      | refine LeO.bind ?_ (fun _ => ?_)
    · intro y0 y1 y2 y3
      unfold spec_VectorBytes.l1
      repeat' first
      | (with_reducible exact ih0 _ _ _ _)
      | (with_reducible exact ih1 _ _ _ _)
      | (with_reducible exact LeO.refl _)
      | (with_reducible exact LeO.none _)
      | (with_reducible refine LeO.ite ?_ ?_)
      | (with_reducible refine LeO.bind ?_ (fun _ => ?_))
      | exact ih0 _ _ _ _
      | exact ih1 _ _ _ _
      | exact LeO.none _
      | refine LeO.ite ?_ ?_
      | refine LeO.bind ?_ (fun _ => ?_)
theorem spec_VectorBytes.mono : ∀ a0 a1 a2 a3 a4 k, LeO (spec_VectorBytes.f k a0 a1 a2 a3 a4) (spec_VectorBytes.f (k + 1) a0 a1 a2 a3 a4) := by
  intro a0 a1 a2 a3 a4 k
  obtain ⟨ih0, ih1⟩ := spec_VectorBytes.mono_l k
  unfold spec_VectorBytes.f
  repeat' first
      | (with_reducible exact ih0 _ _ _ _)
      | (with_reducible exact ih1 _ _ _ _)
      | (with_reducible exact LeO.refl _)
      | (with_reducible exact LeO.none _)
      | (with_reducible refine LeO.ite ?_ ?_)
      | (with_reducible refine LeO.bind ?_ (fun _ => ?_))
      | exact ih0 _ _ _ _
      | exact ih1 _ _ _ _
      | exact LeO.none _
      | refine LeO.ite ?_ ?_
      | refine LeO.bind ?_ (fun _ => ?_)
set_option maxHeartbeats 8000000 in
set_option maxRecDepth 100000 in
theorem spec_VectorBytes.calls (k : Nat) (a0_0 : Int) (A0_1 : Option Addr) (c0_1 : Nat) (l0_1 : List Int) (A0_2 : Option Addr) (c0_2 : Nat) (l0_2 : List Int) (A0_3 : Option Addr) (c0_3 : Nat) (l0_3 : List Int) (a0_4 : Int) (r : List Int) (w : World) (hr0_1 : Kd.C (Kd.int .i8) w A0_1 l0_1.length l0_1) (hc0_1 : l0_1.length ≤ c0_1) (hr0_2 : Kd.C (Kd.int .u32) w A0_2 l0_2.length l0_2) (hc0_2 : l0_2.length ≤ c0_2) (hr0_3 : Kd.C (Kd.int .u8) w A0_3 l0_3.length l0_3) (hc0_3 : l0_3.length ≤ c0_3) (h : spec_VectorBytes.f k a0_0 l0_1 l0_2 l0_3 a0_4 = some r) :
    Calls Tryd.prog 13 #[.agg #[.int .i64 a0_0, .slice A0_1 l0_1.length c0_1, .slice A0_2 l0_2.length c0_2, .slice A0_3 l0_3.length c0_3, .int .i64 a0_4]] w fun e w' => ∃ v0_ : Value, e = .returned (v0_) ∧ Kd.R (Kd.int .u8) 5 w' w.heap.size (fun _ => True) v0_ r ∧ Below w.heap.size w w' := by
  have hu32 := Tryd.underlying32
  have HR0_1 := Aside0.mk hr0_1
  have HC0_1 := Aside0.mk hc0_1
  clear hr0_1 hc0_1
  have HR0_2 := Aside0.mk hr0_2
  have HC0_2 := Aside0.mk hc0_2
  clear hr0_2 hc0_2
  have HR0_3 := Aside0.mk hr0_3
  have HC0_3 := Aside0.mk hc0_3
  clear hr0_3 hc0_3
  have HB := Aside0.mk (Below.refl w.heap.size w)
  have H : ((some (([(a0_0) % 256, (a0_4) % 256] : List Int) : List Int)).bind fun y124 => (if a0_0 = 3 then (spec_VectorBytes.l0 k y124 l0_1 (l0_1.length : Int) 0) else (if a0_0 = 39 then (spec_VectorBytes.l1 k y124 l0_2 (l0_2.length : Int) 0) else (if a0_0 = 16 then (if y124.length + l0_3.length < 140737488355328 then (some (y124 ++ l0_3)) else (none)) else (some y124))))) = some r := h
  clear h
  obtain ⟨y124, hy124⟩ : ∃ y_ : List Int, y_ = (([(a0_0) % 256, (a0_4) % 256] : List Int)) := ⟨_, rfl⟩
  replace H : (if a0_0 = 3 then (spec_VectorBytes.l0 k y124 l0_1 (l0_1.length : Int) 0) else (if a0_0 = 39 then (spec_VectorBytes.l1 k y124 l0_2 (l0_2.length : Int) 0) else (if a0_0 = 16 then (if y124.length + l0_3.length < 140737488355328 then (some (y124 ++ l0_3)) else (none)) else (some y124)))) = some r := by first | (rw [hy124]; with_reducible exact H) | (have H2_ := (Option.bind_some _ _).symm.trans H; rw [hy124]; with_reducible exact H2_) | (have H2_ := (Option.bind_some _ _).symm.trans H; with_reducible exact H2_) | with_reducible exact H | (rw [hy124]; exact H) | exact H
  have Ny124 := Aside0.mk hy124
  clear hy124
  by_cases c2 : a0_0 = 3
  · rw [if_pos c2] at H
    have c2b0 : (a0_0 == 3) = true := beq_iff_eq.mpr c2
    have c2b1 : (a0_0 != 3) = false := bne_eq_false_iff_eq.mpr c2
    clear c2
    have H' := Aside0.mk H
    clear H
    go_enter Tryd.func13, Tryd.ntmps13
    go_wp2_with (first | ((with_reducible refine gate_dst (N := 1) rfl ?_); refine box_event ?hg (N := 1) ?hd (cs := #[.int .i64 a0_0, .slice A0_1 l0_1.length c0_1, .slice A0_2 l0_2.length c0_2, .slice A0_3 l0_3.length c0_3, .int .i64 a0_4]) (t := 32) ?hr ?_; (case hd => rfl); (case hg => rfl); (case hr => first | (go_simp; done) | (go_simp; rfl)); intro gb123 hg w3 hbox hb; have n0_ := Aside0.mk (below_step (by repeat (first | (with_reducible first | exact HB.out | apply below_alloc | apply pw_below_drewN | apply below_drew1) | exact HB.out)) hb); have n1_ := Aside0.mk (hbox); have n2_ := Aside0.mk ((by rw [hg]; exact (below_size (by repeat (first | (with_reducible first | exact HB.out | apply below_alloc | apply pw_below_drewN | apply below_drew1) | exact HB.out))) : w.heap.size ≤ gb123)); have n3_ := Aside0.mk ((by rw [hg]; exact (below_size (by repeat (first | (with_reducible first | exact HB.out | apply below_alloc | apply pw_below_drewN | apply below_drew1) | exact HB.out))) : w.heap.size ≤ gb123)); clear HB; have HB := n0_; have BK123 := n1_; have GW123 := n2_; have GE123 := n3_; clear n0_ n1_ n2_ n3_; clear hb hbox hg; have hcz4_0 : w3.cell? ⟨gb123, 0, none⟩ = some (.int .i64 a0_0) := (blk_cell BK123.out 0).trans rfl; have hcz4_1 : w3.cell? ⟨gb123, 1, none⟩ = some (.slice A0_1 l0_1.length c0_1) := (blk_cell BK123.out 1).trans rfl; have hcz4_2 : w3.cell? ⟨gb123, 2, none⟩ = some (.slice A0_2 l0_2.length c0_2) := (blk_cell BK123.out 2).trans rfl; have hcz4_3 : w3.cell? ⟨gb123, 3, none⟩ = some (.slice A0_3 l0_3.length c0_3) := (blk_cell BK123.out 3).trans rfl; have hcz4_4 : w3.cell? ⟨gb123, 4, none⟩ = some (.int .i64 a0_4) := (blk_cell BK123.out 4).trans rfl; have hfz4_0 := blk_frozen BK123.out 0; have hfz4_1 := blk_frozen BK123.out 1; have hfz4_2 := blk_frozen BK123.out 2; have hfz4_3 := blk_frozen BK123.out 3; have hfz4_4 := blk_frozen BK123.out 4) | ((with_reducible refine gate_dst (N := 14) rfl ?_); refine Kd.R_lit (Kd.int .u8) _ 5 ?hg (N := 14) ?hd (xs := ([(a0_0) % 256, (a0_4) % 256] : List Int)) (inner := [.int .u8 ((a0_0) % 256), .int .u8 ((a0_4) % 256)]) (ok := fun _ => True) (okp := fun _ => True) ?hr ?hp (fun _ hk => hk) trivial (Below.refl _ _) (Nat.le_refl _) (by simp) ?_; (case hd => rfl); (case hg => rfl); (case hr => first | (go_simp; done) | (go_simp; rfl)); (case hp => exact (Reps.one (show Kd.M (Kd.int .u8) _ _ _ ((a0_0) % 256) [.int .u8 ((a0_0) % 256)] from rfl) (Reps.one (show Kd.M (Kd.int .u8) _ _ _ ((a0_4) % 256) [.int .u8 ((a0_4) % 256)] from rfl) (Reps.none _ _)))); intro v125 w5 ho6 hb hg_ hnew_; clear hg_ hnew_; (first | rw [← Ny124.out] at ho6 | (simp only [Int.reduceToNat] at ho6; rw [← Ny124.out] at ho6)); have n0_ := Aside0.mk (Kd.R_lower ho6 (below_size (by repeat (first | (with_reducible first | exact HB.out | apply below_alloc | apply pw_below_drewN | apply below_drew1 | refine below_set ?_ GE123.out) | exact HB.out)))); have n1_ := Aside0.mk (blk_below (g := gb123) (o := .cells #[.int .i64 a0_0, .slice A0_1 l0_1.length c0_1, .slice A0_2 l0_2.length c0_2, .slice A0_3 l0_3.length c0_3, .int .i64 a0_4] 32 (0, 0)) (by (with_reducible repeat (first | refine blk_drewN ?_ _ | refine blk_drew ?_ | refine blk_alloc ?_ _)); exact BK123.out) hb); have n2_ := Aside0.mk (below_step (by repeat (first | (with_reducible first | exact HB.out | apply below_alloc | apply pw_below_drewN | apply below_drew1 | refine below_set ?_ GE123.out) | exact HB.out)) hb); clear BK123; clear HB; have HO126 := n0_; have BK123 := n1_; have HB := n2_; clear n0_ n1_ n2_; clear hb ho6; have hcz7_0 : w5.cell? ⟨gb123, 0, none⟩ = some (.int .i64 a0_0) := (blk_cell BK123.out 0).trans rfl; have hcz7_1 : w5.cell? ⟨gb123, 1, none⟩ = some (.slice A0_1 l0_1.length c0_1) := (blk_cell BK123.out 1).trans rfl; have hcz7_2 : w5.cell? ⟨gb123, 2, none⟩ = some (.slice A0_2 l0_2.length c0_2) := (blk_cell BK123.out 2).trans rfl; have hcz7_3 : w5.cell? ⟨gb123, 3, none⟩ = some (.slice A0_3 l0_3.length c0_3) := (blk_cell BK123.out 3).trans rfl; have hcz7_4 : w5.cell? ⟨gb123, 4, none⟩ = some (.int .i64 a0_4) := (blk_cell BK123.out 4).trans rfl; have hfz7_0 := blk_frozen BK123.out 0; have hfz7_1 := blk_frozen BK123.out 1; have hfz7_2 := blk_frozen BK123.out 2; have hfz7_3 := blk_frozen BK123.out 3; have hfz7_4 := blk_frozen BK123.out 4))
    go_loopg [3, 22] k (fun kq v3 v22 w' => ∃ (x3_1 : List Int) (x22_1 : Int), v22 = .int .i64 x22_1 ∧ Aside0 (spec_VectorBytes.l0 kq x3_1 l0_1 (l0_1.length : Int) x22_1 = some r) ∧ Aside0 (kq ≤ k) ∧ Aside0 (Kd.R (Kd.int .u8) 5 w' w.heap.size (fun _ => True) v3 x3_1) ∧ Aside0 (w'.heap[gb123]? = some (.cells #[.int .i64 a0_0, (.slice A0_1 l0_1.length c0_1), (.slice A0_2 l0_2.length c0_2), (.slice A0_3 l0_3.length c0_3), .int .i64 a0_4] 32 (0, 0))) ∧ Aside0 (Below w.heap.size w w'))
    case atStart => exact ⟨(y124), (0), (by first | rfl | (simp; done) | (simp [*]; done)), H', ⟨Nat.le_refl _⟩, ⟨by (with_reducible repeat (first | apply Kd.R_alloc | apply Kd.R_drewN | apply Kd.R_drew)); exact HO126.out⟩, ⟨by (with_reducible repeat (first | refine blk_drewN ?_ _ | refine blk_drew ?_ | refine blk_alloc ?_ _)); exact BK123.out⟩, ⟨by repeat (first | (with_reducible first | exact HB.out | apply below_alloc | apply pw_below_drewN | apply below_drew1 | refine below_set ?_ GE123.out) | exact HB.out)⟩⟩
    case round =>
      clear H'
      try clear c1
      try clear c2
      try clear c2b0
      try clear c2b1
      try clear p2
      try clear hcz4_0
      try clear hcz4_1
      try clear hcz4_2
      try clear hcz4_3
      try clear hcz4_4
      try clear hcz7_0
      try clear hcz7_1
      try clear hcz7_2
      try clear hcz7_3
      try clear hcz7_4
      try clear hfz4_0
      try clear hfz4_1
      try clear hfz4_2
      try clear hfz4_3
      try clear hfz4_4
      try clear hfz7_0
      try clear hfz7_1
      try clear hfz7_2
      try clear hfz7_3
      try clear hfz7_4
      obtain ⟨x3_1, x22_1, rfl, HA, HK1, HO_3, BK123, HB⟩ := hrel
      cases gk with
      | zero => exact absurd HA.out (by simp [spec_VectorBytes.l0])
      | succ k1 =>
        have H := HA.out
        clear HA
        simp only [spec_VectorBytes.l0] at H
        by_cases c8 : x22_1 < (l0_1.length : Int)
        · rw [if_pos c8] at H
          have c8b0 : decide (x22_1 < (l0_1.length : Int)) = true := decide_eq_true c8
          clear c8
          by_cases c9 : 0 ≤ x22_1
          · rw [if_pos c9] at H
            have c9b0 : decide (0 ≤ x22_1) = true := decide_eq_true c9
            clear c9
            by_cases c10 : x22_1 < (l0_1.length : Int)
            · rw [if_pos c10] at H
              have c10b0 : decide (x22_1 < (l0_1.length : Int)) = true := decide_eq_true c10
              clear c10
              by_cases c11 : x3_1.length < 140737488355328
              · rw [if_pos c11] at H
                have LMc11 := Aside0.mk c11
                clear c11
                obtain ⟨y128, hy128⟩ : ∃ y_ : List Int, y_ = (x3_1 ++ [(rd l0_1 x22_1) % 256]) := ⟨_, rfl⟩
                replace H : (spec_VectorBytes.l0 k1 y128 l0_1 (l0_1.length : Int) (wrap64 (x22_1 + 1))) = some r := by first | (rw [hy128]; with_reducible exact H) | (have H2_ := (Option.bind_some _ _).symm.trans H; rw [hy128]; with_reducible exact H2_) | (have H2_ := (Option.bind_some _ _).symm.trans H; with_reducible exact H2_) | with_reducible exact H | (rw [hy128]; exact H) | exact H
                have Ny128 := Aside0.mk hy128
                clear hy128
                as_aux_lemma =>
                  have H' := Aside0.mk H
                  clear H
                  have p127 : 0 ≤ (x22_1 : Int) := of_decide_eq_true (by first | (with_reducible assumption) | assumption)
                  have q127 : x22_1 < (l0_1.length : Int) := of_decide_eq_true (by first | (with_reducible assumption) | assumption)
                  obtain ⟨ad127, e127, hx127_0⟩ := Kd.at_int HR0_1.out x22_1 p127 q127
                  cases e127
                  replace hx127_0 := (HB.out.cell (World.block_lt_of_cell? w _ hx127_0)).trans hx127_0
                  replace p127 := eq_true p127
                  replace q127 := eq_true q127
                  go_wp2_with (first | ((with_reducible refine gate_builtin (b := .append) (xs := #[.tmp 26, .tmp 29]) rfl ?_); at_builtin; refine Kd.R_append (Kd.int .u8) (w0 := w) w.heap.size rfl (.tmp 26) (.tmp 29) 22 5 (.int .u8 0) 1 rfl Tryd.underlying22 info5 rfl (by decide) (by omega) u3 x3_1 ((rd l0_1 x22_1) % 256) [.int .u8 ((rd l0_1 x22_1) % 256)] (fun _ => True) (fun _ => False) rfl rfl ?aP (fun _ hk => hk.elim) ?aF ?aO ?aB ?aS ?aL ?_; (case aP => exact rfl); (case aB => exact (by repeat (first | (with_reducible first | exact HB.out | apply below_alloc | apply pw_below_drewN | apply below_drew1 | refine below_set ?_ GE123.out) | exact HB.out))); (case aF => exact (fun _ _ => trivial)); (case aO => exact (by (with_reducible repeat (first | apply Kd.R_alloc | apply Kd.R_drewN | apply Kd.R_drew)); exact HO_3.out)); (case aS => exact (below_size (by repeat (first | (with_reducible first | exact HB.out | apply below_alloc | apply pw_below_drewN | apply below_drew1 | refine below_set ?_ GE123.out) | exact HB.out)))); (case aL => have := LMc11.out; omega); intro v129 w12 ho hb hg hat; rw [← Ny128.out] at ho; have n0_ := Aside0.mk (blk_grown (g := gb123) (o := .cells #[.int .i64 a0_0, .slice (some ad127) l0_1.length c0_1, .slice A0_2 l0_2.length c0_2, .slice A0_3 l0_3.length c0_3, .int .i64 a0_4] 32 (0, 0)) (by (with_reducible repeat (first | refine blk_drewN ?_ _ | refine blk_drew ?_ | refine blk_alloc ?_ _)); exact BK123.out) hg (Kd.R_ne HO_3.out BK123.out (by decide))); have n1_ := Aside0.mk (hb); have n2_ := Aside0.mk (ho); clear BK123; clear HB; clear HO_3; have BK123 := n0_; have HB := n1_; have HO130 := n2_; clear n0_ n1_ n2_; clear ho hb hg hat))
                  go_roundg k1
                  case measure => have := HK1.out; omega
                  case rel => exact ⟨(y128), (wrap64 (x22_1 + 1)), (by first | rfl | (simp; done) | (simp [*]; done)), H', ⟨by have := HK1.out; omega⟩, ⟨by (with_reducible repeat (first | apply Kd.R_alloc | apply Kd.R_drewN | apply Kd.R_drew)); exact HO130.out⟩, ⟨by (with_reducible repeat (first | refine blk_drewN ?_ _ | refine blk_drew ?_ | refine blk_alloc ?_ _)); exact BK123.out⟩, ⟨by repeat (first | (with_reducible first | exact HB.out | apply below_alloc | apply pw_below_drewN | apply below_drew1 | refine below_set ?_ GE123.out) | exact HB.out)⟩⟩
              · rw [if_neg c11] at H
                exact absurd H (by simp)
            · rw [if_neg c10] at H
              exact absurd H (by simp)
          · rw [if_neg c9] at H
            exact absurd H (by simp)
        · rw [if_neg c8] at H
          have c8b0 : decide (x22_1 < (l0_1.length : Int)) = false := decide_eq_false c8
          clear c8
          as_aux_lemma =>
            obtain rfl := Option.some.inj H
            go_wp2
            go_ret
            exact ⟨_, by first | rfl | (simp [errW_none, errW_some] <;> rfl) | (simp [*, errW_none, errW_some] <;> rfl), by (with_reducible repeat (first | apply Kd.R_alloc | apply Kd.R_drewN | apply Kd.R_drew)); exact HO_3.out, by repeat (first | (with_reducible first | exact HB.out | apply below_alloc | apply pw_below_drewN | apply below_drew1 | refine below_set ?_ GE123.out) | exact HB.out)⟩
  · rw [if_neg c2] at H
    have c2b0 : (a0_0 == 3) = false := beq_eq_false_iff_ne.mpr c2
    have c2b1 : (a0_0 != 3) = true := bne_iff_ne.mpr c2
    by_cases c13 : a0_0 = 39
    · rw [if_pos c13] at H
      have c13b0 : (a0_0 == 39) = true := beq_iff_eq.mpr c13
      have c13b1 : (a0_0 != 39) = false := bne_eq_false_iff_eq.mpr c13
      clear c13
      have H' := Aside0.mk H
      clear H
      go_enter Tryd.func13, Tryd.ntmps13
      go_wp2_with (first | ((with_reducible refine gate_dst (N := 1) rfl ?_); refine box_event ?hg (N := 1) ?hd (cs := #[.int .i64 a0_0, .slice A0_1 l0_1.length c0_1, .slice A0_2 l0_2.length c0_2, .slice A0_3 l0_3.length c0_3, .int .i64 a0_4]) (t := 32) ?hr ?_; (case hd => rfl); (case hg => rfl); (case hr => first | (go_simp; done) | (go_simp; rfl)); intro gb123 hg w14 hbox hb; have n0_ := Aside0.mk (below_step (by repeat (first | (with_reducible first | exact HB.out | apply below_alloc | apply pw_below_drewN | apply below_drew1) | exact HB.out)) hb); have n1_ := Aside0.mk (hbox); have n2_ := Aside0.mk ((by rw [hg]; exact (below_size (by repeat (first | (with_reducible first | exact HB.out | apply below_alloc | apply pw_below_drewN | apply below_drew1) | exact HB.out))) : w.heap.size ≤ gb123)); have n3_ := Aside0.mk ((by rw [hg]; exact (below_size (by repeat (first | (with_reducible first | exact HB.out | apply below_alloc | apply pw_below_drewN | apply below_drew1) | exact HB.out))) : w.heap.size ≤ gb123)); clear HB; have HB := n0_; have BK123 := n1_; have GW123 := n2_; have GE123 := n3_; clear n0_ n1_ n2_ n3_; clear hb hbox hg; have hcz15_0 : w14.cell? ⟨gb123, 0, none⟩ = some (.int .i64 a0_0) := (blk_cell BK123.out 0).trans rfl; have hcz15_1 : w14.cell? ⟨gb123, 1, none⟩ = some (.slice A0_1 l0_1.length c0_1) := (blk_cell BK123.out 1).trans rfl; have hcz15_2 : w14.cell? ⟨gb123, 2, none⟩ = some (.slice A0_2 l0_2.length c0_2) := (blk_cell BK123.out 2).trans rfl; have hcz15_3 : w14.cell? ⟨gb123, 3, none⟩ = some (.slice A0_3 l0_3.length c0_3) := (blk_cell BK123.out 3).trans rfl; have hcz15_4 : w14.cell? ⟨gb123, 4, none⟩ = some (.int .i64 a0_4) := (blk_cell BK123.out 4).trans rfl; have hfz15_0 := blk_frozen BK123.out 0; have hfz15_1 := blk_frozen BK123.out 1; have hfz15_2 := blk_frozen BK123.out 2; have hfz15_3 := blk_frozen BK123.out 3; have hfz15_4 := blk_frozen BK123.out 4) | ((with_reducible refine gate_dst (N := 14) rfl ?_); refine Kd.R_lit (Kd.int .u8) _ 5 ?hg (N := 14) ?hd (xs := ([(a0_0) % 256, (a0_4) % 256] : List Int)) (inner := [.int .u8 ((a0_0) % 256), .int .u8 ((a0_4) % 256)]) (ok := fun _ => True) (okp := fun _ => True) ?hr ?hp (fun _ hk => hk) trivial (Below.refl _ _) (Nat.le_refl _) (by simp) ?_; (case hd => rfl); (case hg => rfl); (case hr => first | (go_simp; done) | (go_simp; rfl)); (case hp => exact (Reps.one (show Kd.M (Kd.int .u8) _ _ _ ((a0_0) % 256) [.int .u8 ((a0_0) % 256)] from rfl) (Reps.one (show Kd.M (Kd.int .u8) _ _ _ ((a0_4) % 256) [.int .u8 ((a0_4) % 256)] from rfl) (Reps.none _ _)))); intro v125 w16 ho17 hb hg_ hnew_; clear hg_ hnew_; (first | rw [← Ny124.out] at ho17 | (simp only [Int.reduceToNat] at ho17; rw [← Ny124.out] at ho17)); have n0_ := Aside0.mk (Kd.R_lower ho17 (below_size (by repeat (first | (with_reducible first | exact HB.out | apply below_alloc | apply pw_below_drewN | apply below_drew1 | refine below_set ?_ GE123.out) | exact HB.out)))); have n1_ := Aside0.mk (blk_below (g := gb123) (o := .cells #[.int .i64 a0_0, .slice A0_1 l0_1.length c0_1, .slice A0_2 l0_2.length c0_2, .slice A0_3 l0_3.length c0_3, .int .i64 a0_4] 32 (0, 0)) (by (with_reducible repeat (first | refine blk_drewN ?_ _ | refine blk_drew ?_ | refine blk_alloc ?_ _)); exact BK123.out) hb); have n2_ := Aside0.mk (below_step (by repeat (first | (with_reducible first | exact HB.out | apply below_alloc | apply pw_below_drewN | apply below_drew1 | refine below_set ?_ GE123.out) | exact HB.out)) hb); clear BK123; clear HB; have HO126 := n0_; have BK123 := n1_; have HB := n2_; clear n0_ n1_ n2_; clear hb ho17; have hcz18_0 : w16.cell? ⟨gb123, 0, none⟩ = some (.int .i64 a0_0) := (blk_cell BK123.out 0).trans rfl; have hcz18_1 : w16.cell? ⟨gb123, 1, none⟩ = some (.slice A0_1 l0_1.length c0_1) := (blk_cell BK123.out 1).trans rfl; have hcz18_2 : w16.cell? ⟨gb123, 2, none⟩ = some (.slice A0_2 l0_2.length c0_2) := (blk_cell BK123.out 2).trans rfl; have hcz18_3 : w16.cell? ⟨gb123, 3, none⟩ = some (.slice A0_3 l0_3.length c0_3) := (blk_cell BK123.out 3).trans rfl; have hcz18_4 : w16.cell? ⟨gb123, 4, none⟩ = some (.int .i64 a0_4) := (blk_cell BK123.out 4).trans rfl; have hfz18_0 := blk_frozen BK123.out 0; have hfz18_1 := blk_frozen BK123.out 1; have hfz18_2 := blk_frozen BK123.out 2; have hfz18_3 := blk_frozen BK123.out 3; have hfz18_4 := blk_frozen BK123.out 4))
      go_loopg [3, 37] k (fun kq v3 v37 w' => ∃ (x3_1 : List Int) (x37_1 : Int), v37 = .int .i64 x37_1 ∧ Aside0 (spec_VectorBytes.l1 kq x3_1 l0_2 (l0_2.length : Int) x37_1 = some r) ∧ Aside0 (kq ≤ k) ∧ Aside0 (Kd.R (Kd.int .u8) 5 w' w.heap.size (fun _ => True) v3 x3_1) ∧ Aside0 (w'.heap[gb123]? = some (.cells #[.int .i64 a0_0, (.slice A0_1 l0_1.length c0_1), (.slice A0_2 l0_2.length c0_2), (.slice A0_3 l0_3.length c0_3), .int .i64 a0_4] 32 (0, 0))) ∧ Aside0 (Below w.heap.size w w'))
      case atStart => exact ⟨(y124), (0), (by first | rfl | (simp; done) | (simp [*]; done)), H', ⟨Nat.le_refl _⟩, ⟨by (with_reducible repeat (first | apply Kd.R_alloc | apply Kd.R_drewN | apply Kd.R_drew)); exact HO126.out⟩, ⟨by (with_reducible repeat (first | refine blk_drewN ?_ _ | refine blk_drew ?_ | refine blk_alloc ?_ _)); exact BK123.out⟩, ⟨by repeat (first | (with_reducible first | exact HB.out | apply below_alloc | apply pw_below_drewN | apply below_drew1 | refine below_set ?_ GE123.out) | exact HB.out)⟩⟩
      case round =>
        clear H'
        try clear c1
        try clear p1
        try clear q1
        try clear hx1
        try clear c2
        try clear c2b0
        try clear c2b1
        try clear p2
        try clear p6
        try clear c8
        try clear c8b0
        try clear c9
        try clear c9b0
        try clear c10
        try clear c10b0
        try clear c11
        try clear p12
        try clear q12
        try clear hx12
        try clear c13
        try clear c13b0
        try clear c13b1
        try clear hcz15_0
        try clear hcz15_1
        try clear hcz15_2
        try clear hcz15_3
        try clear hcz15_4
        try clear hcz18_0
        try clear hcz18_1
        try clear hcz18_2
        try clear hcz18_3
        try clear hcz18_4
        try clear hcz4_0
        try clear hcz4_1
        try clear hcz4_2
        try clear hcz4_3
        try clear hcz4_4
        try clear hcz7_0
        try clear hcz7_1
        try clear hcz7_2
        try clear hcz7_3
        try clear hcz7_4
        try clear hfz15_0
        try clear hfz15_1
        try clear hfz15_2
        try clear hfz15_3
        try clear hfz15_4
        try clear hfz18_0
        try clear hfz18_1
        try clear hfz18_2
        try clear hfz18_3
        try clear hfz18_4
        try clear hfz4_0
        try clear hfz4_1
        try clear hfz4_2
        try clear hfz4_3
        try clear hfz4_4
        try clear hfz7_0
        try clear hfz7_1
        try clear hfz7_2
        try clear hfz7_3
        try clear hfz7_4
        try clear hx127_0
        try clear p127
        try clear p2
        try clear q127
        obtain ⟨x3_1, x37_1, rfl, HA, HK1, HO_3, BK123, HB⟩ := hrel
        cases gk with
        | zero => exact absurd HA.out (by simp [spec_VectorBytes.l1])
        | succ k1 =>
          have H := HA.out
          clear HA
          simp only [spec_VectorBytes.l1] at H
          by_cases c19 : x37_1 < (l0_2.length : Int)
          · rw [if_pos c19] at H
            have c19b0 : decide (x37_1 < (l0_2.length : Int)) = true := decide_eq_true c19
            clear c19
            by_cases c20 : 0 ≤ x37_1
            · rw [if_pos c20] at H
              have c20b0 : decide (0 ≤ x37_1) = true := decide_eq_true c20
              clear c20
              by_cases c21 : x37_1 < (l0_2.length : Int)
              · rw [if_pos c21] at H
                have c21b0 : decide (x37_1 < (l0_2.length : Int)) = true := decide_eq_true c21
                clear c21
                obtain ⟨y132, hy132⟩ : ∃ y_ : List Int, y_ = (([(rd l0_2 x37_1) % 256, ((rd l0_2 x37_1) / 256) % 256, ((rd l0_2 x37_1) / 65536) % 256, ((rd l0_2 x37_1) / 16777216) % 256] : List Int)) := ⟨_, rfl⟩
                replace H : (if x3_1.length + y132.length < 140737488355328 then (spec_VectorBytes.l1 k1 (x3_1 ++ y132) l0_2 (l0_2.length : Int) (wrap64 (x37_1 + 1))) else (none)) = some r := by first | (rw [hy132]; with_reducible exact H) | (have H2_ := (Option.bind_some _ _).symm.trans H; rw [hy132]; with_reducible exact H2_) | (have H2_ := (Option.bind_some _ _).symm.trans H; with_reducible exact H2_) | with_reducible exact H | (rw [hy132]; exact H) | exact H
                have Ny132 := Aside0.mk hy132
                clear hy132
                by_cases c22 : x3_1.length + y132.length < 140737488355328
                · rw [if_pos c22] at H
                  have LMc22 := Aside0.mk c22
                  clear c22
                  obtain ⟨y135, hy135⟩ : ∃ y_ : List Int, y_ = (x3_1 ++ y132) := ⟨_, rfl⟩
                  replace H : (spec_VectorBytes.l1 k1 y135 l0_2 (l0_2.length : Int) (wrap64 (x37_1 + 1))) = some r := by first | (rw [hy135]; with_reducible exact H) | (have H2_ := (Option.bind_some _ _).symm.trans H; rw [hy135]; with_reducible exact H2_) | (have H2_ := (Option.bind_some _ _).symm.trans H; with_reducible exact H2_) | with_reducible exact H | (rw [hy135]; exact H) | exact H
                  have Ny135 := Aside0.mk hy135
                  clear hy135
                  as_aux_lemma =>
                    have H' := Aside0.mk H
                    clear H
                    have p131 : 0 ≤ (x37_1 : Int) := of_decide_eq_true (by first | (with_reducible assumption) | assumption)
                    have q131 : x37_1 < (l0_2.length : Int) := of_decide_eq_true (by first | (with_reducible assumption) | assumption)
                    obtain ⟨ad131, e131, hx131_0⟩ := Kd.at_int HR0_2.out x37_1 p131 q131
                    cases e131
                    replace hx131_0 := (HB.out.cell (World.block_lt_of_cell? w _ hx131_0)).trans hx131_0
                    replace p131 := eq_true p131
                    replace q131 := eq_true q131
                    go_wp2_with (first | ((with_reducible refine gate_dst (N := 53) rfl ?_); refine Kd.R_lit (Kd.int .u8) _ 5 ?hg (N := 53) ?hd (xs := ([(rd l0_2 x37_1) % 256, ((rd l0_2 x37_1) / 256) % 256, ((rd l0_2 x37_1) / 65536) % 256, ((rd l0_2 x37_1) / 16777216) % 256] : List Int)) (inner := [.int .u8 ((rd l0_2 x37_1) % 256), .int .u8 (((rd l0_2 x37_1) / 256) % 256), .int .u8 (((rd l0_2 x37_1) / 65536) % 256), .int .u8 (((rd l0_2 x37_1) / 16777216) % 256)]) (ok := fun _ => True) (okp := fun _ => True) ?hr ?hp (fun _ hk => hk) trivial (Below.refl _ _) (Nat.le_refl _) (by simp) ?_; (case hd => rfl); (case hg => rfl); (case hr => first | (go_simp; done) | (go_simp; rfl)); (case hp => exact (Reps.one (show Kd.M (Kd.int .u8) _ _ _ ((rd l0_2 x37_1) % 256) [.int .u8 ((rd l0_2 x37_1) % 256)] from rfl) (Reps.one (show Kd.M (Kd.int .u8) _ _ _ (((rd l0_2 x37_1) / 256) % 256) [.int .u8 (((rd l0_2 x37_1) / 256) % 256)] from rfl) (Reps.one (show Kd.M (Kd.int .u8) _ _ _ (((rd l0_2 x37_1) / 65536) % 256) [.int .u8 (((rd l0_2 x37_1) / 65536) % 256)] from rfl) (Reps.one (show Kd.M (Kd.int .u8) _ _ _ (((rd l0_2 x37_1) / 16777216) % 256) [.int .u8 (((rd l0_2 x37_1) / 16777216) % 256)] from rfl) (Reps.none _ _)))))); intro v133 w23 ho24 hb hg_ hnew_; clear hg_ hnew_; (first | rw [← Ny132.out] at ho24 | (simp only [Int.reduceToNat] at ho24; rw [← Ny132.out] at ho24)); have n0_ := Aside0.mk (Kd.R_elder' (by (with_reducible repeat (first | apply Kd.R_alloc | apply Kd.R_drewN | apply Kd.R_drew)); exact HO_3.out) (Kd.R_base ho24) hb); have n1_ := Aside0.mk (Kd.R_lower (Kd.R_new' ho24 (Kd.R_lt (by (with_reducible repeat (first | apply Kd.R_alloc | apply Kd.R_drewN | apply Kd.R_drew)); exact HO_3.out))) (below_size (by repeat (first | (with_reducible first | exact HB.out | apply below_alloc | apply pw_below_drewN | apply below_drew1 | refine below_set ?_ GE123.out) | exact HB.out)))); have n2_ := Aside0.mk (blk_below (g := gb123) (o := .cells #[.int .i64 a0_0, .slice A0_1 l0_1.length c0_1, .slice (some ad131) l0_2.length c0_2, .slice A0_3 l0_3.length c0_3, .int .i64 a0_4] 32 (0, 0)) (by (with_reducible repeat (first | refine blk_drewN ?_ _ | refine blk_drew ?_ | refine blk_alloc ?_ _)); exact BK123.out) hb); have n3_ := Aside0.mk (below_step (by repeat (first | (with_reducible first | exact HB.out | apply below_alloc | apply pw_below_drewN | apply below_drew1 | refine below_set ?_ GE123.out) | exact HB.out)) hb); clear HO_3; clear BK123; clear HB; have HO_3 := n0_; have HO134 := n1_; have BK123 := n2_; have HB := n3_; clear n0_ n1_ n2_ n3_; clear hb ho24; obtain ⟨Ao26, co26, eo26⟩ := Kd.R_slice HO134.out; subst eo26) | ((with_reducible refine gate_builtin (b := .append) (xs := #[.tmp 41, .tmp 53]) rfl ?_); at_builtin; refine Kd.R_append_rows (Kd.int .u8) (w0 := w) w.heap.size rfl (.tmp 41) (.tmp 53) 22 5 (.int .u8 0) 1 rfl Tryd.underlying22 info5 rfl (by decide) (by omega) u3 x3_1 y132 _ _ _ (fun k_ => some k_ ≠ (.slice Ao26 y132.length co26 : Value).ownBlock) (fun _ => False) rfl rfl ?aO ?aR (fun _ _ h => h) (fun _ h => h.elim) ?aF ?aB ?aS ?aL ?_; (case aR => repeat (first | exact (Kd.R_reads' HO134.out).2.2 | (with_reducible refine Kd.C_alloc ?_ _) | (with_reducible refine Kd.C_drewN ?_ _) | (with_reducible refine Kd.C_drew ?_))); (case aB => exact (by repeat (first | (with_reducible first | exact HB.out | apply below_alloc | apply pw_below_drewN | apply below_drew1 | refine below_set ?_ GE123.out) | exact HB.out))); (case aF => exact (fun k_ hk => Kd.fresh' (Kd.R_lt (by (with_reducible repeat (first | apply Kd.R_alloc | apply Kd.R_drewN | apply Kd.R_drew)); exact HO134.out)) k_ hk)); (case aO => exact (by (with_reducible repeat (first | apply Kd.R_alloc | apply Kd.R_drewN | apply Kd.R_drew)); exact Kd.R_mono HO_3.out (fun _ hk => hk.2))); (case aS => exact (below_size (by repeat (first | (with_reducible first | exact HB.out | apply below_alloc | apply pw_below_drewN | apply below_drew1 | refine below_set ?_ GE123.out) | exact HB.out)))); (case aL => have := LMc22.out; omega); intro v136 w25 ho hb hg hat; rw [← Ny135.out] at ho; have n0_ := Aside0.mk (blk_grown (g := gb123) (o := .cells #[.int .i64 a0_0, .slice A0_1 l0_1.length c0_1, .slice (some ad131) l0_2.length c0_2, .slice A0_3 l0_3.length c0_3, .int .i64 a0_4] 32 (0, 0)) (by (with_reducible repeat (first | refine blk_drewN ?_ _ | refine blk_drew ?_ | refine blk_alloc ?_ _)); exact BK123.out) hg (Kd.R_ne HO_3.out BK123.out (by decide))); have n1_ := Aside0.mk (Kd.R_after (ok := (fun _ => True)) (by (with_reducible repeat (first | apply Kd.R_alloc | apply Kd.R_drewN | apply Kd.R_drew)); exact HO134.out) hg hat); have n2_ := Aside0.mk (hb); have n3_ := Aside0.mk (ho); clear BK123; clear HO134; clear HB; clear HO_3; have BK123 := n0_; have HO134 := n1_; have HB := n2_; have HO137 := n3_; clear n0_ n1_ n2_ n3_; clear ho hb hg hat))
                    go_roundg k1
                    case measure => have := HK1.out; omega
                    case rel => exact ⟨(y135), (wrap64 (x37_1 + 1)), (by first | rfl | (simp; done) | (simp [*]; done)), H', ⟨by have := HK1.out; omega⟩, ⟨by (with_reducible repeat (first | apply Kd.R_alloc | apply Kd.R_drewN | apply Kd.R_drew)); exact Kd.R_mono HO137.out (fun _ hk => trivial)⟩, ⟨by (with_reducible repeat (first | refine blk_drewN ?_ _ | refine blk_drew ?_ | refine blk_alloc ?_ _)); exact BK123.out⟩, ⟨by repeat (first | (with_reducible first | exact HB.out | apply below_alloc | apply pw_below_drewN | apply below_drew1 | refine below_set ?_ GE123.out) | exact HB.out)⟩⟩
                · rw [if_neg c22] at H
                  exact absurd H (by simp)
              · rw [if_neg c21] at H
                exact absurd H (by simp)
            · rw [if_neg c20] at H
              exact absurd H (by simp)
          · rw [if_neg c19] at H
            have c19b0 : decide (x37_1 < (l0_2.length : Int)) = false := decide_eq_false c19
            clear c19
            as_aux_lemma =>
              obtain rfl := Option.some.inj H
              go_wp2
              go_ret
              exact ⟨_, by first | rfl | (simp [errW_none, errW_some] <;> rfl) | (simp [*, errW_none, errW_some] <;> rfl), by (with_reducible repeat (first | apply Kd.R_alloc | apply Kd.R_drewN | apply Kd.R_drew)); exact HO_3.out, by repeat (first | (with_reducible first | exact HB.out | apply below_alloc | apply pw_below_drewN | apply below_drew1 | refine below_set ?_ GE123.out) | exact HB.out)⟩
    · rw [if_neg c13] at H
      have c13b0 : (a0_0 == 39) = false := beq_eq_false_iff_ne.mpr c13
      have c13b1 : (a0_0 != 39) = true := bne_iff_ne.mpr c13
      by_cases c27 : a0_0 = 16
      · rw [if_pos c27] at H
        have c27b0 : (a0_0 == 16) = true := beq_iff_eq.mpr c27
        have c27b1 : (a0_0 != 16) = false := bne_eq_false_iff_eq.mpr c27
        clear c27
        by_cases c28 : y124.length + l0_3.length < 140737488355328
        · rw [if_pos c28] at H
          have LMc28 := Aside0.mk c28
          clear c28
          obtain ⟨y138, hy138⟩ : ∃ y_ : List Int, y_ = (y124 ++ l0_3) := ⟨_, rfl⟩
          replace H : (some y138) = some r := by first | (rw [hy138]; with_reducible exact H) | (have H2_ := (Option.bind_some _ _).symm.trans H; rw [hy138]; with_reducible exact H2_) | (have H2_ := (Option.bind_some _ _).symm.trans H; with_reducible exact H2_) | with_reducible exact H | (rw [hy138]; exact H) | exact H
          have Ny138 := Aside0.mk hy138
          clear hy138
          as_aux_lemma =>
            obtain rfl := Option.some.inj H
            go_enter Tryd.func13, Tryd.ntmps13
            go_wp2_with (first | ((with_reducible refine gate_dst (N := 1) rfl ?_); refine box_event ?hg (N := 1) ?hd (cs := #[.int .i64 a0_0, .slice A0_1 l0_1.length c0_1, .slice A0_2 l0_2.length c0_2, .slice A0_3 l0_3.length c0_3, .int .i64 a0_4]) (t := 32) ?hr ?_; (case hd => rfl); (case hg => rfl); (case hr => first | (go_simp; done) | (go_simp; rfl)); intro gb123 hg w29 hbox hb; have n0_ := Aside0.mk (below_step (by repeat (first | (with_reducible first | exact HB.out | apply below_alloc | apply pw_below_drewN | apply below_drew1) | exact HB.out)) hb); have n1_ := Aside0.mk (hbox); have n2_ := Aside0.mk ((by rw [hg]; exact (below_size (by repeat (first | (with_reducible first | exact HB.out | apply below_alloc | apply pw_below_drewN | apply below_drew1) | exact HB.out))) : w.heap.size ≤ gb123)); have n3_ := Aside0.mk ((by rw [hg]; exact (below_size (by repeat (first | (with_reducible first | exact HB.out | apply below_alloc | apply pw_below_drewN | apply below_drew1) | exact HB.out))) : w.heap.size ≤ gb123)); clear HB; have HB := n0_; have BK123 := n1_; have GW123 := n2_; have GE123 := n3_; clear n0_ n1_ n2_ n3_; clear hb hbox hg; have hcz30_0 : w29.cell? ⟨gb123, 0, none⟩ = some (.int .i64 a0_0) := (blk_cell BK123.out 0).trans rfl; have hcz30_1 : w29.cell? ⟨gb123, 1, none⟩ = some (.slice A0_1 l0_1.length c0_1) := (blk_cell BK123.out 1).trans rfl; have hcz30_2 : w29.cell? ⟨gb123, 2, none⟩ = some (.slice A0_2 l0_2.length c0_2) := (blk_cell BK123.out 2).trans rfl; have hcz30_3 : w29.cell? ⟨gb123, 3, none⟩ = some (.slice A0_3 l0_3.length c0_3) := (blk_cell BK123.out 3).trans rfl; have hcz30_4 : w29.cell? ⟨gb123, 4, none⟩ = some (.int .i64 a0_4) := (blk_cell BK123.out 4).trans rfl; have hfz30_0 := blk_frozen BK123.out 0; have hfz30_1 := blk_frozen BK123.out 1; have hfz30_2 := blk_frozen BK123.out 2; have hfz30_3 := blk_frozen BK123.out 3; have hfz30_4 := blk_frozen BK123.out 4) | ((with_reducible refine gate_dst (N := 14) rfl ?_); refine Kd.R_lit (Kd.int .u8) _ 5 ?hg (N := 14) ?hd (xs := ([(a0_0) % 256, (a0_4) % 256] : List Int)) (inner := [.int .u8 ((a0_0) % 256), .int .u8 ((a0_4) % 256)]) (ok := fun _ => True) (okp := fun _ => True) ?hr ?hp (fun _ hk => hk) trivial (Below.refl _ _) (Nat.le_refl _) (by simp) ?_; (case hd => rfl); (case hg => rfl); (case hr => first | (go_simp; done) | (go_simp; rfl)); (case hp => exact (Reps.one (show Kd.M (Kd.int .u8) _ _ _ ((a0_0) % 256) [.int .u8 ((a0_0) % 256)] from rfl) (Reps.one (show Kd.M (Kd.int .u8) _ _ _ ((a0_4) % 256) [.int .u8 ((a0_4) % 256)] from rfl) (Reps.none _ _)))); intro v125 w31 ho32 hb hg_ hnew_; clear hg_ hnew_; (first | rw [← Ny124.out] at ho32 | (simp only [Int.reduceToNat] at ho32; rw [← Ny124.out] at ho32)); have n0_ := Aside0.mk (Kd.R_lower ho32 (below_size (by repeat (first | (with_reducible first | exact HB.out | apply below_alloc | apply pw_below_drewN | apply below_drew1 | refine below_set ?_ GE123.out) | exact HB.out)))); have n1_ := Aside0.mk (blk_below (g := gb123) (o := .cells #[.int .i64 a0_0, .slice A0_1 l0_1.length c0_1, .slice A0_2 l0_2.length c0_2, .slice A0_3 l0_3.length c0_3, .int .i64 a0_4] 32 (0, 0)) (by (with_reducible repeat (first | refine blk_drewN ?_ _ | refine blk_drew ?_ | refine blk_alloc ?_ _)); exact BK123.out) hb); have n2_ := Aside0.mk (below_step (by repeat (first | (with_reducible first | exact HB.out | apply below_alloc | apply pw_below_drewN | apply below_drew1 | refine below_set ?_ GE123.out) | exact HB.out)) hb); clear BK123; clear HB; have HO126 := n0_; have BK123 := n1_; have HB := n2_; clear n0_ n1_ n2_; clear hb ho32; have hcz33_0 : w31.cell? ⟨gb123, 0, none⟩ = some (.int .i64 a0_0) := (blk_cell BK123.out 0).trans rfl; have hcz33_1 : w31.cell? ⟨gb123, 1, none⟩ = some (.slice A0_1 l0_1.length c0_1) := (blk_cell BK123.out 1).trans rfl; have hcz33_2 : w31.cell? ⟨gb123, 2, none⟩ = some (.slice A0_2 l0_2.length c0_2) := (blk_cell BK123.out 2).trans rfl; have hcz33_3 : w31.cell? ⟨gb123, 3, none⟩ = some (.slice A0_3 l0_3.length c0_3) := (blk_cell BK123.out 3).trans rfl; have hcz33_4 : w31.cell? ⟨gb123, 4, none⟩ = some (.int .i64 a0_4) := (blk_cell BK123.out 4).trans rfl; have hfz33_0 := blk_frozen BK123.out 0; have hfz33_1 := blk_frozen BK123.out 1; have hfz33_2 := blk_frozen BK123.out 2; have hfz33_3 := blk_frozen BK123.out 3; have hfz33_4 := blk_frozen BK123.out 4) | ((with_reducible refine gate_builtin (b := .append) (xs := #[.tmp 58, .tmp 60]) rfl ?_); at_builtin; refine Kd.R_append_rows (Kd.int .u8) (w0 := w) w.heap.size rfl (.tmp 58) (.tmp 60) 22 5 (.int .u8 0) 1 rfl Tryd.underlying22 info5 rfl (by decide) (by omega) v125 y124 l0_3 _ _ _ (fun _ => True) (fun _ => False) rfl rfl ?aO ?aR (fun _ _ h => h) (fun _ h => h.elim) ?aF ?aB ?aS ?aL ?_; (case aR => repeat (first | exact (Kd.C_below HR0_3.out HB.out) | (with_reducible refine Kd.C_alloc ?_ _) | (with_reducible refine Kd.C_drewN ?_ _) | (with_reducible refine Kd.C_drew ?_))); (case aB => exact (by repeat (first | (with_reducible first | exact HB.out | apply below_alloc | apply pw_below_drewN | apply below_drew1 | refine below_set ?_ GE123.out) | exact HB.out))); (case aF => exact (fun _ _ => trivial)); (case aO => exact (by (with_reducible repeat (first | apply Kd.R_alloc | apply Kd.R_drewN | apply Kd.R_drew)); exact HO126.out)); (case aS => exact (below_size (by repeat (first | (with_reducible first | exact HB.out | apply below_alloc | apply pw_below_drewN | apply below_drew1 | refine below_set ?_ GE123.out) | exact HB.out)))); (case aL => have := LMc28.out; omega); intro v139 w34 ho hb hg hat; rw [← Ny138.out] at ho; have n0_ := Aside0.mk (blk_grown (g := gb123) (o := .cells #[.int .i64 a0_0, .slice A0_1 l0_1.length c0_1, .slice A0_2 l0_2.length c0_2, .slice A0_3 l0_3.length c0_3, .int .i64 a0_4] 32 (0, 0)) (by (with_reducible repeat (first | refine blk_drewN ?_ _ | refine blk_drew ?_ | refine blk_alloc ?_ _)); exact BK123.out) hg (Kd.R_ne HO126.out BK123.out (by decide))); have n1_ := Aside0.mk (hb); have n2_ := Aside0.mk (ho); clear BK123; clear HB; clear HO126; have BK123 := n0_; have HB := n1_; have HO140 := n2_; clear n0_ n1_ n2_; clear ho hb hg hat))
            go_ret
            exact ⟨_, by first | rfl | (simp [errW_none, errW_some] <;> rfl) | (simp [*, errW_none, errW_some] <;> rfl), by (with_reducible repeat (first | apply Kd.R_alloc | apply Kd.R_drewN | apply Kd.R_drew)); exact HO140.out, by repeat (first | (with_reducible first | exact HB.out | apply below_alloc | apply pw_below_drewN | apply below_drew1 | refine below_set ?_ GE123.out) | exact HB.out)⟩
        · rw [if_neg c28] at H
          exact absurd H (by simp)
      · rw [if_neg c27] at H
        have c27b0 : (a0_0 == 16) = false := beq_eq_false_iff_ne.mpr c27
        have c27b1 : (a0_0 != 16) = true := bne_iff_ne.mpr c27
        as_aux_lemma =>
          obtain rfl := Option.some.inj H
          go_enter Tryd.func13, Tryd.ntmps13
          go_wp2_with (first | ((with_reducible refine gate_dst (N := 1) rfl ?_); refine box_event ?hg (N := 1) ?hd (cs := #[.int .i64 a0_0, .slice A0_1 l0_1.length c0_1, .slice A0_2 l0_2.length c0_2, .slice A0_3 l0_3.length c0_3, .int .i64 a0_4]) (t := 32) ?hr ?_; (case hd => rfl); (case hg => rfl); (case hr => first | (go_simp; done) | (go_simp; rfl)); intro gb123 hg w35 hbox hb; have n0_ := Aside0.mk (below_step (by repeat (first | (with_reducible first | exact HB.out | apply below_alloc | apply pw_below_drewN | apply below_drew1) | exact HB.out)) hb); have n1_ := Aside0.mk (hbox); have n2_ := Aside0.mk ((by rw [hg]; exact (below_size (by repeat (first | (with_reducible first | exact HB.out | apply below_alloc | apply pw_below_drewN | apply below_drew1) | exact HB.out))) : w.heap.size ≤ gb123)); have n3_ := Aside0.mk ((by rw [hg]; exact (below_size (by repeat (first | (with_reducible first | exact HB.out | apply below_alloc | apply pw_below_drewN | apply below_drew1) | exact HB.out))) : w.heap.size ≤ gb123)); clear HB; have HB := n0_; have BK123 := n1_; have GW123 := n2_; have GE123 := n3_; clear n0_ n1_ n2_ n3_; clear hb hbox hg; have hcz36_0 : w35.cell? ⟨gb123, 0, none⟩ = some (.int .i64 a0_0) := (blk_cell BK123.out 0).trans rfl; have hcz36_1 : w35.cell? ⟨gb123, 1, none⟩ = some (.slice A0_1 l0_1.length c0_1) := (blk_cell BK123.out 1).trans rfl; have hcz36_2 : w35.cell? ⟨gb123, 2, none⟩ = some (.slice A0_2 l0_2.length c0_2) := (blk_cell BK123.out 2).trans rfl; have hcz36_3 : w35.cell? ⟨gb123, 3, none⟩ = some (.slice A0_3 l0_3.length c0_3) := (blk_cell BK123.out 3).trans rfl; have hcz36_4 : w35.cell? ⟨gb123, 4, none⟩ = some (.int .i64 a0_4) := (blk_cell BK123.out 4).trans rfl; have hfz36_0 := blk_frozen BK123.out 0; have hfz36_1 := blk_frozen BK123.out 1; have hfz36_2 := blk_frozen BK123.out 2; have hfz36_3 := blk_frozen BK123.out 3; have hfz36_4 := blk_frozen BK123.out 4) | ((with_reducible refine gate_dst (N := 14) rfl ?_); refine Kd.R_lit (Kd.int .u8) _ 5 ?hg (N := 14) ?hd (xs := ([(a0_0) % 256, (a0_4) % 256] : List Int)) (inner := [.int .u8 ((a0_0) % 256), .int .u8 ((a0_4) % 256)]) (ok := fun _ => True) (okp := fun _ => True) ?hr ?hp (fun _ hk => hk) trivial (Below.refl _ _) (Nat.le_refl _) (by simp) ?_; (case hd => rfl); (case hg => rfl); (case hr => first | (go_simp; done) | (go_simp; rfl)); (case hp => exact (Reps.one (show Kd.M (Kd.int .u8) _ _ _ ((a0_0) % 256) [.int .u8 ((a0_0) % 256)] from rfl) (Reps.one (show Kd.M (Kd.int .u8) _ _ _ ((a0_4) % 256) [.int .u8 ((a0_4) % 256)] from rfl) (Reps.none _ _)))); intro v125 w37 ho38 hb hg_ hnew_; clear hg_ hnew_; (first | rw [← Ny124.out] at ho38 | (simp only [Int.reduceToNat] at ho38; rw [← Ny124.out] at ho38)); have n0_ := Aside0.mk (Kd.R_lower ho38 (below_size (by repeat (first | (with_reducible first | exact HB.out | apply below_alloc | apply pw_below_drewN | apply below_drew1 | refine below_set ?_ GE123.out) | exact HB.out)))); have n1_ := Aside0.mk (blk_below (g := gb123) (o := .cells #[.int .i64 a0_0, .slice A0_1 l0_1.length c0_1, .slice A0_2 l0_2.length c0_2, .slice A0_3 l0_3.length c0_3, .int .i64 a0_4] 32 (0, 0)) (by (with_reducible repeat (first | refine blk_drewN ?_ _ | refine blk_drew ?_ | refine blk_alloc ?_ _)); exact BK123.out) hb); have n2_ := Aside0.mk (below_step (by repeat (first | (with_reducible first | exact HB.out | apply below_alloc | apply pw_below_drewN | apply below_drew1 | refine below_set ?_ GE123.out) | exact HB.out)) hb); clear BK123; clear HB; have HO126 := n0_; have BK123 := n1_; have HB := n2_; clear n0_ n1_ n2_; clear hb ho38; have hcz39_0 : w37.cell? ⟨gb123, 0, none⟩ = some (.int .i64 a0_0) := (blk_cell BK123.out 0).trans rfl; have hcz39_1 : w37.cell? ⟨gb123, 1, none⟩ = some (.slice A0_1 l0_1.length c0_1) := (blk_cell BK123.out 1).trans rfl; have hcz39_2 : w37.cell? ⟨gb123, 2, none⟩ = some (.slice A0_2 l0_2.length c0_2) := (blk_cell BK123.out 2).trans rfl; have hcz39_3 : w37.cell? ⟨gb123, 3, none⟩ = some (.slice A0_3 l0_3.length c0_3) := (blk_cell BK123.out 3).trans rfl; have hcz39_4 : w37.cell? ⟨gb123, 4, none⟩ = some (.int .i64 a0_4) := (blk_cell BK123.out 4).trans rfl; have hfz39_0 := blk_frozen BK123.out 0; have hfz39_1 := blk_frozen BK123.out 1; have hfz39_2 := blk_frozen BK123.out 2; have hfz39_3 := blk_frozen BK123.out 3; have hfz39_4 := blk_frozen BK123.out 4))
          go_ret
          exact ⟨_, by first | rfl | (simp [errW_none, errW_some] <;> rfl) | (simp [*, errW_none, errW_some] <;> rfl), by (with_reducible repeat (first | apply Kd.R_alloc | apply Kd.R_drewN | apply Kd.R_drew)); exact HO126.out, by repeat (first | (with_reducible first | exact HB.out | apply below_alloc | apply pw_below_drewN | apply below_drew1 | refine below_set ?_ GE123.out) | exact HB.out)⟩

end Go.Proofs.YthlpmeiihchdjaaDoor.PV
