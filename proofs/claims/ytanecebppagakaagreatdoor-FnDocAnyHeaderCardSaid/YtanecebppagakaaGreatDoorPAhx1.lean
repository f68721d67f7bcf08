/- Printed by a program of this session (a turned copy of the printer of the kit): contracts of functions of the translation, each with the Lean function that it computes. Conditions: as each theorem states them. -/
import Derived.Test.YtanecebppagakaaGreatDoorPAhx0
namespace Go.Proofs.YtanecebppagakaaGreatDoor.PAh
open Go.RowKit Go.Proofs.YtanecebppagakaaGreatDoorW.PrintWords Go.Proofs.YtanecebppagakaaGreatDoorW.PrintLast Go.Proofs.YtanecebppagakaaGreatDoorW.PrintMore
attribute [local go_sem] max2_int min2_int max_two min_two max_three min_three max_four min_four   -- for this text's walks alone
set_option linter.unusedVariables false
set_option linter.unusedSimpArgs false

-- NOT PRINTED: function 171 (bytealg_IndexByte)

/-! ### bytes_IndexByte: function 129 -/
def bytes_IndexByte.f (l0 : List Int) (a1 : Int) : Option (Int) := some (Lib.indexByte (Lib.bytesOf l0) a1.toNat.toUInt8)
set_option maxHeartbeats 1000000 in
set_option maxRecDepth 100000 in
theorem bytes_IndexByte.calls (A0 : Option Addr) (c0 : Nat) (l0 : List Int) (a1 : Int) (r : Int) (w : World) (hr0 : Kd.C (Kd.int .u8) w A0 l0.length l0) (_hc0 : l0.length ≤ c0) (h : bytes_IndexByte.f l0 a1 = some r) :
    Calls Tryz.prog 129 #[.slice A0 l0.length c0, .int .u8 a1] w fun e w' => e = .returned (.int .i64 r) ∧ Drawn0 w w' := by
  obtain rfl := Option.some.inj h
  clear h
  have HR := Kd.reads_of_C (enc := Value.int .u8) (d := (0 : Int)) (h1 := fun _ => rfl) hr0
  clear hr0
  cases A0 with
  | none =>
    have hl : l0 = [] := by
      rcases Nat.eq_zero_or_pos l0.length with hz | hz
      · exact List.eq_nil_of_length_eq_zero hz
      obtain ⟨_, he, _⟩ := HR.2.2 hz
      cases he
    subst hl
    go_enter Tryz.func129, Tryz.ntmps129
    go_wp2
    rw [run_callFunc_extern Tryz.func171 (by kernel_rfl) (by kernel_rfl) (by kernel_rfl) (e := Extern.BytealgIndexByte.indexByte) (by kernel_rfl), Lib.run_indexByteNil w]
    simp only [Result.andThen]
    rw [Oper.upon_value]
    go_wp2
    go_ret
    exact ⟨rfl, ⟨0, rfl⟩⟩
  | some a =>
    have hc : ∀ i, i < l0.length → w.cell? (a.add i) = some (.int .u8 (l0.getD i 0)) := by
      intro i hi
      obtain ⟨ad, he, hc⟩ := HR.2.2 (by omega)
      cases he
      exact hc i hi
    clear HR
    go_enter Tryz.func129, Tryz.ntmps129
    go_wp2
    rw [run_callFunc_extern Tryz.func171 (by kernel_rfl) (by kernel_rfl) (by kernel_rfl) (e := Extern.BytealgIndexByte.indexByte) (by kernel_rfl), Lib.run_indexByteAt w a l0.length c0 l0 rfl hc a1]
    simp only [Result.andThen]
    rw [Oper.upon_value]
    go_wp2
    go_ret
    exact ⟨rfl, ⟨0, rfl⟩⟩

/-! ### binaryutil_ReadCStringBytes: function 102 -/
def binaryutil_ReadCStringBytes.f (l0 : List Int) : Option (List Int × List Int × Bool) := (bytes_IndexByte.f l0 0).bind fun t101 => (if t101 < 0 then (some (([] : List Int), l0, false)) else (if 0 ≤ t101 then (if t101 ≤ (l0.length : Int) then (if 0 ≤ (wrap64 (t101 + 1)) then (if (wrap64 (t101 + 1)) ≤ (l0.length : Int) then (some ((l0.take (t101 : Int).toNat), (l0.drop ((wrap64 (t101 + 1)) : Int).toNat), true)) else (none)) else (none)) else (none)) else (none)))
set_option maxHeartbeats 8000000 in
set_option maxRecDepth 100000 in
theorem binaryutil_ReadCStringBytes.calls (P0_ : Nat → Prop) (A0 : Option Addr) (c0 : Nat) (l0 : List Int) (r1 : List Int) (r2 : List Int) (r3 : Bool) (w : World) (hs0 : Kd.V (Kd.int .u8) 5 w w.heap.size (fun k_ => P0_ k_) (.slice A0 l0.length c0) l0) (h : binaryutil_ReadCStringBytes.f l0 = some (r1, r2, r3)) :
    Calls Tryz.prog 102 #[.slice A0 l0.length c0] w fun e w' => ∃ v0_ v1_ : Value, e = .returned (.tuple #[v0_, v1_, .bool r3]) ∧ Kd.V (Kd.int .u8) 5 w' w.heap.size (fun k_ => (P0_ k_ ∨ w.heap.size ≤ k_)) v0_ r1 ∧ Kd.V (Kd.int .u8) 5 w' w.heap.size (fun k_ => (P0_ k_ ∨ w.heap.size ≤ k_)) v1_ r2 ∧ Below w.heap.size w w' := by
  have HO0 := Aside0.mk (show Kd.V (Kd.int .u8) 5 w w.heap.size (fun k_ => (P0_ k_ ∨ w.heap.size ≤ k_)) (.slice A0 l0.length c0) l0 from Kd.V_mono hs0 (fun k_ hk => .inl hk))
  have HB := Aside0.mk (Below.refl w.heap.size w)
  have H : ((bytes_IndexByte.f l0 0).bind fun t101 => (if t101 < 0 then (some (([] : List Int), l0, false)) else (if 0 ≤ t101 then (if t101 ≤ (l0.length : Int) then (if 0 ≤ (wrap64 (t101 + 1)) then (if (wrap64 (t101 + 1)) ≤ (l0.length : Int) then (some ((l0.take (t101 : Int).toNat), (l0.drop ((wrap64 (t101 + 1)) : Int).toNat), true)) else (none)) else (none)) else (none)) else (none)))) = some (r1, r2, r3) := h
  clear h
  replace H := Option.bind_eq_some_iff.mp H
  obtain ⟨t101, A20, H⟩ := H
  replace H : (if t101 < 0 then (some (([] : List Int), l0, false)) else (if 0 ≤ t101 then (if t101 ≤ (l0.length : Int) then (if 0 ≤ (wrap64 (t101 + 1)) then (if (wrap64 (t101 + 1)) ≤ (l0.length : Int) then (some ((l0.take (t101 : Int).toNat), (l0.drop ((wrap64 (t101 + 1)) : Int).toNat), true)) else (none)) else (none)) else (none)) else (none))) = some (r1, r2, r3) := H
  have A2 := Aside0.mk A20
  clear A20
  by_cases c3 : t101 < 0
  · rw [if_pos c3] at H
    have c3b0 : decide (t101 < 0) = true := decide_eq_true c3
    clear c3
    as_aux_lemma =>
      simp only [Option.some.injEq, Prod.mk.injEq] at H
      obtain ⟨rfl, rfl, rfl⟩ := H
      go_enter Tryz.func102, Tryz.ntmps102
      go_wp2_with (first | (go_at_call 129; (with_reducible refine (bytes_IndexByte.calls _ _ l0 0 t101 _ ?side1 ?side2 A2.out).mono ?_); (case side1 => repeat (first | exact (Kd.V_reads' HO0.out).2.2 | (with_reducible refine Kd.C_alloc ?_ _) | (with_reducible refine Kd.C_drewN ?_ _) | (with_reducible refine Kd.C_drew ?_))); (case side2 => exact (Kd.V_reads' HO0.out).2.1); rintro e w' ⟨rfl, ⟨nd, rfl⟩⟩; (try first | exact ⟨rfl, _, World.drewN_drewN _ _ _⟩ | exact ⟨rfl, _, Eq.trans (World.drewN_drewN _ _ _) (congrArg (World.drewN _) (Nat.add_assoc _ _ _))⟩)))
      repeat (go_quiet (first | (go_at_call 129; (with_reducible refine (bytes_IndexByte.calls _ _ l0 0 t101 _ ?side1 ?side2 A2.out).mono ?_); (case side1 => repeat (first | exact (Kd.V_reads' HO0.out).2.2 | (with_reducible refine Kd.C_alloc ?_ _) | (with_reducible refine Kd.C_drewN ?_ _) | (with_reducible refine Kd.C_drew ?_))); (case side2 => exact (Kd.V_reads' HO0.out).2.1); rintro e w' ⟨rfl, ⟨nd, rfl⟩⟩; (try first | exact ⟨rfl, _, World.drewN_drewN _ _ _⟩ | exact ⟨rfl, _, Eq.trans (World.drewN_drewN _ _ _) (congrArg (World.drewN _) (Nat.add_assoc _ _ _))⟩))); try go_wp2_with (first | (go_at_call 129; (with_reducible refine (bytes_IndexByte.calls _ _ l0 0 t101 _ ?side1 ?side2 A2.out).mono ?_); (case side1 => repeat (first | exact (Kd.V_reads' HO0.out).2.2 | (with_reducible refine Kd.C_alloc ?_ _) | (with_reducible refine Kd.C_drewN ?_ _) | (with_reducible refine Kd.C_drew ?_))); (case side2 => exact (Kd.V_reads' HO0.out).2.1); rintro e w' ⟨rfl, ⟨nd, rfl⟩⟩; (try first | exact ⟨rfl, _, World.drewN_drewN _ _ _⟩ | exact ⟨rfl, _, Eq.trans (World.drewN_drewN _ _ _) (congrArg (World.drewN _) (Nat.add_assoc _ _ _))⟩))))
      go_ret3
      exact ⟨_, _, by first | rfl | (simp [errW_none, errW_some] <;> rfl) | (simp [*, errW_none, errW_some] <;> rfl), Kd.V_nil _ _ _ _ _, HW.zV HO0.out, HW.zb⟩
  rw [if_neg c3] at H
  have c3b0 : decide (t101 < 0) = false := decide_eq_false c3
  clear c3
  by_cases c4 : 0 ≤ t101
  rotate_left
  · rw [if_neg c4] at H
    exact absurd H (by simp)
  rw [if_pos c4] at H
  have c4b0 := eq_true c4
  have c4b1 : decide (0 ≤ t101) = true := decide_eq_true c4
  clear c4
  by_cases c5 : t101 ≤ (l0.length : Int)
  rotate_left
  · rw [if_neg c5] at H
    exact absurd H (by simp)
  rw [if_pos c5] at H
  have c5b0 := eq_true c5
  have c5b1 : decide (t101 ≤ (l0.length : Int)) = true := decide_eq_true c5
  clear c5
  obtain ⟨y102, hy102⟩ : ∃ y_ : List Int, y_ = (l0.take (t101 : Int).toNat) := ⟨_, rfl⟩
  replace H : (if 0 ≤ (wrap64 (t101 + 1)) then (if (wrap64 (t101 + 1)) ≤ (l0.length : Int) then (some (y102, (l0.drop ((wrap64 (t101 + 1)) : Int).toNat), true)) else (none)) else (none)) = some (r1, r2, r3) := by first | (rw [hy102]; with_reducible exact H) | (have H2_ := (Option.bind_some _ _).symm.trans H; rw [hy102]; with_reducible exact H2_) | (have H2_ := (Option.bind_some _ _).symm.trans H; with_reducible exact H2_) | with_reducible exact H | (rw [hy102]; exact H) | exact H
  have Ny102 := Aside0.mk hy102
  clear hy102
  obtain ⟨ji6, hji6⟩ : ∃ j_ : Int, (wrap64 (t101 + 1)) = j_ := ⟨_, rfl⟩
  replace H : (if 0 ≤ (ji6) then (if (ji6) ≤ (l0.length : Int) then (some (y102, (l0.drop ((ji6) : Int).toNat), true)) else (none)) else (none)) = some (r1, r2, r3) := by first | (rw [hji6] at H; exact H) | (simp only [hji6] at H ⊢; exact H)
  (try rw [hji6] at A2)
  have hji6w : (IntKind.i64.wrap (t101 + 1)) = ji6 := (i64_w _).trans hji6
  by_cases c7 : 0 ≤ (ji6)
  rotate_left
  · rw [if_neg c7] at H
    exact absurd H (by simp)
  rw [if_pos c7] at H
  have c7b0 := eq_true c7
  have c7b1 : decide (0 ≤ (ji6)) = true := decide_eq_true c7
  clear c7
  by_cases c8 : (ji6) ≤ (l0.length : Int)
  rotate_left
  · rw [if_neg c8] at H
    exact absurd H (by simp)
  rw [if_pos c8] at H
  have c8b0 := eq_true c8
  have c8b1 : decide ((ji6) ≤ (l0.length : Int)) = true := decide_eq_true c8
  clear c8
  obtain ⟨y107, hy107⟩ : ∃ y_ : List Int, y_ = (l0.drop ((ji6) : Int).toNat) := ⟨_, rfl⟩
  replace H : (some (y102, y107, true)) = some (r1, r2, r3) := by first | (rw [hy107]; with_reducible exact H) | (have H2_ := (Option.bind_some _ _).symm.trans H; rw [hy107]; with_reducible exact H2_) | (have H2_ := (Option.bind_some _ _).symm.trans H; with_reducible exact H2_) | with_reducible exact H | (rw [hy107]; exact H) | exact H
  have Ny107 := Aside0.mk hy107
  clear hy107
  as_aux_lemma =>
    simp only [Option.some.injEq, Prod.mk.injEq] at H
    obtain ⟨rfl, rfl, rfl⟩ := H
    go_enter Tryz.func102, Tryz.ntmps102
    go_wp2_with (first | (go_at_call 129; (with_reducible refine (bytes_IndexByte.calls _ _ l0 0 t101 _ ?side1 ?side2 A2.out).mono ?_); (case side1 => repeat (first | exact (Kd.V_reads' HO0.out).2.2 | (with_reducible refine Kd.C_alloc ?_ _) | (with_reducible refine Kd.C_drewN ?_ _) | (with_reducible refine Kd.C_drew ?_))); (case side2 => exact (Kd.V_reads' HO0.out).2.1); rintro e w' ⟨rfl, ⟨nd, rfl⟩⟩; (try first | exact ⟨rfl, _, World.drewN_drewN _ _ _⟩ | exact ⟨rfl, _, Eq.trans (World.drewN_drewN _ _ _) (congrArg (World.drewN _) (Nat.add_assoc _ _ _))⟩); have q9 : (t101 : Int) ≤ ((l0.length : Int) : Int) := of_decide_eq_true (by first | (with_reducible assumption) | assumption); obtain ⟨i09, hi09, _, hsz9, _⟩ := info_parts info5; have hroom9 : l0.length ≤ c0 := (Kd.V_reads' HO0.out).2.1; have hC9 : Kd.F (Kd.int .u8) _ _ A0 l0.length l0 := (Kd.V_at (base := w.heap.size) HO0.out).2.2; have hcut9 := cut_to (P := Tryz.prog) 22 5 .i64 Tryz.underlying22 hi09 A0 l0.length c0 t101 (of_decide_eq_true (by first | (with_reducible assumption) | assumption)) q9 hroom9; have hr9 := Kd.F_take (m := (t101 : Int).toNat) hC9 (by omega); have hy9 : y102.length = (t101 : Int).toNat := (by rw [Ny102.out, List.length_take]; omega); rw [← Ny102.out] at hr9; rw [← hy9] at hcut9; have HO106 := Aside0.mk (show Kd.V (Kd.int .u8) 5 _ w.heap.size _ (.slice A0 y102.length c0) y102 from Kd.V_mk (by omega) hr9); have HC106 := Aside0.mk (show y102.length ≤ c0 from by omega); clear hr9 hC9 hroom9 hi09 hsz9; have KY9 := Aside0.mk hy9; clear hy9; replace q9 := eq_true q9; have q10 : ((ji6) : Int) ≤ ((l0.length : Int) : Int) := of_decide_eq_true (by first | (with_reducible assumption) | assumption); obtain ⟨i010, hi010, _, hsz10, _⟩ := info_parts info5; have hroom10 : l0.length ≤ c0 := (Kd.V_reads' HO0.out).2.1; have hC10 : Kd.F (Kd.int .u8) _ _ A0 l0.length l0 := (Kd.V_at (base := w.heap.size) HO0.out).2.2; have q010 : (0 : Int) ≤ ((ji6) : Int) := of_decide_eq_true (by first | (with_reducible assumption) | assumption); have hcut10 := cut_from (P := Tryz.prog) 22 5 .i64 Tryz.underlying22 hi010 1 hsz10 A0 l0.length c0 (ji6) q010 q10; have hr10 := Kd.F_cut (m := ((ji6) : Int).toNat) (c := c0) hC10 (by omega) hroom10; obtain ⟨A10, hA10⟩ : ∃ A1, A1 = (if c0 = ((ji6) : Int).toNat then A0 else (A0 : Option Addr).map (·.add (((ji6) : Int).toNat * 1))) := ⟨_, rfl⟩; obtain ⟨c10, hc10⟩ : ∃ c1, c1 = c0 - ((ji6) : Int).toNat := ⟨_, rfl⟩; have hy10 : y107.length = l0.length - ((ji6) : Int).toNat := (by rw [Ny107.out, List.length_drop] <;> omega); rw [show (l0).drop ((ji6) : Int).toNat = y107 from Ny107.out.symm] at hr10; replace hr10 : Kd.F (Kd.int .u8) _ _ A10 y107.length y107 := (by rw [hA10]; exact hr10); rw [← hy10, ← hA10, ← hc10] at hcut10; have HO111 := Aside0.mk (show Kd.V (Kd.int .u8) 5 _ w.heap.size _ (.slice A10 y107.length c10) y107 from Kd.V_mk (by rw [hy10, hc10]; exact Nat.sub_le_sub_right hroom10 _) hr10); have HC111 := Aside0.mk (show y107.length ≤ c10 from by rw [hy10, hc10]; exact Nat.sub_le_sub_right hroom10 _); clear hr10 hC10 hroom10 hi010 hsz10 hc10; have KY10 := Aside0.mk hy10; have KA10 := Aside0.mk hA10; clear hy10 hA10; replace q10 := eq_true q10))
    repeat (go_quiet (first | (go_at_call 129; (with_reducible refine (bytes_IndexByte.calls _ _ l0 0 t101 _ ?side1 ?side2 A2.out).mono ?_); (case side1 => repeat (first | exact (Kd.V_reads' HO0.out).2.2 | (with_reducible refine Kd.C_alloc ?_ _) | (with_reducible refine Kd.C_drewN ?_ _) | (with_reducible refine Kd.C_drew ?_))); (case side2 => exact (Kd.V_reads' HO0.out).2.1); rintro e w' ⟨rfl, ⟨nd, rfl⟩⟩; (try first | exact ⟨rfl, _, World.drewN_drewN _ _ _⟩ | exact ⟨rfl, _, Eq.trans (World.drewN_drewN _ _ _) (congrArg (World.drewN _) (Nat.add_assoc _ _ _))⟩); have q9 : (t101 : Int) ≤ ((l0.length : Int) : Int) := of_decide_eq_true (by first | (with_reducible assumption) | assumption); obtain ⟨i09, hi09, _, hsz9, _⟩ := info_parts info5; have hroom9 : l0.length ≤ c0 := (Kd.V_reads' HO0.out).2.1; have hC9 : Kd.F (Kd.int .u8) _ _ A0 l0.length l0 := (Kd.V_at (base := w.heap.size) HO0.out).2.2; have hcut9 := cut_to (P := Tryz.prog) 22 5 .i64 Tryz.underlying22 hi09 A0 l0.length c0 t101 (of_decide_eq_true (by first | (with_reducible assumption) | assumption)) q9 hroom9; have hr9 := Kd.F_take (m := (t101 : Int).toNat) hC9 (by omega); have hy9 : y102.length = (t101 : Int).toNat := (by rw [Ny102.out, List.length_take]; omega); rw [← Ny102.out] at hr9; rw [← hy9] at hcut9; have HO106 := Aside0.mk (show Kd.V (Kd.int .u8) 5 _ w.heap.size _ (.slice A0 y102.length c0) y102 from Kd.V_mk (by omega) hr9); have HC106 := Aside0.mk (show y102.length ≤ c0 from by omega); clear hr9 hC9 hroom9 hi09 hsz9; have KY9 := Aside0.mk hy9; clear hy9; replace q9 := eq_true q9; have q10 : ((ji6) : Int) ≤ ((l0.length : Int) : Int) := of_decide_eq_true (by first | (with_reducible assumption) | assumption); obtain ⟨i010, hi010, _, hsz10, _⟩ := info_parts info5; have hroom10 : l0.length ≤ c0 := (Kd.V_reads' HO0.out).2.1; have hC10 : Kd.F (Kd.int .u8) _ _ A0 l0.length l0 := (Kd.V_at (base := w.heap.size) HO0.out).2.2; have q010 : (0 : Int) ≤ ((ji6) : Int) := of_decide_eq_true (by first | (with_reducible assumption) | assumption); have hcut10 := cut_from (P := Tryz.prog) 22 5 .i64 Tryz.underlying22 hi010 1 hsz10 A0 l0.length c0 (ji6) q010 q10; have hr10 := Kd.F_cut (m := ((ji6) : Int).toNat) (c := c0) hC10 (by omega) hroom10; obtain ⟨A10, hA10⟩ : ∃ A1, A1 = (if c0 = ((ji6) : Int).toNat then A0 else (A0 : Option Addr).map (·.add (((ji6) : Int).toNat * 1))) := ⟨_, rfl⟩; obtain ⟨c10, hc10⟩ : ∃ c1, c1 = c0 - ((ji6) : Int).toNat := ⟨_, rfl⟩; have hy10 : y107.length = l0.length - ((ji6) : Int).toNat := (by rw [Ny107.out, List.length_drop] <;> omega); rw [show (l0).drop ((ji6) : Int).toNat = y107 from Ny107.out.symm] at hr10; replace hr10 : Kd.F (Kd.int .u8) _ _ A10 y107.length y107 := (by rw [hA10]; exact hr10); rw [← hy10, ← hA10, ← hc10] at hcut10; have HO111 := Aside0.mk (show Kd.V (Kd.int .u8) 5 _ w.heap.size _ (.slice A10 y107.length c10) y107 from Kd.V_mk (by rw [hy10, hc10]; exact Nat.sub_le_sub_right hroom10 _) hr10); have HC111 := Aside0.mk (show y107.length ≤ c10 from by rw [hy10, hc10]; exact Nat.sub_le_sub_right hroom10 _); clear hr10 hC10 hroom10 hi010 hsz10 hc10; have KY10 := Aside0.mk hy10; have KA10 := Aside0.mk hA10; clear hy10 hA10; replace q10 := eq_true q10)); try go_wp2_with (first | (go_at_call 129; (with_reducible refine (bytes_IndexByte.calls _ _ l0 0 t101 _ ?side1 ?side2 A2.out).mono ?_); (case side1 => repeat (first | exact (Kd.V_reads' HO0.out).2.2 | (with_reducible refine Kd.C_alloc ?_ _) | (with_reducible refine Kd.C_drewN ?_ _) | (with_reducible refine Kd.C_drew ?_))); (case side2 => exact (Kd.V_reads' HO0.out).2.1); rintro e w' ⟨rfl, ⟨nd, rfl⟩⟩; (try first | exact ⟨rfl, _, World.drewN_drewN _ _ _⟩ | exact ⟨rfl, _, Eq.trans (World.drewN_drewN _ _ _) (congrArg (World.drewN _) (Nat.add_assoc _ _ _))⟩); have q9 : (t101 : Int) ≤ ((l0.length : Int) : Int) := of_decide_eq_true (by first | (with_reducible assumption) | assumption); obtain ⟨i09, hi09, _, hsz9, _⟩ := info_parts info5; have hroom9 : l0.length ≤ c0 := (Kd.V_reads' HO0.out).2.1; have hC9 : Kd.F (Kd.int .u8) _ _ A0 l0.length l0 := (Kd.V_at (base := w.heap.size) HO0.out).2.2; have hcut9 := cut_to (P := Tryz.prog) 22 5 .i64 Tryz.underlying22 hi09 A0 l0.length c0 t101 (of_decide_eq_true (by first | (with_reducible assumption) | assumption)) q9 hroom9; have hr9 := Kd.F_take (m := (t101 : Int).toNat) hC9 (by omega); have hy9 : y102.length = (t101 : Int).toNat := (by rw [Ny102.out, List.length_take]; omega); rw [← Ny102.out] at hr9; rw [← hy9] at hcut9; have HO106 := Aside0.mk (show Kd.V (Kd.int .u8) 5 _ w.heap.size _ (.slice A0 y102.length c0) y102 from Kd.V_mk (by omega) hr9); have HC106 := Aside0.mk (show y102.length ≤ c0 from by omega); clear hr9 hC9 hroom9 hi09 hsz9; have KY9 := Aside0.mk hy9; clear hy9; replace q9 := eq_true q9; have q10 : ((ji6) : Int) ≤ ((l0.length : Int) : Int) := of_decide_eq_true (by first | (with_reducible assumption) | assumption); obtain ⟨i010, hi010, _, hsz10, _⟩ := info_parts info5; have hroom10 : l0.length ≤ c0 := (Kd.V_reads' HO0.out).2.1; have hC10 : Kd.F (Kd.int .u8) _ _ A0 l0.length l0 := (Kd.V_at (base := w.heap.size) HO0.out).2.2; have q010 : (0 : Int) ≤ ((ji6) : Int) := of_decide_eq_true (by first | (with_reducible assumption) | assumption); have hcut10 := cut_from (P := Tryz.prog) 22 5 .i64 Tryz.underlying22 hi010 1 hsz10 A0 l0.length c0 (ji6) q010 q10; have hr10 := Kd.F_cut (m := ((ji6) : Int).toNat) (c := c0) hC10 (by omega) hroom10; obtain ⟨A10, hA10⟩ : ∃ A1, A1 = (if c0 = ((ji6) : Int).toNat then A0 else (A0 : Option Addr).map (·.add (((ji6) : Int).toNat * 1))) := ⟨_, rfl⟩; obtain ⟨c10, hc10⟩ : ∃ c1, c1 = c0 - ((ji6) : Int).toNat := ⟨_, rfl⟩; have hy10 : y107.length = l0.length - ((ji6) : Int).toNat := (by rw [Ny107.out, List.length_drop] <;> omega); rw [show (l0).drop ((ji6) : Int).toNat = y107 from Ny107.out.symm] at hr10; replace hr10 : Kd.F (Kd.int .u8) _ _ A10 y107.length y107 := (by rw [hA10]; exact hr10); rw [← hy10, ← hA10, ← hc10] at hcut10; have HO111 := Aside0.mk (show Kd.V (Kd.int .u8) 5 _ w.heap.size _ (.slice A10 y107.length c10) y107 from Kd.V_mk (by rw [hy10, hc10]; exact Nat.sub_le_sub_right hroom10 _) hr10); have HC111 := Aside0.mk (show y107.length ≤ c10 from by rw [hy10, hc10]; exact Nat.sub_le_sub_right hroom10 _); clear hr10 hC10 hroom10 hi010 hsz10 hc10; have KY10 := Aside0.mk hy10; have KA10 := Aside0.mk hA10; clear hy10 hA10; replace q10 := eq_true q10)))
    go_ret3
    exact ⟨_, _, by first | rfl | (simp [errW_none, errW_some] <;> rfl) | (simp only [← hji6]; first | rfl | (simp [errW_none, errW_some] <;> rfl)) | (simp [*, errW_none, errW_some] <;> rfl), HW.zV HO106.out, HW.zV HO111.out, HW.zb⟩

/-! ### binaryutil_ReadCString: function 55 -/
def binaryutil_ReadCString.f (l0 : List Int) : Option (ByteArray × List Int × Bool) := (binaryutil_ReadCStringBytes.f l0).bind fun bt112 => (if bt112.2.2 = true then (some (strOfNums bt112.1, bt112.2.1, true)) else (some ((⟨#[]⟩ : ByteArray), l0, false)))
set_option maxHeartbeats 8000000 in
set_option maxRecDepth 100000 in
theorem binaryutil_ReadCString.calls (P0_ : Nat → Prop) (A0 : Option Addr) (c0 : Nat) (l0 : List Int) (r1 : ByteArray) (r2 : List Int) (r3 : Bool) (w : World) (hs0 : Kd.V (Kd.int .u8) 5 w w.heap.size (fun k_ => P0_ k_) (.slice A0 l0.length c0) l0) (h : binaryutil_ReadCString.f l0 = some (r1, r2, r3)) :
    Calls Tryz.prog 55 #[.slice A0 l0.length c0] w fun e w' => ∃ v1_ : Value, e = .returned (.tuple #[.string r1, v1_, .bool r3]) ∧ Kd.V (Kd.int .u8) 5 w' w.heap.size (fun k_ => (P0_ k_ ∨ w.heap.size ≤ k_)) v1_ r2 ∧ Below w.heap.size w w' := by
  have HO0 := Aside0.mk (show Kd.V (Kd.int .u8) 5 w w.heap.size (fun k_ => (P0_ k_ ∨ w.heap.size ≤ k_)) (.slice A0 l0.length c0) l0 from Kd.V_mono hs0 (fun k_ hk => .inl hk))
  have HB := Aside0.mk (Below.refl w.heap.size w)
  have H : ((binaryutil_ReadCStringBytes.f l0).bind fun bt112 => (if bt112.2.2 = true then (some (strOfNums bt112.1, bt112.2.1, true)) else (some ((⟨#[]⟩ : ByteArray), l0, false)))) = some (r1, r2, r3) := h
  clear h
  replace H := Option.bind_eq_some_iff.mp H
  obtain ⟨⟨t112, t115, t118⟩, A20, H⟩ := H
  replace H : (if t118 = true then (some (strOfNums t112, t115, true)) else (some ((⟨#[]⟩ : ByteArray), l0, false))) = some (r1, r2, r3) := H
  have A2 := Aside0.mk A20
  clear A20
  by_cases c3 : t118 = true
  · subst c3
    have H1 : (some (strOfNums t112, t115, true)) = some (r1, r2, r3) := by rw [if_pos rfl] at H; exact H
    clear H
    have H := H1
    clear H1
    as_aux_lemma =>
      simp only [Option.some.injEq, Prod.mk.injEq] at H
      obtain ⟨rfl, rfl, rfl⟩ := H
      go_enter Tryz.func55, Tryz.ntmps55
      go_wp2_with (first | ((with_reducible refine gate_callee (f := 102) rfl ?_); refine HW.gz (some 10) rfl rfl Tryz.func102 (by kernel_rfl) rfl #[.slice A0 l0.length c0] rfl ?_; (with_reducible refine (binaryutil_ReadCStringBytes.calls (fun k_ => (P0_ k_ ∨ w.heap.size ≤ k_)) _ _ l0 t112 t115 true _ ?side1 A2.out).mono ?_); (case side1 => exact HO0.out); rintro e w4 ⟨v113, v116, rfl, ho0, ho1, hb⟩; refine ⟨_, rfl, ?_⟩; have n0_ := Aside0.mk (Kd.V_below (HW.zV HO0.out) hb); have n1_ := Aside0.mk (Kd.V_lower (Kd.V_mono (ok' := fun k_ => (P0_ k_ ∨ w.heap.size ≤ k_)) ho0 (fun k_ hk_ => Or.elim hk_ (fun hs_ => hs_) (fun hn_ => (.inr (Nat.le_trans (below_size HW.zb) hn_))))) (below_size HW.zb)); have n2_ := Aside0.mk (Kd.V_lower (Kd.V_mono (ok' := fun k_ => (P0_ k_ ∨ w.heap.size ≤ k_)) ho1 (fun k_ hk_ => Or.elim hk_ (fun hs_ => hs_) (fun hn_ => (.inr (Nat.le_trans (below_size HW.zb) hn_))))) (below_size HW.zb)); have n3_ := Aside0.mk (below_step HW.zb hb); clear HO0; clear HB; have HO0 := n0_; have HO114 := n1_; have HO117 := n2_; have HB := n3_; clear n0_ n1_ n2_ n3_; (try clear hb); (try clear hb2); (try clear hk); (try clear hi); (try clear ho0); (try clear ho1); have hcv5 := HW.V_string (P := Tryz.prog) Tryz.underlying22 Tryz.underlying5 Tryz.underlying9 (HO114.out)))
      go_ret3
      exact ⟨_, by first | rfl | (simp [errW_none, errW_some] <;> rfl) | (simp [*, errW_none, errW_some] <;> rfl), HW.zV HO117.out, HW.zb⟩
  replace c3 := Bool.eq_false_iff.mpr c3
  subst c3
  have H1 : (some ((⟨#[]⟩ : ByteArray), l0, false)) = some (r1, r2, r3) := by rw [if_neg (show ¬ (false = true) by decide)] at H; exact H
  clear H
  have H := H1
  clear H1
  as_aux_lemma =>
    simp only [Option.some.injEq, Prod.mk.injEq] at H
    obtain ⟨rfl, rfl, rfl⟩ := H
    go_enter Tryz.func55, Tryz.ntmps55
    go_wp2_with (first | ((with_reducible refine gate_callee (f := 102) rfl ?_); refine HW.gz (some 10) rfl rfl Tryz.func102 (by kernel_rfl) rfl #[.slice A0 l0.length c0] rfl ?_; (with_reducible refine (binaryutil_ReadCStringBytes.calls (fun k_ => (P0_ k_ ∨ w.heap.size ≤ k_)) _ _ l0 t112 t115 false _ ?side1 A2.out).mono ?_); (case side1 => exact HO0.out); rintro e w6 ⟨v113, v116, rfl, ho0, ho1, hb⟩; refine ⟨_, rfl, ?_⟩; have n0_ := Aside0.mk (Kd.V_below (HW.zV HO0.out) hb); have n3_ := Aside0.mk (below_step HW.zb hb); clear HO0; clear HB; have HO0 := n0_; have HB := n3_; clear n0_ n3_; (try clear hb); (try clear hb2); (try clear hk); (try clear hi); (try clear ho0); (try clear ho1)))
    go_ret3
    exact ⟨_, by first | rfl | (simp [errW_none, errW_some] <;> rfl) | (simp [*, errW_none, errW_some] <;> rfl), HW.zV HO0.out, HW.zb⟩

/-! ### bsoncore_ReadKey: function 54 -/
def bsoncore_ReadKey.f (l0 : List Int) : Option (ByteArray × List Int × Bool) := (binaryutil_ReadCString.f l0).bind fun bt119 => (some (bt119.1, bt119.2.1, bt119.2.2))
set_option maxHeartbeats 8000000 in
set_option maxRecDepth 100000 in
theorem bsoncore_ReadKey.calls (P0_ : Nat → Prop) (A0 : Option Addr) (c0 : Nat) (l0 : List Int) (r1 : ByteArray) (r2 : List Int) (r3 : Bool) (w : World) (hs0 : Kd.V (Kd.int .u8) 5 w w.heap.size (fun k_ => P0_ k_) (.slice A0 l0.length c0) l0) (h : bsoncore_ReadKey.f l0 = some (r1, r2, r3)) :
    Calls Tryz.prog 54 #[.slice A0 l0.length c0] w fun e w' => ∃ v1_ : Value, e = .returned (.tuple #[.string r1, v1_, .bool r3]) ∧ Kd.V (Kd.int .u8) 5 w' w.heap.size (fun k_ => (P0_ k_ ∨ w.heap.size ≤ k_)) v1_ r2 ∧ Below w.heap.size w w' := by
  have HO0 := Aside0.mk (show Kd.V (Kd.int .u8) 5 w w.heap.size (fun k_ => (P0_ k_ ∨ w.heap.size ≤ k_)) (.slice A0 l0.length c0) l0 from Kd.V_mono hs0 (fun k_ hk => .inl hk))
  have HB := Aside0.mk (Below.refl w.heap.size w)
  have H : ((binaryutil_ReadCString.f l0).bind fun bt119 => (some (bt119.1, bt119.2.1, bt119.2.2))) = some (r1, r2, r3) := h
  clear h
  replace H := Option.bind_eq_some_iff.mp H
  obtain ⟨⟨t119, t120, t123⟩, A20, H⟩ := H
  replace H : (some (t119, t120, t123)) = some (r1, r2, r3) := H
  have A2 := Aside0.mk A20
  clear A20
  as_aux_lemma =>
    simp only [Option.some.injEq, Prod.mk.injEq] at H
    obtain ⟨rfl, rfl, rfl⟩ := H
    go_enter Tryz.func54, Tryz.ntmps54
    go_wp2_with (first | ((with_reducible refine gate_callee (f := 55) rfl ?_); refine HW.gz (some 6) rfl rfl Tryz.func55 (by kernel_rfl) rfl #[.slice A0 l0.length c0] rfl ?_; (with_reducible refine (binaryutil_ReadCString.calls (fun k_ => (P0_ k_ ∨ w.heap.size ≤ k_)) _ _ l0 t119 t120 t123 _ ?side1 A2.out).mono ?_); (case side1 => exact HO0.out); rintro e w3 ⟨v121, rfl, ho0, hb⟩; refine ⟨_, rfl, ?_⟩; have n1_ := Aside0.mk (Kd.V_lower (Kd.V_mono (ok' := fun k_ => (P0_ k_ ∨ w.heap.size ≤ k_)) ho0 (fun k_ hk_ => Or.elim hk_ (fun hs_ => hs_) (fun hn_ => (.inr (Nat.le_trans (below_size HW.zb) hn_))))) (below_size HW.zb)); have n2_ := Aside0.mk (below_step HW.zb hb); clear HB; have HO122 := n1_; have HB := n2_; clear n1_ n2_; (try clear hb); (try clear hb2); (try clear hk); (try clear hi); (try clear ho0)))
    go_ret3
    exact ⟨_, by first | rfl | (simp [errW_none, errW_some] <;> rfl) | (simp [*, errW_none, errW_some] <;> rfl), HW.zV HO122.out, HW.zb⟩

/-! ### bsoncore_ReadType: function 101 -/
def bsoncore_ReadType.f (l0 : List Int) : Option (Int × List Int × Bool) := if (l0.length : Int) < 1 then (some (0, l0, false)) else (if 0 < (l0.length : Int) then (if 1 ≤ (l0.length : Int) then (some (rd l0 0, (l0.drop 1), true)) else (none)) else (none))
set_option maxHeartbeats 8000000 in
set_option maxRecDepth 100000 in
theorem bsoncore_ReadType.calls (P0_ : Nat → Prop) (A0 : Option Addr) (c0 : Nat) (l0 : List Int) (r1 : Int) (r2 : List Int) (r3 : Bool) (w : World) (hs0 : Kd.V (Kd.int .u8) 5 w w.heap.size (fun k_ => P0_ k_) (.slice A0 l0.length c0) l0) (h : bsoncore_ReadType.f l0 = some (r1, r2, r3)) :
    Calls Tryz.prog 101 #[.slice A0 l0.length c0] w fun e w' => ∃ v1_ : Value, e = .returned (.tuple #[.int .u8 r1, v1_, .bool r3]) ∧ Kd.V (Kd.int .u8) 5 w' w.heap.size (fun k_ => (P0_ k_ ∨ w.heap.size ≤ k_)) v1_ r2 ∧ Below w.heap.size w w' := by
  have HO0 := Aside0.mk (show Kd.V (Kd.int .u8) 5 w w.heap.size (fun k_ => (P0_ k_ ∨ w.heap.size ≤ k_)) (.slice A0 l0.length c0) l0 from Kd.V_mono hs0 (fun k_ hk => .inl hk))
  have HB := Aside0.mk (Below.refl w.heap.size w)
  have H : (if (l0.length : Int) < 1 then (some (0, l0, false)) else (if 0 < (l0.length : Int) then (if 1 ≤ (l0.length : Int) then (some (rd l0 0, (l0.drop 1), true)) else (none)) else (none))) = some (r1, r2, r3) := h
  clear h
  by_cases c2 : (l0.length : Int) < 1
  · rw [if_pos c2] at H
    have c2b0 : decide ((l0.length : Int) < 1) = true := decide_eq_true c2
    have c2b1 : decide (l0.length < 1) = true := decide_eq_true (by omega)
    clear c2
    as_aux_lemma =>
      simp only [Option.some.injEq, Prod.mk.injEq] at H
      obtain ⟨rfl, rfl, rfl⟩ := H
      go_enter Tryz.func101, Tryz.ntmps101
      go_wp2
      repeat (go_quiet (fail); try go_wp2)
      go_ret3
      exact ⟨_, by first | rfl | (simp [errW_none, errW_some] <;> rfl) | (simp [*, errW_none, errW_some] <;> rfl), HW.zV HO0.out, HW.zb⟩
  rw [if_neg c2] at H
  have c2b0 : decide ((l0.length : Int) < 1) = false := decide_eq_false c2
  have c2b1 : decide (l0.length < 1) = false := decide_eq_false (by omega)
  clear c2
  by_cases c3 : 0 < (l0.length : Int)
  rotate_left
  · rw [if_neg c3] at H
    exact absurd H (by simp)
  rw [if_pos c3] at H
  have c3b0 : decide (0 < (l0.length : Int)) = true := decide_eq_true c3
  have c3b1 : decide (0 < l0.length) = true := decide_eq_true (by omega)
  clear c3
  by_cases c4 : 1 ≤ (l0.length : Int)
  rotate_left
  · rw [if_neg c4] at H
    exact absurd H (by simp)
  rw [if_pos c4] at H
  have c4b0 := eq_true c4
  have c4b1 : decide (1 ≤ (l0.length : Int)) = true := decide_eq_true c4
  clear c4
  obtain ⟨y125, hy125⟩ : ∃ y_ : List Int, y_ = (l0.drop 1) := ⟨_, rfl⟩
  replace H : (some (rd l0 0, y125, true)) = some (r1, r2, r3) := by first | (rw [hy125]; with_reducible exact H) | (have H2_ := (Option.bind_some _ _).symm.trans H; rw [hy125]; with_reducible exact H2_) | (have H2_ := (Option.bind_some _ _).symm.trans H; with_reducible exact H2_) | with_reducible exact H | (rw [hy125]; exact H) | exact H
  have Ny125 := Aside0.mk hy125
  clear hy125
  as_aux_lemma =>
    simp only [Option.some.injEq, Prod.mk.injEq] at H
    obtain ⟨rfl, rfl, rfl⟩ := H
    have p124 : 0 ≤ (0 : Int) := (by omega)
    have q124 : 0 < (l0.length : Int) := of_decide_eq_true (by first | (with_reducible assumption) | assumption)
    obtain ⟨ad124, e124, hx124_0⟩ := Kd.at_int (Kd.V_reads' HO0.out).2.2 0 p124 q124
    cases e124
    have qi124 : (0 < l0.length) = True := eq_true (by omega)
    (try rw [show ((0 : Int)).toNat = 0 from rfl] at hx124_0)
    (try rw [Addr.add_zero'] at hx124_0)
    replace p124 := eq_true p124
    replace q124 := eq_true q124
    have q5 : (1 : Int) ≤ ((l0.length : Int) : Int) := of_decide_eq_true (by first | (with_reducible assumption) | assumption)
    obtain ⟨i05, hi05, _, hsz5, _⟩ := info_parts info5
    have hroom5 : l0.length ≤ c0 := (Kd.V_reads' HO0.out).2.1
    have hC5 : Kd.F (Kd.int .u8) _ _ (some ad124) l0.length l0 := (Kd.V_at (base := w.heap.size) HO0.out).2.2
    have hcut5 := cut_from (P := Tryz.prog) 22 5 .i64 Tryz.underlying22 hi05 1 hsz5 (some ad124) l0.length c0 1 (by omega) q5
    have hr5 := Kd.F_cut (m := (1 : Int).toNat) (c := c0) hC5 (by omega) hroom5
    obtain ⟨A5, hA5⟩ : ∃ A1, A1 = (if c0 = (1 : Int).toNat then (some ad124) else ((some ad124) : Option Addr).map (·.add ((1 : Int).toNat * 1))) := ⟨_, rfl⟩
    obtain ⟨c5, hc5⟩ : ∃ c1, c1 = c0 - (1 : Int).toNat := ⟨_, rfl⟩
    have hy5 : y125.length = l0.length - (1 : Int).toNat := (by rw [Ny125.out, List.length_drop] <;> omega)
    rw [show (l0).drop (1 : Int).toNat = y125 from Ny125.out.symm] at hr5
    replace hr5 : Kd.F (Kd.int .u8) _ _ A5 y125.length y125 := (by rw [hA5]; exact hr5)
    rw [← hy5, ← hA5, ← hc5] at hcut5
    have HO129 := Aside0.mk (show Kd.V (Kd.int .u8) 5 _ w.heap.size _ (.slice A5 y125.length c5) y125 from Kd.V_mk (by rw [hy5, hc5]; exact Nat.sub_le_sub_right hroom5 _) hr5)
    have HC129 := Aside0.mk (show y125.length ≤ c5 from by rw [hy5, hc5]; exact Nat.sub_le_sub_right hroom5 _)
    clear hr5 hC5 hroom5 hi05 hsz5 hc5
    have KY5 := Aside0.mk hy5
    have KA5 := Aside0.mk hA5
    clear hy5 hA5
    replace q5 := eq_true q5
    go_enter Tryz.func101, Tryz.ntmps101
    go_wp2
    repeat (go_quiet (fail); try go_wp2)
    go_ret3
    exact ⟨_, by first | rfl | (simp [errW_none, errW_some] <;> rfl) | (simp [*, errW_none, errW_some] <;> rfl), HW.zV HO129.out, HW.zb⟩

/-! ### bsoncore_ReadHeader: function 52 -/
def bsoncore_ReadHeader.f (l0 : List Int) : Option (Int × ByteArray × List Int × Bool) := (bsoncore_ReadType.f l0).bind fun bt130 => (if bt130.2.2 = true then ((bsoncore_ReadKey.f bt130.2.1).bind fun bt135 => (if bt135.2.2 = true then (some (bt130.1, bt135.1, bt135.2.1, true)) else (some (0, (⟨#[]⟩ : ByteArray), l0, false)))) else (some (0, (⟨#[]⟩ : ByteArray), l0, false)))
set_option maxHeartbeats 8000000 in
set_option maxRecDepth 100000 in
theorem bsoncore_ReadHeader.calls (P0_ : Nat → Prop) (A0 : Option Addr) (c0 : Nat) (l0 : List Int) (r1 : Int) (r2 : ByteArray) (r3 : List Int) (r4 : Bool) (w : World) (hs0 : Kd.V (Kd.int .u8) 5 w w.heap.size (fun k_ => P0_ k_) (.slice A0 l0.length c0) l0) (h : bsoncore_ReadHeader.f l0 = some (r1, r2, r3, r4)) :
    Calls Tryz.prog 52 #[.slice A0 l0.length c0] w fun e w' => ∃ v2_ : Value, e = .returned (.tuple #[.int .u8 r1, .string r2, v2_, .bool r4]) ∧ Kd.V (Kd.int .u8) 5 w' w.heap.size (fun k_ => (P0_ k_ ∨ w.heap.size ≤ k_)) v2_ r3 ∧ Below w.heap.size w w' := by
  have HO0 := Aside0.mk (show Kd.V (Kd.int .u8) 5 w w.heap.size (fun k_ => (P0_ k_ ∨ w.heap.size ≤ k_)) (.slice A0 l0.length c0) l0 from Kd.V_mono hs0 (fun k_ hk => .inl hk))
  have HB := Aside0.mk (Below.refl w.heap.size w)
  have H : ((bsoncore_ReadType.f l0).bind fun bt130 => (if bt130.2.2 = true then ((bsoncore_ReadKey.f bt130.2.1).bind fun bt135 => (if bt135.2.2 = true then (some (bt130.1, bt135.1, bt135.2.1, true)) else (some (0, (⟨#[]⟩ : ByteArray), l0, false)))) else (some (0, (⟨#[]⟩ : ByteArray), l0, false)))) = some (r1, r2, r3, r4) := h
  clear h
  replace H := Option.bind_eq_some_iff.mp H
  obtain ⟨⟨t130, t131, t134⟩, A20, H⟩ := H
  replace H : (if t134 = true then ((bsoncore_ReadKey.f t131).bind fun bt135 => (if bt135.2.2 = true then (some (t130, bt135.1, bt135.2.1, true)) else (some (0, (⟨#[]⟩ : ByteArray), l0, false)))) else (some (0, (⟨#[]⟩ : ByteArray), l0, false))) = some (r1, r2, r3, r4) := H
  have A2 := Aside0.mk A20
  clear A20
  by_cases c3 : t134 = true
  rotate_left
  · replace c3 := Bool.eq_false_iff.mpr c3
    subst c3
    have H1 : (some (0, (⟨#[]⟩ : ByteArray), l0, false)) = some (r1, r2, r3, r4) := by rw [if_neg (show ¬ (false = true) by decide)] at H; exact H
    clear H
    have H := H1
    clear H1
    as_aux_lemma =>
      simp only [Option.some.injEq, Prod.mk.injEq] at H
      obtain ⟨rfl, rfl, rfl, rfl⟩ := H
      go_enter Tryz.func52, Tryz.ntmps52
      go_wp2_with (first | ((with_reducible refine gate_callee (f := 101) rfl ?_); refine HW.gz (some 8) rfl rfl Tryz.func101 (by kernel_rfl) rfl #[.slice A0 l0.length c0] rfl ?_; (with_reducible refine (bsoncore_ReadType.calls (fun k_ => (P0_ k_ ∨ w.heap.size ≤ k_)) _ _ l0 t130 t131 false _ ?side1 A2.out).mono ?_); (case side1 => exact HO0.out); rintro e w12 ⟨v132, rfl, ho0, hb⟩; refine ⟨_, rfl, ?_⟩; have n0_ := Aside0.mk (Kd.V_below (HW.zV HO0.out) hb); have n1_ := Aside0.mk (Kd.V_lower (Kd.V_mono (ok' := fun k_ => (P0_ k_ ∨ w.heap.size ≤ k_)) ho0 (fun k_ hk_ => Or.elim hk_ (fun hs_ => hs_) (fun hn_ => (.inr (Nat.le_trans (below_size HW.zb) hn_))))) (below_size HW.zb)); have n2_ := Aside0.mk (below_step HW.zb hb); clear HO0; clear HB; have HO0 := n0_; have HO133 := n1_; have HB := n2_; clear n0_ n1_ n2_; (try clear hb); (try clear hb2); (try clear hk); (try clear hi); (try clear ho0)))
      refine bodyPost_ret (results_list (rs := [.tmp 2, .tmp 3, .tmp 4, .tmp 5]) rfl (by simp) (.tmp (.tmp (.tmp (.tmp .nil))))) rfl ?_
      exact ⟨_, by first | rfl | (simp [errW_none, errW_some] <;> rfl) | (simp [*, errW_none, errW_some] <;> rfl), HW.zV HO0.out, HW.zb⟩
  subst c3
  have H1 : ((bsoncore_ReadKey.f t131).bind fun bt135 => (if bt135.2.2 = true then (some (t130, bt135.1, bt135.2.1, true)) else (some (0, (⟨#[]⟩ : ByteArray), l0, false)))) = some (r1, r2, r3, r4) := by rw [if_pos rfl] at H; exact H
  clear H
  have H := H1
  clear H1
  replace H := Option.bind_eq_some_iff.mp H
  obtain ⟨⟨t135, t136, t139⟩, A40, H⟩ := H
  replace H : (if t139 = true then (some (t130, t135, t136, true)) else (some (0, (⟨#[]⟩ : ByteArray), l0, false))) = some (r1, r2, r3, r4) := H
  have A4 := Aside0.mk A40
  clear A40
  by_cases c5 : t139 = true
  · subst c5
    have H1 : (some (t130, t135, t136, true)) = some (r1, r2, r3, r4) := by rw [if_pos rfl] at H; exact H
    clear H
    have H := H1
    clear H1
    as_aux_lemma =>
      simp only [Option.some.injEq, Prod.mk.injEq] at H
      obtain ⟨rfl, rfl, rfl, rfl⟩ := H
      go_enter Tryz.func52, Tryz.ntmps52
      go_wp2_with (first | ((with_reducible refine gate_callee (f := 101) rfl ?_); refine HW.gz (some 8) rfl rfl Tryz.func101 (by kernel_rfl) rfl #[.slice A0 l0.length c0] rfl ?_; (with_reducible refine (bsoncore_ReadType.calls (fun k_ => (P0_ k_ ∨ w.heap.size ≤ k_)) _ _ l0 t130 t131 true _ ?side1 A2.out).mono ?_); (case side1 => exact HO0.out); rintro e w6 ⟨v132, rfl, ho0, hb⟩; refine ⟨_, rfl, ?_⟩; have n0_ := Aside0.mk (Kd.V_below (HW.zV HO0.out) hb); have n1_ := Aside0.mk (Kd.V_lower (Kd.V_mono (ok' := fun k_ => (P0_ k_ ∨ w.heap.size ≤ k_)) ho0 (fun k_ hk_ => Or.elim hk_ (fun hs_ => hs_) (fun hn_ => (.inr (Nat.le_trans (below_size HW.zb) hn_))))) (below_size HW.zb)); have n2_ := Aside0.mk (below_step HW.zb hb); clear HO0; clear HB; have HO0 := n0_; have HO133 := n1_; have HB := n2_; clear n0_ n1_ n2_; (try clear hb); (try clear hb2); (try clear hk); (try clear hi); (try clear ho0); obtain ⟨Ao7, co7, eo7⟩ := Kd.V_slice HO133.out; subst eo7) | ((with_reducible refine gate_callee (f := 54) rfl ?_); refine HW.gz (some 17) rfl rfl Tryz.func54 (by kernel_rfl) rfl #[.slice Ao7 t131.length co7] rfl ?_; (with_reducible refine (bsoncore_ReadKey.calls (fun k_ => (P0_ k_ ∨ w.heap.size ≤ k_)) _ _ t131 t135 t136 true _ ?side1 A4.out).mono ?_); (case side1 => exact HO133.out); rintro e w8 ⟨v137, rfl, ho0, hb⟩; refine ⟨_, rfl, ?_⟩; have n0_ := Aside0.mk (Kd.V_below (HW.zV HO0.out) hb); have n1_ := Aside0.mk (Kd.V_below (HW.zV HO133.out) hb); have n2_ := Aside0.mk (Kd.V_lower (Kd.V_mono (ok' := fun k_ => (P0_ k_ ∨ w.heap.size ≤ k_)) ho0 (fun k_ hk_ => Or.elim hk_ (fun hs_ => hs_) (fun hn_ => (.inr (Nat.le_trans (below_size HW.zb) hn_))))) (below_size HW.zb)); have n3_ := Aside0.mk (below_step HW.zb hb); clear HO0; clear HO133; clear HB; have HO0 := n0_; have HO133 := n1_; have HO138 := n2_; have HB := n3_; clear n0_ n1_ n2_ n3_; (try clear hb); (try clear hb2); (try clear hk); (try clear hi); (try clear ho0)))
      refine bodyPost_ret (results_list (rs := [.tmp 2, .tmp 3, .tmp 4, .tmp 5]) rfl (by simp) (.tmp (.tmp (.tmp (.tmp .nil))))) rfl ?_
      exact ⟨_, by first | rfl | (simp [errW_none, errW_some] <;> rfl) | (simp [*, errW_none, errW_some] <;> rfl), HW.zV HO138.out, HW.zb⟩
  replace c5 := Bool.eq_false_iff.mpr c5
  subst c5
  have H1 : (some (0, (⟨#[]⟩ : ByteArray), l0, false)) = some (r1, r2, r3, r4) := by rw [if_neg (show ¬ (false = true) by decide)] at H; exact H
  clear H
  have H := H1
  clear H1
  as_aux_lemma =>
    simp only [Option.some.injEq, Prod.mk.injEq] at H
    obtain ⟨rfl, rfl, rfl, rfl⟩ := H
    go_enter Tryz.func52, Tryz.ntmps52
    go_wp2_with (first | ((with_reducible refine gate_callee (f := 101) rfl ?_); refine HW.gz (some 8) rfl rfl Tryz.func101 (by kernel_rfl) rfl #[.slice A0 l0.length c0] rfl ?_; (with_reducible refine (bsoncore_ReadType.calls (fun k_ => (P0_ k_ ∨ w.heap.size ≤ k_)) _ _ l0 t130 t131 true _ ?side1 A2.out).mono ?_); (case side1 => exact HO0.out); rintro e w9 ⟨v132, rfl, ho0, hb⟩; refine ⟨_, rfl, ?_⟩; have n0_ := Aside0.mk (Kd.V_below (HW.zV HO0.out) hb); have n1_ := Aside0.mk (Kd.V_lower (Kd.V_mono (ok' := fun k_ => (P0_ k_ ∨ w.heap.size ≤ k_)) ho0 (fun k_ hk_ => Or.elim hk_ (fun hs_ => hs_) (fun hn_ => (.inr (Nat.le_trans (below_size HW.zb) hn_))))) (below_size HW.zb)); have n2_ := Aside0.mk (below_step HW.zb hb); clear HO0; clear HB; have HO0 := n0_; have HO133 := n1_; have HB := n2_; clear n0_ n1_ n2_; (try clear hb); (try clear hb2); (try clear hk); (try clear hi); (try clear ho0); obtain ⟨Ao10, co10, eo10⟩ := Kd.V_slice HO133.out; subst eo10) | ((with_reducible refine gate_callee (f := 54) rfl ?_); refine HW.gz (some 17) rfl rfl Tryz.func54 (by kernel_rfl) rfl #[.slice Ao10 t131.length co10] rfl ?_; (with_reducible refine (bsoncore_ReadKey.calls (fun k_ => (P0_ k_ ∨ w.heap.size ≤ k_)) _ _ t131 t135 t136 false _ ?side1 A4.out).mono ?_); (case side1 => exact HO133.out); rintro e w11 ⟨v137, rfl, ho0, hb⟩; refine ⟨_, rfl, ?_⟩; have n0_ := Aside0.mk (Kd.V_below (HW.zV HO0.out) hb); have n3_ := Aside0.mk (below_step HW.zb hb); clear HO0; clear HB; have HO0 := n0_; have HB := n3_; clear n0_ n3_; (try clear hb); (try clear hb2); (try clear hk); (try clear hi); (try clear ho0)))
    refine bodyPost_ret (results_list (rs := [.tmp 2, .tmp 3, .tmp 4, .tmp 5]) rfl (by simp) (.tmp (.tmp (.tmp (.tmp .nil))))) rfl ?_
    exact ⟨_, by first | rfl | (simp [errW_none, errW_some] <;> rfl) | (simp [*, errW_none, errW_some] <;> rfl), HW.zV HO0.out, HW.zb⟩

/-! ### impl_own: function 53 -/
def impl_own.f (l0 : List Int) : Option (List Int) := if ([] : List Int).length + l0.length < 140737488355328 then (some (([] : List Int) ++ l0)) else (none)
set_option maxHeartbeats 8000000 in
set_option maxRecDepth 100000 in
theorem impl_own.calls (A0 : Option Addr) (c0 : Nat) (l0 : List Int) (r : List Int) (w : World) (hr0 : Kd.C (Kd.int .u8) w A0 l0.length l0) (hc0 : l0.length ≤ c0) (h : impl_own.f l0 = some r) :
    Calls Tryz.prog 53 #[.slice A0 l0.length c0] w fun e w' => ∃ v0_ : Value, e = .returned (v0_) ∧ Kd.R (Kd.int .u8) 5 w' w.heap.size (fun _ => True) v0_ r ∧ Below w.heap.size w w' := by
  have HR0 := Aside0.mk hr0
  have HC0 := Aside0.mk hc0
  clear hr0 hc0
  have HB := Aside0.mk (Below.refl w.heap.size w)
  have H : (if ([] : List Int).length + l0.length < 140737488355328 then (some (([] : List Int) ++ l0)) else (none)) = some r := h
  clear h
  by_cases c2 : ([] : List Int).length + l0.length < 140737488355328
  rotate_left
  · rw [if_neg c2] at H
    exact absurd H (by simp)
  rw [if_pos c2] at H
  have LMc2 := Aside0.mk c2
  clear c2
  obtain ⟨y140, hy140⟩ : ∃ y_ : List Int, y_ = (([] : List Int) ++ l0) := ⟨_, rfl⟩
  replace H : (some y140) = some r := by first | (rw [hy140]; with_reducible exact H) | (have H2_ := (Option.bind_some _ _).symm.trans H; rw [hy140]; with_reducible exact H2_) | (have H2_ := (Option.bind_some _ _).symm.trans H; with_reducible exact H2_) | with_reducible exact H | (rw [hy140]; exact H) | exact H
  have Ny140 := Aside0.mk hy140
  clear hy140
  as_aux_lemma =>
    obtain rfl := Option.some.inj H
    go_enter Tryz.func53, Tryz.ntmps53
    go_wp2_with (first | ((with_reducible refine gate_builtin (b := .append) (xs := #[.const (.slice none 0 0), .tmp 3]) rfl ?_); at_builtin; refine Kd.R_append_rows (Kd.int .u8) (w0 := w) w.heap.size rfl (.const (.slice none 0 0)) (.tmp 3) 22 5 (.int .u8 0) 1 rfl Tryz.underlying22 info5 rfl (by decide) (by omega) (.slice none 0 0) ([] : List Int) l0 _ _ _ (fun _ => True) (fun _ => False) rfl rfl ?aO ?aR (fun _ _ h => h) (fun _ h => h.elim) ?aF ?aB ?aS ?aL ?_; (case aR => repeat (first | exact HR0.out | (with_reducible refine Kd.C_alloc ?_ _) | (with_reducible refine Kd.C_drewN ?_ _) | (with_reducible refine Kd.C_drew ?_))); (case aB => exact HW.zb); (case aF => exact (fun _ _ => trivial)); (case aO => exact ((Kd.R_nil _ _ _ _ (fun _ => True)))); (case aS => exact (below_size HW.zb)); (case aL => have := LMc2.out; omega); intro v141 w3 ho hb hg hat; rw [← Ny140.out] at ho; have n0_ := Aside0.mk (hb); have n1_ := Aside0.mk (ho); clear HB; have HB := n0_; have HO142 := n1_; clear n0_ n1_; clear ho hb hg hat))
    go_ret
    exact ⟨_, by first | rfl | (simp [errW_none, errW_some] <;> rfl) | (simp [*, errW_none, errW_some] <;> rfl), HW.zR HO142.out, HW.zb⟩

/-! ### impl_ReadHeader: function 10 -/
def impl_ReadHeader.f (l0 : List Int) : Option (Int × ByteArray × List Int × Bool) := (bsoncore_ReadHeader.f l0).bind fun bt143 => ((impl_own.f bt143.2.2.1).bind fun t149 => (some (wrap64 (bt143.1), bt143.2.1, t149, bt143.2.2.2)))
set_option maxHeartbeats 8000000 in
set_option maxRecDepth 100000 in
theorem impl_ReadHeader.calls (A0 : Option Addr) (c0 : Nat) (l0 : List Int) (r1 : Int) (r2 : ByteArray) (r3 : List Int) (r4 : Bool) (w : World) (hr0 : Kd.C (Kd.int .u8) w A0 l0.length l0) (hc0 : l0.length ≤ c0) (h : impl_ReadHeader.f l0 = some (r1, r2, r3, r4)) :
    Calls Tryz.prog 10 #[.slice A0 l0.length c0] w fun e w' => ∃ v2_ : Value, e = .returned (.tuple #[.int .i64 r1, .string r2, v2_, .bool r4]) ∧ Kd.R (Kd.int .u8) 5 w' w.heap.size (fun _ => True) v2_ r3 ∧ Below w.heap.size w w' := by
  have HR0 := Aside0.mk hr0
  have HC0 := Aside0.mk hc0
  clear hr0 hc0
  have HB := Aside0.mk (Below.refl w.heap.size w)
  have H : ((bsoncore_ReadHeader.f l0).bind fun bt143 => ((impl_own.f bt143.2.2.1).bind fun t149 => (some (wrap64 (bt143.1), bt143.2.1, t149, bt143.2.2.2)))) = some (r1, r2, r3, r4) := h
  clear h
  replace H := Option.bind_eq_some_iff.mp H
  obtain ⟨⟨t143, t144, t145, t148⟩, A20, H⟩ := H
  replace H : ((impl_own.f t145).bind fun t149 => (some (wrap64 (t143), t144, t149, t148))) = some (r1, r2, r3, r4) := H
  have A2 := Aside0.mk A20
  clear A20
  replace H := Option.bind_eq_some_iff.mp H
  obtain ⟨t149, A30, H⟩ := H
  replace H : (some (wrap64 (t143), t144, t149, t148)) = some (r1, r2, r3, r4) := H
  have A3 := Aside0.mk A30
  clear A30
  as_aux_lemma =>
    simp only [Option.some.injEq, Prod.mk.injEq] at H
    obtain ⟨rfl, rfl, rfl, rfl⟩ := H
    go_enter Tryz.func10, Tryz.ntmps10
    go_wp2_with (first | ((with_reducible refine gate_callee (f := 52) rfl ?_); refine HW.gz (some 9) rfl rfl Tryz.func52 (by kernel_rfl) rfl #[.slice A0 l0.length c0] rfl ?_; (with_reducible refine (bsoncore_ReadHeader.calls (fun k_ => k_ < w.heap.size) _ _ l0 t143 t144 t145 t148 _ ?side1 A2.out).mono ?_); (case side1 => exact Kd.V_mk HC0.out (Kd.F_below (Kd.C_F (Kd.heap_int .u8) HR0.out) HW.zb)); rintro e w4 ⟨v146, rfl, ho0, hb⟩; refine ⟨_, rfl, ?_⟩; have n0_ := Aside0.mk (Kd.V_lower (Kd.V_mono (ok' := fun k_ => True) ho0 (fun k_ hk_ => trivial)) (below_size HW.zb)); have n1_ := Aside0.mk (below_step HW.zb hb); clear HB; have HO147 := n0_; have HB := n1_; clear n0_ n1_; (try clear hb); (try clear hb2); (try clear hk); (try clear hi); (try clear ho0); obtain ⟨Ao5, co5, eo5⟩ := Kd.V_slice HO147.out; subst eo5) | ((with_reducible refine gate_callee (f := 53) rfl ?_); refine HW.gz (some 18) rfl rfl Tryz.func53 (by kernel_rfl) rfl #[.slice Ao5 t145.length co5] rfl ?_; (with_reducible refine (impl_own.calls _ _ t145 t149 _ ?side1 ?side2 A3.out).mono ?_); (case side1 => repeat (first | exact (Kd.V_reads' HO147.out).2.2 | (with_reducible refine Kd.C_alloc ?_ _) | (with_reducible refine Kd.C_drewN ?_ _) | (with_reducible refine Kd.C_drew ?_))); (case side2 => exact (Kd.V_reads' HO147.out).2.1); rintro e w6 ⟨v150, rfl, ho0, hb⟩; refine ⟨_, rfl, ?_⟩; have n1_ := Aside0.mk (Kd.R_lower ho0 (below_size HW.zb)); have n2_ := Aside0.mk (below_step HW.zb hb); clear HB; have HO151 := n1_; have HB := n2_; clear n1_ n2_; (try clear hb); (try clear hb2); (try clear hk); (try clear hi); (try clear ho0)))
    refine bodyPost_ret (results_list (rs := [.tmp 2, .tmp 3, .tmp 4, .tmp 5]) rfl (by simp) (.tmp (.tmp (.tmp (.tmp .nil))))) rfl ?_
    exact ⟨_, by first | rfl | (simp [errW_none, errW_some] <;> rfl) | (simp [*, errW_none, errW_some] <;> rfl), HW.zR HO151.out, HW.zb⟩

/-! ### laws_docCopy: function 11 -/
def laws_docCopy.f (l0 : List Int) : Option (List Int) := (some (([] : List Int) : List Int)).bind fun y152 => (if y152.length + l0.length < 140737488355328 then (some (y152 ++ l0)) else (none))
set_option maxHeartbeats 8000000 in
set_option maxRecDepth 100000 in
theorem laws_docCopy.calls (A0 : Option Addr) (c0 : Nat) (l0 : List Int) (r : List Int) (w : World) (hr0 : Kd.C (Kd.int .u8) w A0 l0.length l0) (hc0 : l0.length ≤ c0) (h : laws_docCopy.f l0 = some r) :
    Calls Tryz.prog 11 #[.slice A0 l0.length c0] w fun e w' => ∃ v0_ : Value, e = .returned (v0_) ∧ Kd.R (Kd.int .u8) 5 w' w.heap.size (fun _ => True) v0_ r ∧ Below w.heap.size w w' := by
  have HR0 := Aside0.mk hr0
  have HC0 := Aside0.mk hc0
  clear hr0 hc0
  have HB := Aside0.mk (Below.refl w.heap.size w)
  have H : ((some (([] : List Int) : List Int)).bind fun y152 => (if y152.length + l0.length < 140737488355328 then (some (y152 ++ l0)) else (none))) = some r := h
  clear h
  obtain ⟨y152, hy152⟩ : ∃ y_ : List Int, y_ = (([] : List Int)) := ⟨_, rfl⟩
  replace H : (if y152.length + l0.length < 140737488355328 then (some (y152 ++ l0)) else (none)) = some r := by first | (rw [hy152]; with_reducible exact H) | (have H2_ := (Option.bind_some _ _).symm.trans H; rw [hy152]; with_reducible exact H2_) | (have H2_ := (Option.bind_some _ _).symm.trans H; with_reducible exact H2_) | with_reducible exact H | (rw [hy152]; exact H) | exact H
  have Ny152 := Aside0.mk hy152
  clear hy152
  by_cases c2 : y152.length + l0.length < 140737488355328
  rotate_left
  · rw [if_neg c2] at H
    exact absurd H (by simp)
  rw [if_pos c2] at H
  have LMc2 := Aside0.mk c2
  clear c2
  obtain ⟨y155, hy155⟩ : ∃ y_ : List Int, y_ = (y152 ++ l0) := ⟨_, rfl⟩
  replace H : (some y155) = some r := by first | (rw [hy155]; with_reducible exact H) | (have H2_ := (Option.bind_some _ _).symm.trans H; rw [hy155]; with_reducible exact H2_) | (have H2_ := (Option.bind_some _ _).symm.trans H; with_reducible exact H2_) | with_reducible exact H | (rw [hy155]; exact H) | exact H
  have Ny155 := Aside0.mk hy155
  clear hy155
  as_aux_lemma =>
    obtain rfl := Option.some.inj H
    go_enter Tryz.func11, Tryz.ntmps11
    go_wp2_with (first | ((with_reducible refine gate_dst (N := 3) rfl ?_); refine Kd.R_lit (Kd.int .u8) _ 5 ?hg (N := 3) ?hd (xs := ([] : List Int)) (inner := []) (ok := fun _ => True) (okp := fun _ => True) ?hr ?hp (fun _ hk => hk) trivial (Below.refl _ _) (Nat.le_refl _) (by simp) ?_; (case hd => rfl); (case hg => rfl); (case hr => first | (go_simp; done) | (go_simp; rfl)); (case hp => exact (Reps.none _ _)); intro v153 w3 ho4 hb hg_ hnew_; clear hg_ hnew_; (first | rw [← Ny152.out] at ho4 | (simp only [Int.reduceToNat] at ho4; rw [← Ny152.out] at ho4)); have n0_ := Aside0.mk (Kd.R_lower ho4 (below_size HW.zb)); have n1_ := Aside0.mk (below_step HW.zb hb); clear HB; have HO154 := n0_; have HB := n1_; clear n0_ n1_; clear hb ho4) | ((with_reducible refine gate_builtin (b := .append) (xs := #[.tmp 3, .tmp 4]) rfl ?_); at_builtin; refine Kd.R_append_rows (Kd.int .u8) (w0 := w) w.heap.size rfl (.tmp 3) (.tmp 4) 22 5 (.int .u8 0) 1 rfl Tryz.underlying22 info5 rfl (by decide) (by omega) v153 y152 l0 _ _ _ (fun _ => True) (fun _ => False) rfl rfl ?aO ?aR (fun _ _ h => h) (fun _ h => h.elim) ?aF ?aB ?aS ?aL ?_; (case aR => repeat (first | exact (Kd.C_below HR0.out HB.out) | (with_reducible refine Kd.C_alloc ?_ _) | (with_reducible refine Kd.C_drewN ?_ _) | (with_reducible refine Kd.C_drew ?_))); (case aB => exact HW.zb); (case aF => exact (fun _ _ => trivial)); (case aO => exact (HW.zR HO154.out)); (case aS => exact (below_size HW.zb)); (case aL => have := LMc2.out; omega); intro v156 w5 ho hb hg hat; rw [← Ny155.out] at ho; have n0_ := Aside0.mk (hb); have n1_ := Aside0.mk (ho); clear HB; clear HO154; have HB := n0_; have HO157 := n1_; clear n0_ n1_; clear ho hb hg hat))
    go_ret
    exact ⟨_, by first | rfl | (simp [errW_none, errW_some] <;> rfl) | (simp [*, errW_none, errW_some] <;> rfl), HW.zR HO157.out, HW.zb⟩

/-! ### impl_ReadKey: function 12 -/
def impl_ReadKey.f (l0 : List Int) : Option (ByteArray × List Int × Bool) := (bsoncore_ReadKey.f l0).bind fun bt158 => ((impl_own.f bt158.2.1).bind fun t163 => (some (bt158.1, t163, bt158.2.2)))
set_option maxHeartbeats 8000000 in
set_option maxRecDepth 100000 in
theorem impl_ReadKey.calls (A0 : Option Addr) (c0 : Nat) (l0 : List Int) (r1 : ByteArray) (r2 : List Int) (r3 : Bool) (w : World) (hr0 : Kd.C (Kd.int .u8) w A0 l0.length l0) (hc0 : l0.length ≤ c0) (h : impl_ReadKey.f l0 = some (r1, r2, r3)) :
    Calls Tryz.prog 12 #[.slice A0 l0.length c0] w fun e w' => ∃ v1_ : Value, e = .returned (.tuple #[.string r1, v1_, .bool r3]) ∧ Kd.R (Kd.int .u8) 5 w' w.heap.size (fun _ => True) v1_ r2 ∧ Below w.heap.size w w' := by
  have HR0 := Aside0.mk hr0
  have HC0 := Aside0.mk hc0
  clear hr0 hc0
  have HB := Aside0.mk (Below.refl w.heap.size w)
  have H : ((bsoncore_ReadKey.f l0).bind fun bt158 => ((impl_own.f bt158.2.1).bind fun t163 => (some (bt158.1, t163, bt158.2.2)))) = some (r1, r2, r3) := h
  clear h
  replace H := Option.bind_eq_some_iff.mp H
  obtain ⟨⟨t158, t159, t162⟩, A20, H⟩ := H
  replace H : ((impl_own.f t159).bind fun t163 => (some (t158, t163, t162))) = some (r1, r2, r3) := H
  have A2 := Aside0.mk A20
  clear A20
  replace H := Option.bind_eq_some_iff.mp H
  obtain ⟨t163, A30, H⟩ := H
  replace H : (some (t158, t163, t162)) = some (r1, r2, r3) := H
  have A3 := Aside0.mk A30
  clear A30
  as_aux_lemma =>
    simp only [Option.some.injEq, Prod.mk.injEq] at H
    obtain ⟨rfl, rfl, rfl⟩ := H
    go_enter Tryz.func12, Tryz.ntmps12
    go_wp2_with (first | ((with_reducible refine gate_callee (f := 54) rfl ?_); refine HW.gz (some 10) rfl rfl Tryz.func54 (by kernel_rfl) rfl #[.slice A0 l0.length c0] rfl ?_; (with_reducible refine (bsoncore_ReadKey.calls (fun k_ => k_ < w.heap.size) _ _ l0 t158 t159 t162 _ ?side1 A2.out).mono ?_); (case side1 => exact Kd.V_mk HC0.out (Kd.F_below (Kd.C_F (Kd.heap_int .u8) HR0.out) HW.zb)); rintro e w4 ⟨v160, rfl, ho0, hb⟩; refine ⟨_, rfl, ?_⟩; have n0_ := Aside0.mk (Kd.V_lower (Kd.V_mono (ok' := fun k_ => True) ho0 (fun k_ hk_ => trivial)) (below_size HW.zb)); have n1_ := Aside0.mk (below_step HW.zb hb); clear HB; have HO161 := n0_; have HB := n1_; clear n0_ n1_; (try clear hb); (try clear hb2); (try clear hk); (try clear hi); (try clear ho0); obtain ⟨Ao5, co5, eo5⟩ := Kd.V_slice HO161.out; subst eo5) | ((with_reducible refine gate_callee (f := 53) rfl ?_); refine HW.gz (some 16) rfl rfl Tryz.func53 (by kernel_rfl) rfl #[.slice Ao5 t159.length co5] rfl ?_; (with_reducible refine (impl_own.calls _ _ t159 t163 _ ?side1 ?side2 A3.out).mono ?_); (case side1 => repeat (first | exact (Kd.V_reads' HO161.out).2.2 | (with_reducible refine Kd.C_alloc ?_ _) | (with_reducible refine Kd.C_drewN ?_ _) | (with_reducible refine Kd.C_drew ?_))); (case side2 => exact (Kd.V_reads' HO161.out).2.1); rintro e w6 ⟨v164, rfl, ho0, hb⟩; refine ⟨_, rfl, ?_⟩; have n1_ := Aside0.mk (Kd.R_lower ho0 (below_size HW.zb)); have n2_ := Aside0.mk (below_step HW.zb hb); clear HB; have HO165 := n1_; have HB := n2_; clear n1_ n2_; (try clear hb); (try clear hb2); (try clear hk); (try clear hi); (try clear ho0)))
    go_ret3
    exact ⟨_, by first | rfl | (simp [errW_none, errW_some] <;> rfl) | (simp [*, errW_none, errW_some] <;> rfl), HW.zR HO165.out, HW.zb⟩

/-! ### impl_ReadCString: function 13 -/
def impl_ReadCString.f (l0 : List Int) : Option (ByteArray × List Int × Bool) := (binaryutil_ReadCString.f l0).bind fun bt166 => ((impl_own.f bt166.2.1).bind fun t171 => (some (bt166.1, t171, bt166.2.2)))
set_option maxHeartbeats 8000000 in
set_option maxRecDepth 100000 in
theorem impl_ReadCString.calls (A0 : Option Addr) (c0 : Nat) (l0 : List Int) (r1 : ByteArray) (r2 : List Int) (r3 : Bool) (w : World) (hr0 : Kd.C (Kd.int .u8) w A0 l0.length l0) (hc0 : l0.length ≤ c0) (h : impl_ReadCString.f l0 = some (r1, r2, r3)) :
    Calls Tryz.prog 13 #[.slice A0 l0.length c0] w fun e w' => ∃ v1_ : Value, e = .returned (.tuple #[.string r1, v1_, .bool r3]) ∧ Kd.R (Kd.int .u8) 5 w' w.heap.size (fun _ => True) v1_ r2 ∧ Below w.heap.size w w' := by
  have HR0 := Aside0.mk hr0
  have HC0 := Aside0.mk hc0
  clear hr0 hc0
  have HB := Aside0.mk (Below.refl w.heap.size w)
  have H : ((binaryutil_ReadCString.f l0).bind fun bt166 => ((impl_own.f bt166.2.1).bind fun t171 => (some (bt166.1, t171, bt166.2.2)))) = some (r1, r2, r3) := h
  clear h
  replace H := Option.bind_eq_some_iff.mp H
  obtain ⟨⟨t166, t167, t170⟩, A20, H⟩ := H
  replace H : ((impl_own.f t167).bind fun t171 => (some (t166, t171, t170))) = some (r1, r2, r3) := H
  have A2 := Aside0.mk A20
  clear A20
  replace H := Option.bind_eq_some_iff.mp H
  obtain ⟨t171, A30, H⟩ := H
  replace H : (some (t166, t171, t170)) = some (r1, r2, r3) := H
  have A3 := Aside0.mk A30
  clear A30
  as_aux_lemma =>
    simp only [Option.some.injEq, Prod.mk.injEq] at H
    obtain ⟨rfl, rfl, rfl⟩ := H
    go_enter Tryz.func13, Tryz.ntmps13
    go_wp2_with (first | ((with_reducible refine gate_callee (f := 55) rfl ?_); refine HW.gz (some 10) rfl rfl Tryz.func55 (by kernel_rfl) rfl #[.slice A0 l0.length c0] rfl ?_; (with_reducible refine (binaryutil_ReadCString.calls (fun k_ => k_ < w.heap.size) _ _ l0 t166 t167 t170 _ ?side1 A2.out).mono ?_); (case side1 => exact Kd.V_mk HC0.out (Kd.F_below (Kd.C_F (Kd.heap_int .u8) HR0.out) HW.zb)); rintro e w4 ⟨v168, rfl, ho0, hb⟩; refine ⟨_, rfl, ?_⟩; have n0_ := Aside0.mk (Kd.V_lower (Kd.V_mono (ok' := fun k_ => True) ho0 (fun k_ hk_ => trivial)) (below_size HW.zb)); have n1_ := Aside0.mk (below_step HW.zb hb); clear HB; have HO169 := n0_; have HB := n1_; clear n0_ n1_; (try clear hb); (try clear hb2); (try clear hk); (try clear hi); (try clear ho0); obtain ⟨Ao5, co5, eo5⟩ := Kd.V_slice HO169.out; subst eo5) | ((with_reducible refine gate_callee (f := 53) rfl ?_); refine HW.gz (some 16) rfl rfl Tryz.func53 (by kernel_rfl) rfl #[.slice Ao5 t167.length co5] rfl ?_; (with_reducible refine (impl_own.calls _ _ t167 t171 _ ?side1 ?side2 A3.out).mono ?_); (case side1 => repeat (first | exact (Kd.V_reads' HO169.out).2.2 | (with_reducible refine Kd.C_alloc ?_ _) | (with_reducible refine Kd.C_drewN ?_ _) | (with_reducible refine Kd.C_drew ?_))); (case side2 => exact (Kd.V_reads' HO169.out).2.1); rintro e w6 ⟨v172, rfl, ho0, hb⟩; refine ⟨_, rfl, ?_⟩; have n1_ := Aside0.mk (Kd.R_lower ho0 (below_size HW.zb)); have n2_ := Aside0.mk (below_step HW.zb hb); clear HB; have HO173 := n1_; have HB := n2_; clear n1_ n2_; (try clear hb); (try clear hb2); (try clear hk); (try clear hi); (try clear ho0)))
    go_ret3
    exact ⟨_, by first | rfl | (simp [errW_none, errW_some] <;> rfl) | (simp [*, errW_none, errW_some] <;> rfl), HW.zR HO173.out, HW.zb⟩

/-! ### spec_DocName: function 14 -/
def spec_DocName.l0 : Nat → List Int → Int → Option (ByteArray × Int × Bool)
  | 0, _, _ => none
  | k + 1, x0, x5 => if x5 < (x0.length : Int) then (if 0 ≤ x5 then (if (rd x0 x5) = 0 then (if x5 ≤ (x0.length : Int) then (some (strOfNums (x0.take (x5 : Int).toNat), wrap64 (x5 + 1), true)) else (none)) else (spec_DocName.l0 k x0 (wrap64 (x5 + 1)))) else (none)) else (some ((⟨#[]⟩ : ByteArray), 0, false))
def spec_DocName.f (k : Nat) (l0 : List Int) : Option (ByteArray × Int × Bool) := spec_DocName.l0 k l0 0
theorem spec_DocName.mono_l : ∀ k, (∀ y0 y1, LeO (spec_DocName.l0 k y0 y1) (spec_DocName.l0 (k + 1) y0 y1))
  | 0 => fun _ _ r h => by simp [spec_DocName.l0] at h
  | k + 1 => by
    have ih0 := spec_DocName.mono_l k
    · intro y0 y1
      unfold spec_DocName.l0
      repeat' first
      | (with_reducible exact ih0 _ _)
      | (with_reducible exact LeO.refl _)
      | (with_reducible exact LeO.none _)
      | (with_reducible refine LeO.ite ?_ ?_)
      | (with_reducible refine LeO.bind ?_ (fun _ => ?_))
      | exact ih0 _ _
      | exact LeO.none _
      | refine LeO.ite ?_ ?_
      | refine LeO.bind ?_ (fun _ => ?_)
theorem spec_DocName.mono : ∀ a0 k, LeO (spec_DocName.f k a0) (spec_DocName.f (k + 1) a0) := by
  intro a0 k
  have ih0 := spec_DocName.mono_l k
  unfold spec_DocName.f
  repeat' first
      | (with_reducible exact ih0 _ _)
      | (with_reducible exact LeO.refl _)
      | (with_reducible exact LeO.none _)
      | (with_reducible refine LeO.ite ?_ ?_)
      | (with_reducible refine LeO.bind ?_ (fun _ => ?_))
      | exact ih0 _ _
      | exact LeO.none _
      | refine LeO.ite ?_ ?_
      | refine LeO.bind ?_ (fun _ => ?_)
set_option maxHeartbeats 8000000 in
set_option maxRecDepth 100000 in
theorem spec_DocName.calls (k : Nat) (A0 : Option Addr) (c0 : Nat) (l0 : List Int) (r1 : ByteArray) (r2 : Int) (r3 : Bool) (w : World) (hr0 : Kd.C (Kd.int .u8) w A0 l0.length l0) (hc0 : l0.length ≤ c0) (h : spec_DocName.f k l0 = some (r1, r2, r3)) :
    Calls Tryz.prog 14 #[.slice A0 l0.length c0] w fun e w' => e = .returned (.tuple #[.string r1, .int .i64 r2, .bool r3]) ∧ Drawn0 w w' := by
  have HR0 := Aside0.mk hr0
  have HC0 := Aside0.mk hc0
  clear hr0 hc0
  have H : (spec_DocName.l0 k l0 0) = some (r1, r2, r3) := h
  clear h
  have H' := Aside0.mk H
  clear H
  go_enter Tryz.func14, Tryz.ntmps14
  go_wp2
  go_loopg [5] k (fun kq v5 w' => ∃ (x5_1 : Int), v5 = .int .i64 x5_1 ∧ Aside0 (spec_DocName.l0 kq l0 x5_1 = some (r1, r2, r3)) ∧ Aside0 (kq ≤ k) ∧ Drawn0 w w')
  case atStart => exact ⟨(0), (by first | rfl | (simp; done) | (simp [*]; done)), H', ⟨Nat.le_refl _⟩, by repeat (first | exact Drawn0.refl _ | apply Drawn0.step)⟩
  case round =>
    clear H'
    try clear c1
    obtain ⟨x5_1, rfl, HA, HK1, ⟨m1, rfl⟩⟩ := hrel
    cases gk with
    | zero => exact absurd HA.out (by simp [spec_DocName.l0])
    | succ k1 =>
      have H := HA.out
      clear HA
      simp only [spec_DocName.l0] at H
      by_cases c2 : x5_1 < (l0.length : Int)
      rotate_left
      · rw [if_neg c2] at H
        have c2b0 : decide (x5_1 < (l0.length : Int)) = false := decide_eq_false c2
        clear c2
        as_aux_lemma =>
          simp only [Option.some.injEq, Prod.mk.injEq] at H
          obtain ⟨rfl, rfl, rfl⟩ := H
          go_wp2
          go_ret3
          exact ⟨by first | rfl | (simp; done) | (simp [*]; done), by repeat (first | exact Drawn0.refl _ | apply Drawn0.step)⟩
      rw [if_pos c2] at H
      have c2b0 : decide (x5_1 < (l0.length : Int)) = true := decide_eq_true c2
      clear c2
      by_cases c3 : 0 ≤ x5_1
      rotate_left
      · rw [if_neg c3] at H
        exact absurd H (by simp)
      rw [if_pos c3] at H
      have c3b0 : decide (0 ≤ x5_1) = true := decide_eq_true c3
      clear c3
      by_cases c4 : (rd l0 x5_1) = 0
      rotate_left
      · rw [if_neg c4] at H
        have c4b0 : ((rd l0 x5_1) == 0) = false := beq_eq_false_iff_ne.mpr c4
        have c4b1 : ((rd l0 x5_1) != 0) = true := bne_iff_ne.mpr c4
        as_aux_lemma =>
          have H' := Aside0.mk H
          clear H
          have p174 : 0 ≤ (x5_1 : Int) := of_decide_eq_true (by first | (with_reducible assumption) | assumption)
          have q174 : x5_1 < (l0.length : Int) := of_decide_eq_true (by first | (with_reducible assumption) | assumption)
          obtain ⟨ad174, e174, hx174_0⟩ := Kd.at_int HR0.out x5_1 p174 q174
          cases e174
          replace p174 := eq_true p174
          replace q174 := eq_true q174
          go_wp2
          go_roundg k1
          case measure => have := HK1.out; omega
          case rel => exact ⟨(wrap64 (x5_1 + 1)), (by first | rfl | (simp; done) | (simp [*]; done)), H', ⟨by have := HK1.out; omega⟩, by repeat (first | exact Drawn0.refl _ | apply Drawn0.step)⟩
      rw [if_pos c4] at H
      have c4b0 : ((rd l0 x5_1) == 0) = true := beq_iff_eq.mpr c4
      have c4b1 : ((rd l0 x5_1) != 0) = false := bne_eq_false_iff_eq.mpr c4
      clear c4
      have c5b0 := eq_true (of_decide_eq_true (by first | (with_reducible assumption) | assumption) : 0 ≤ x5_1)
      by_cases c6 : x5_1 ≤ (l0.length : Int)
      rotate_left
      · rw [if_neg c6] at H
        exact absurd H (by simp)
      rw [if_pos c6] at H
      have c6b0 := eq_true c6
      have c6b1 : decide (x5_1 ≤ (l0.length : Int)) = true := decide_eq_true c6
      clear c6
      obtain ⟨y175, hy175⟩ : ∃ y_ : List Int, y_ = (l0.take (x5_1 : Int).toNat) := ⟨_, rfl⟩
      replace H : (some (strOfNums y175, wrap64 (x5_1 + 1), true)) = some (r1, r2, r3) := by first | (rw [hy175]; with_reducible exact H) | (have H2_ := (Option.bind_some _ _).symm.trans H; rw [hy175]; with_reducible exact H2_) | (have H2_ := (Option.bind_some _ _).symm.trans H; with_reducible exact H2_) | with_reducible exact H | (rw [hy175]; exact H) | exact H
      have Ny175 := Aside0.mk hy175
      clear hy175
      as_aux_lemma =>
        simp only [Option.some.injEq, Prod.mk.injEq] at H
        obtain ⟨rfl, rfl, rfl⟩ := H
        have p174 : 0 ≤ (x5_1 : Int) := of_decide_eq_true (by first | (with_reducible assumption) | assumption)
        have q174 : x5_1 < (l0.length : Int) := of_decide_eq_true (by first | (with_reducible assumption) | assumption)
        obtain ⟨ad174, e174, hx174_0⟩ := Kd.at_int HR0.out x5_1 p174 q174
        cases e174
        replace p174 := eq_true p174
        replace q174 := eq_true q174
        have q7 : (x5_1 : Int) ≤ ((l0.length : Int) : Int) := of_decide_eq_true (by first | (with_reducible assumption) | assumption)
        obtain ⟨i07, hi07, _, hsz7, _⟩ := info_parts info5
        have hroom7 : l0.length ≤ c0 := HC0.out
        have hC7 : Kd.C (Kd.int .u8) _ (some ad174) l0.length l0 := HR0.out
        have hcut7 := cut_to (P := Tryz.prog) 22 5 .i64 Tryz.underlying22 hi07 (some ad174) l0.length c0 x5_1 (of_decide_eq_true (by first | (with_reducible assumption) | assumption)) q7 hroom7
        have hr7 := Kd.C_take (m := (x5_1 : Int).toNat) hC7 (by omega)
        have hy7 : y175.length = (x5_1 : Int).toNat := (by rw [Ny175.out, List.length_take]; omega)
        rw [← Ny175.out] at hr7
        rw [← hy7] at hcut7
        have HR178 := Aside0.mk hr7
        have HC178 := Aside0.mk (show y175.length ≤ c0 from by omega)
        clear hr7 hC7 hroom7 hi07 hsz7
        have KY7 := Aside0.mk hy7
        clear hy7
        replace q7 := eq_true q7
        have hcv8 := Kd.C_string (P := Tryz.prog) (A := (some ad174)) (c := c0) Tryz.underlying22 Tryz.underlying5 Tryz.underlying9 HR178.out
        have hcv9 := fun m_ : Nat => Kd.C_string (P := Tryz.prog) (A := (some ad174)) (c := c0) Tryz.underlying22 Tryz.underlying5 Tryz.underlying9 (Kd.C_drewN HR178.out m_)
        go_wp2
        go_ret3
        exact ⟨by first | rfl | (simp; done) | (simp [*]; done), by repeat (first | exact Drawn0.refl _ | apply Drawn0.step)⟩

/-! ### binaryutil_ReadI32: function 115 -/
def binaryutil_ReadI32.f (l0 : List Int) : Option (Int × List Int × Bool) := if (l0.length : Int) < 4 then (some (0, l0, false)) else (if 3 < (l0.length : Int) then (if 0 < (l0.length : Int) then (if 1 < (l0.length : Int) then (if 2 < (l0.length : Int) then (if 4 ≤ (l0.length : Int) then (some (Go.bits .or .i32 (Go.bits .or .i32 (Go.bits .or .i32 (wrap32 (rd l0 0)) (wrap32 ((wrap32 (rd l0 1)) * 256))) (wrap32 ((wrap32 (rd l0 2)) * 65536))) (wrap32 ((wrap32 (rd l0 3)) * 16777216)), (l0.drop 4), true)) else (none)) else (none)) else (none)) else (none)) else (none))
set_option maxHeartbeats 8000000 in
set_option maxRecDepth 100000 in
theorem binaryutil_ReadI32.calls (P0_ : Nat → Prop) (A0 : Option Addr) (c0 : Nat) (l0 : List Int) (r1 : Int) (r2 : List Int) (r3 : Bool) (w : World) (hs0 : Kd.V (Kd.int .u8) 5 w w.heap.size (fun k_ => P0_ k_) (.slice A0 l0.length c0) l0) (h : binaryutil_ReadI32.f l0 = some (r1, r2, r3)) :
    Calls Tryz.prog 115 #[.slice A0 l0.length c0] w fun e w' => ∃ v1_ : Value, e = .returned (.tuple #[.int .i32 r1, v1_, .bool r3]) ∧ Kd.V (Kd.int .u8) 5 w' w.heap.size (fun k_ => (P0_ k_ ∨ w.heap.size ≤ k_)) v1_ r2 ∧ Below w.heap.size w w' := by
  have HO0 := Aside0.mk (show Kd.V (Kd.int .u8) 5 w w.heap.size (fun k_ => (P0_ k_ ∨ w.heap.size ≤ k_)) (.slice A0 l0.length c0) l0 from Kd.V_mono hs0 (fun k_ hk => .inl hk))
  have HB := Aside0.mk (Below.refl w.heap.size w)
  have H : (if (l0.length : Int) < 4 then (some (0, l0, false)) else (if 3 < (l0.length : Int) then (if 0 < (l0.length : Int) then (if 1 < (l0.length : Int) then (if 2 < (l0.length : Int) then (if 4 ≤ (l0.length : Int) then (some (Go.bits .or .i32 (Go.bits .or .i32 (Go.bits .or .i32 (wrap32 (rd l0 0)) (wrap32 ((wrap32 (rd l0 1)) * 256))) (wrap32 ((wrap32 (rd l0 2)) * 65536))) (wrap32 ((wrap32 (rd l0 3)) * 16777216)), (l0.drop 4), true)) else (none)) else (none)) else (none)) else (none)) else (none))) = some (r1, r2, r3) := h
  clear h
  by_cases c2 : (l0.length : Int) < 4
  · rw [if_pos c2] at H
    have c2b0 : decide ((l0.length : Int) < 4) = true := decide_eq_true c2
    have c2b1 : decide (l0.length < 4) = true := decide_eq_true (by omega)
    clear c2
    as_aux_lemma =>
      simp only [Option.some.injEq, Prod.mk.injEq] at H
      obtain ⟨rfl, rfl, rfl⟩ := H
      go_enter Tryz.func115, Tryz.ntmps115
      go_wp2
      repeat (go_quiet (fail); try go_wp2)
      go_ret3
      exact ⟨_, by first | rfl | (simp [errW_none, errW_some] <;> rfl) | (simp [*, errW_none, errW_some] <;> rfl), HW.zV HO0.out, HW.zb⟩
  rw [if_neg c2] at H
  have c2b0 : decide ((l0.length : Int) < 4) = false := decide_eq_false c2
  have c2b1 : decide (l0.length < 4) = false := decide_eq_false (by omega)
  clear c2
  by_cases c3 : 3 < (l0.length : Int)
  rotate_left
  · rw [if_neg c3] at H
    exact absurd H (by simp)
  rw [if_pos c3] at H
  have c3b0 : decide (3 < (l0.length : Int)) = true := decide_eq_true c3
  have c3b1 : decide (3 < l0.length) = true := decide_eq_true (by omega)
  clear c3
  by_cases c4 : 0 < (l0.length : Int)
  rotate_left
  · rw [if_neg c4] at H
    exact absurd H (by simp)
  rw [if_pos c4] at H
  have c4b0 : decide (0 < (l0.length : Int)) = true := decide_eq_true c4
  have c4b1 : decide (0 < l0.length) = true := decide_eq_true (by omega)
  clear c4
  by_cases c5 : 1 < (l0.length : Int)
  rotate_left
  · rw [if_neg c5] at H
    exact absurd H (by simp)
  rw [if_pos c5] at H
  have c5b0 : decide (1 < (l0.length : Int)) = true := decide_eq_true c5
  have c5b1 : decide (1 < l0.length) = true := decide_eq_true (by omega)
  clear c5
  by_cases c6 : 2 < (l0.length : Int)
  rotate_left
  · rw [if_neg c6] at H
    exact absurd H (by simp)
  rw [if_pos c6] at H
  have c6b0 : decide (2 < (l0.length : Int)) = true := decide_eq_true c6
  have c6b1 : decide (2 < l0.length) = true := decide_eq_true (by omega)
  clear c6
  by_cases c7 : 4 ≤ (l0.length : Int)
  rotate_left
  · rw [if_neg c7] at H
    exact absurd H (by simp)
  rw [if_pos c7] at H
  have c7b0 := eq_true c7
  have c7b1 : decide (4 ≤ (l0.length : Int)) = true := decide_eq_true c7
  clear c7
  obtain ⟨y184, hy184⟩ : ∃ y_ : List Int, y_ = (l0.drop 4) := ⟨_, rfl⟩
  replace H : (some (Go.bits .or .i32 (Go.bits .or .i32 (Go.bits .or .i32 (wrap32 (rd l0 0)) (wrap32 ((wrap32 (rd l0 1)) * 256))) (wrap32 ((wrap32 (rd l0 2)) * 65536))) (wrap32 ((wrap32 (rd l0 3)) * 16777216)), y184, true)) = some (r1, r2, r3) := by first | (rw [hy184]; with_reducible exact H) | (have H2_ := (Option.bind_some _ _).symm.trans H; rw [hy184]; with_reducible exact H2_) | (have H2_ := (Option.bind_some _ _).symm.trans H; with_reducible exact H2_) | with_reducible exact H | (rw [hy184]; exact H) | exact H
  have Ny184 := Aside0.mk hy184
  clear hy184
  as_aux_lemma =>
    simp only [Option.some.injEq, Prod.mk.injEq] at H
    obtain ⟨rfl, rfl, rfl⟩ := H
    have p179 : 0 ≤ (3 : Int) := (by omega)
    have q179 : 3 < (l0.length : Int) := of_decide_eq_true (by first | (with_reducible assumption) | assumption)
    obtain ⟨ad179, e179, hx179_0⟩ := Kd.at_int (Kd.V_reads' HO0.out).2.2 3 p179 q179
    cases e179
    (try simp only [show (3 : Int).toNat = 3 from rfl, Nat.reduceMul, Nat.reduceEqDiff, Go.Addr.add, ↓reduceIte] at hx179_0)
    have qi179 : (3 < l0.length) = True := eq_true (by omega)
    (try rw [show ((3 : Int)).toNat = 3 from rfl] at hx179_0)
    replace p179 := eq_true p179
    replace q179 := eq_true q179
    have p180 : 0 ≤ (0 : Int) := (by omega)
    have q180 : 0 < (l0.length : Int) := of_decide_eq_true (by first | (with_reducible assumption) | assumption)
    obtain ⟨ad180, e180, hx180_0⟩ := Kd.at_int (Kd.V_reads' HO0.out).2.2 0 p180 q180
    obtain rfl : ad179 = ad180 := (by injection e180)
    have qi180 : (0 < l0.length) = True := eq_true (by omega)
    (try rw [show ((0 : Int)).toNat = 0 from rfl] at hx180_0)
    (try rw [Addr.add_zero'] at hx180_0)
    replace p180 := eq_true p180
    replace q180 := eq_true q180
    have p181 : 0 ≤ (1 : Int) := (by omega)
    have q181 : 1 < (l0.length : Int) := of_decide_eq_true (by first | (with_reducible assumption) | assumption)
    obtain ⟨ad181, e181, hx181_0⟩ := Kd.at_int (Kd.V_reads' HO0.out).2.2 1 p181 q181
    obtain rfl : ad179 = ad181 := (by injection e181)
    (try simp only [show (1 : Int).toNat = 1 from rfl, Nat.reduceMul, Nat.reduceEqDiff, Go.Addr.add, ↓reduceIte] at hx181_0)
    have qi181 : (1 < l0.length) = True := eq_true (by omega)
    (try rw [show ((1 : Int)).toNat = 1 from rfl] at hx181_0)
    replace p181 := eq_true p181
    replace q181 := eq_true q181
    have p182 : 0 ≤ (2 : Int) := (by omega)
    have q182 : 2 < (l0.length : Int) := of_decide_eq_true (by first | (with_reducible assumption) | assumption)
    obtain ⟨ad182, e182, hx182_0⟩ := Kd.at_int (Kd.V_reads' HO0.out).2.2 2 p182 q182
    obtain rfl : ad179 = ad182 := (by injection e182)
    (try simp only [show (2 : Int).toNat = 2 from rfl, Nat.reduceMul, Nat.reduceEqDiff, Go.Addr.add, ↓reduceIte] at hx182_0)
    have qi182 : (2 < l0.length) = True := eq_true (by omega)
    (try rw [show ((2 : Int)).toNat = 2 from rfl] at hx182_0)
    replace p182 := eq_true p182
    replace q182 := eq_true q182
    have p183 : 0 ≤ (3 : Int) := (by omega)
    have q183 : 3 < (l0.length : Int) := of_decide_eq_true (by first | (with_reducible assumption) | assumption)
    obtain ⟨ad183, e183, hx183_0⟩ := Kd.at_int (Kd.V_reads' HO0.out).2.2 3 p183 q183
    obtain rfl : ad179 = ad183 := (by injection e183)
    (try simp only [show (3 : Int).toNat = 3 from rfl, Nat.reduceMul, Nat.reduceEqDiff, Go.Addr.add, ↓reduceIte] at hx183_0)
    have qi183 : (3 < l0.length) = True := eq_true (by omega)
    (try rw [show ((3 : Int)).toNat = 3 from rfl] at hx183_0)
    replace p183 := eq_true p183
    replace q183 := eq_true q183
    have q8 : (4 : Int) ≤ ((l0.length : Int) : Int) := of_decide_eq_true (by first | (with_reducible assumption) | assumption)
    obtain ⟨i08, hi08, _, hsz8, _⟩ := info_parts info5
    have hroom8 : l0.length ≤ c0 := (Kd.V_reads' HO0.out).2.1
    have hC8 : Kd.F (Kd.int .u8) _ _ (some ad179) l0.length l0 := (Kd.V_at (base := w.heap.size) HO0.out).2.2
    have hcut8 := cut_from (P := Tryz.prog) 22 5 .i64 Tryz.underlying22 hi08 1 hsz8 (some ad179) l0.length c0 4 (by omega) q8
    have hr8 := Kd.F_cut (m := (4 : Int).toNat) (c := c0) hC8 (by omega) hroom8
    obtain ⟨A8, hA8⟩ : ∃ A1, A1 = (if c0 = (4 : Int).toNat then (some ad179) else ((some ad179) : Option Addr).map (·.add ((4 : Int).toNat * 1))) := ⟨_, rfl⟩
    obtain ⟨c8, hc8⟩ : ∃ c1, c1 = c0 - (4 : Int).toNat := ⟨_, rfl⟩
    have hy8 : y184.length = l0.length - (4 : Int).toNat := (by rw [Ny184.out, List.length_drop] <;> omega)
    rw [show (l0).drop (4 : Int).toNat = y184 from Ny184.out.symm] at hr8
    replace hr8 : Kd.F (Kd.int .u8) _ _ A8 y184.length y184 := (by rw [hA8]; exact hr8)
    rw [← hy8, ← hA8, ← hc8] at hcut8
    have HO188 := Aside0.mk (show Kd.V (Kd.int .u8) 5 _ w.heap.size _ (.slice A8 y184.length c8) y184 from Kd.V_mk (by rw [hy8, hc8]; exact Nat.sub_le_sub_right hroom8 _) hr8)
    have HC188 := Aside0.mk (show y184.length ≤ c8 from by rw [hy8, hc8]; exact Nat.sub_le_sub_right hroom8 _)
    clear hr8 hC8 hroom8 hi08 hsz8 hc8
    have KY8 := Aside0.mk hy8
    have KA8 := Aside0.mk hA8
    clear hy8 hA8
    replace q8 := eq_true q8
    go_enter Tryz.func115, Tryz.ntmps115
    go_wp2
    repeat (go_quiet (fail); try go_wp2)
    go_ret3
    exact ⟨_, by first | rfl | (simp [errW_none, errW_some] <;> rfl) | (simp [*, errW_none, errW_some] <;> rfl), HW.zV HO188.out, HW.zb⟩

/-! ### bsoncore_ReadInt32: function 85 -/
def bsoncore_ReadInt32.f (l0 : List Int) : Option (Int × List Int × Bool) := (binaryutil_ReadI32.f l0).bind fun bt189 => (some (bt189.1, bt189.2.1, bt189.2.2))
set_option maxHeartbeats 8000000 in
set_option maxRecDepth 100000 in
theorem bsoncore_ReadInt32.calls (P0_ : Nat → Prop) (A0 : Option Addr) (c0 : Nat) (l0 : List Int) (r1 : Int) (r2 : List Int) (r3 : Bool) (w : World) (hs0 : Kd.V (Kd.int .u8) 5 w w.heap.size (fun k_ => P0_ k_) (.slice A0 l0.length c0) l0) (h : bsoncore_ReadInt32.f l0 = some (r1, r2, r3)) :
    Calls Tryz.prog 85 #[.slice A0 l0.length c0] w fun e w' => ∃ v1_ : Value, e = .returned (.tuple #[.int .i32 r1, v1_, .bool r3]) ∧ Kd.V (Kd.int .u8) 5 w' w.heap.size (fun k_ => (P0_ k_ ∨ w.heap.size ≤ k_)) v1_ r2 ∧ Below w.heap.size w w' := by
  have HO0 := Aside0.mk (show Kd.V (Kd.int .u8) 5 w w.heap.size (fun k_ => (P0_ k_ ∨ w.heap.size ≤ k_)) (.slice A0 l0.length c0) l0 from Kd.V_mono hs0 (fun k_ hk => .inl hk))
  have HB := Aside0.mk (Below.refl w.heap.size w)
  have H : ((binaryutil_ReadI32.f l0).bind fun bt189 => (some (bt189.1, bt189.2.1, bt189.2.2))) = some (r1, r2, r3) := h
  clear h
  replace H := Option.bind_eq_some_iff.mp H
  obtain ⟨⟨t189, t190, t193⟩, A20, H⟩ := H
  replace H : (some (t189, t190, t193)) = some (r1, r2, r3) := H
  have A2 := Aside0.mk A20
  clear A20
  as_aux_lemma =>
    simp only [Option.some.injEq, Prod.mk.injEq] at H
    obtain ⟨rfl, rfl, rfl⟩ := H
    go_enter Tryz.func85, Tryz.ntmps85
    go_wp2_with (first | ((with_reducible refine gate_callee (f := 115) rfl ?_); refine HW.gz (some 6) rfl rfl Tryz.func115 (by kernel_rfl) rfl #[.slice A0 l0.length c0] rfl ?_; (with_reducible refine (binaryutil_ReadI32.calls (fun k_ => (P0_ k_ ∨ w.heap.size ≤ k_)) _ _ l0 t189 t190 t193 _ ?side1 A2.out).mono ?_); (case side1 => exact HO0.out); rintro e w3 ⟨v191, rfl, ho0, hb⟩; refine ⟨_, rfl, ?_⟩; have n1_ := Aside0.mk (Kd.V_lower (Kd.V_mono (ok' := fun k_ => (P0_ k_ ∨ w.heap.size ≤ k_)) ho0 (fun k_ hk_ => Or.elim hk_ (fun hs_ => hs_) (fun hn_ => (.inr (Nat.le_trans (below_size HW.zb) hn_))))) (below_size HW.zb)); have n2_ := Aside0.mk (below_step HW.zb hb); clear HB; have HO192 := n1_; have HB := n2_; clear n1_ n2_; (try clear hb); (try clear hb2); (try clear hk); (try clear hi); (try clear ho0)))
    go_ret3
    exact ⟨_, by first | rfl | (simp [errW_none, errW_some] <;> rfl) | (simp [*, errW_none, errW_some] <;> rfl), HW.zV HO192.out, HW.zb⟩

/-! ### impl_Read: function 34 -/
theorem set8 {w : World} {g t : Nat} {a b c d e f x y a' b' c' d' e' f' x' y' : Value} (hz : w.heap[g]? = some (.cells #[a, b, c, d, e, f, x, y] t (0, 0))) :
    ((((((((w.setCell ⟨g, 0, none⟩ a').setCell ⟨g, 1, none⟩ b').setCell ⟨g, 2, none⟩ c').setCell ⟨g, 3, none⟩ d').setCell ⟨g, 4, none⟩ e').setCell ⟨g, 5, none⟩ f').setCell ⟨g, 6, none⟩ x').setCell ⟨g, 7, none⟩ y').heap[g]? = some (.cells #[a', b', c', d', e', f', x', y'] t (0, 0)) := by
  have h0 : (w.setCell ⟨g, 0, none⟩ a').heap[g]? = some (.cells #[a', b, c, d, e, f, x, y] t (0, 0)) := blk_put hz 0 _ rfl
  have h1 : ((w.setCell ⟨g, 0, none⟩ a').setCell ⟨g, 1, none⟩ b').heap[g]? = some (.cells #[a', b', c, d, e, f, x, y] t (0, 0)) := blk_put h0 1 _ rfl
  have h2 : (((w.setCell ⟨g, 0, none⟩ a').setCell ⟨g, 1, none⟩ b').setCell ⟨g, 2, none⟩ c').heap[g]? = some (.cells #[a', b', c', d, e, f, x, y] t (0, 0)) := blk_put h1 2 _ rfl
  have h3 : ((((w.setCell ⟨g, 0, none⟩ a').setCell ⟨g, 1, none⟩ b').setCell ⟨g, 2, none⟩ c').setCell ⟨g, 3, none⟩ d').heap[g]? = some (.cells #[a', b', c', d', e, f, x, y] t (0, 0)) := blk_put h2 3 _ rfl
  have h4 : (((((w.setCell ⟨g, 0, none⟩ a').setCell ⟨g, 1, none⟩ b').setCell ⟨g, 2, none⟩ c').setCell ⟨g, 3, none⟩ d').setCell ⟨g, 4, none⟩ e').heap[g]? = some (.cells #[a', b', c', d', e', f, x, y] t (0, 0)) := blk_put h3 4 _ rfl
  have h5 : ((((((w.setCell ⟨g, 0, none⟩ a').setCell ⟨g, 1, none⟩ b').setCell ⟨g, 2, none⟩ c').setCell ⟨g, 3, none⟩ d').setCell ⟨g, 4, none⟩ e').setCell ⟨g, 5, none⟩ f').heap[g]? = some (.cells #[a', b', c', d', e', f', x, y] t (0, 0)) := blk_put h4 5 _ rfl
  have h6 : (((((((w.setCell ⟨g, 0, none⟩ a').setCell ⟨g, 1, none⟩ b').setCell ⟨g, 2, none⟩ c').setCell ⟨g, 3, none⟩ d').setCell ⟨g, 4, none⟩ e').setCell ⟨g, 5, none⟩ f').setCell ⟨g, 6, none⟩ x').heap[g]? = some (.cells #[a', b', c', d', e', f', x', y] t (0, 0)) := blk_put h5 6 _ rfl
  have h7 : ((((((((w.setCell ⟨g, 0, none⟩ a').setCell ⟨g, 1, none⟩ b').setCell ⟨g, 2, none⟩ c').setCell ⟨g, 3, none⟩ d').setCell ⟨g, 4, none⟩ e').setCell ⟨g, 5, none⟩ f').setCell ⟨g, 6, none⟩ x').setCell ⟨g, 7, none⟩ y').heap[g]? = some (.cells #[a', b', c', d', e', f', x', y'] t (0, 0)) := blk_put h6 7 _ rfl
  exact h7
theorem set8_R {α : Type} {dk : Kd α} {ty base : Nat} {ok : Nat → Prop} {v : Value} {xs : List α} {w : World} {g : Nat} {a' b' c' d' e' f' x' y' : Value} (h : dk.R ty w base ok v xs) (hok : ∀ k, ok k → k ≠ g) :
    dk.R ty ((((((((w.setCell ⟨g, 0, none⟩ a').setCell ⟨g, 1, none⟩ b').setCell ⟨g, 2, none⟩ c').setCell ⟨g, 3, none⟩ d').setCell ⟨g, 4, none⟩ e').setCell ⟨g, 5, none⟩ f').setCell ⟨g, 6, none⟩ x').setCell ⟨g, 7, none⟩ y') base ok v xs := by
  have h0 := Kd.R_far (p := ⟨g, 0, none⟩) h hok a'
  have h1 := Kd.R_far (p := ⟨g, 1, none⟩) h0 hok b'
  have h2 := Kd.R_far (p := ⟨g, 2, none⟩) h1 hok c'
  have h3 := Kd.R_far (p := ⟨g, 3, none⟩) h2 hok d'
  have h4 := Kd.R_far (p := ⟨g, 4, none⟩) h3 hok e'
  have h5 := Kd.R_far (p := ⟨g, 5, none⟩) h4 hok f'
  have h6 := Kd.R_far (p := ⟨g, 6, none⟩) h5 hok x'
  have h7 := Kd.R_far (p := ⟨g, 7, none⟩) h6 hok y'
  exact h7
theorem set8_B {w0 w : World} {g : Nat} {a' b' c' d' e' f' x' y' : Value} (h : Below w0.heap.size w0 w) (hg : w0.heap.size ≤ g) :
    Below w0.heap.size w0 ((((((((w.setCell ⟨g, 0, none⟩ a').setCell ⟨g, 1, none⟩ b').setCell ⟨g, 2, none⟩ c').setCell ⟨g, 3, none⟩ d').setCell ⟨g, 4, none⟩ e').setCell ⟨g, 5, none⟩ f').setCell ⟨g, 6, none⟩ x').setCell ⟨g, 7, none⟩ y') := by
  have h0 := below_set (g := g) (j := 0) (v := a') h hg
  have h1 := below_set (g := g) (j := 1) (v := b') h0 hg
  have h2 := below_set (g := g) (j := 2) (v := c') h1 hg
  have h3 := below_set (g := g) (j := 3) (v := d') h2 hg
  have h4 := below_set (g := g) (j := 4) (v := e') h3 hg
  have h5 := below_set (g := g) (j := 5) (v := f') h4 hg
  have h6 := below_set (g := g) (j := 6) (v := x') h5 hg
  have h7 := below_set (g := g) (j := 7) (v := y') h6 hg
  exact h7
set_option maxHeartbeats 4000000 in
set_option maxRecDepth 100000 in
theorem rd_int32 (A : Option Addr) (c : Nat) (l r o : List Int) (n : Int) (w : World) (hC : Kd.C (Kd.int .u8) w A l.length l) (hc : l.length ≤ c) (hf : bsoncore_ReadInt32.f l = some (n, r, true)) (ho : impl_own.f r = some o) :
    Calls Tryz.prog 34 #[.int .i64 16, .slice A l.length c] w fun e w' => ∃ v, e = .returned (.tuple #[.agg #[.int .i64 16, .string ⟨#[]⟩, .string ⟨#[]⟩, .int .i64 (wrap64 n), .int .u64 0, .int .u64 0, .slice none 0 0, .slice none 0 0], v, .bool true]) ∧ Kd.R (Kd.int .u8) 5 w' w.heap.size (fun _ => True) v o ∧ Below w.heap.size w w' := by
  have hV : ∀ o : Obj, Kd.V (Kd.int .u8) 5 (w.alloc o) (w.alloc o).heap.size (fun k => k < w.heap.size) (.slice A l.length c) l := fun o => Kd.V_mk hc (Kd.F_mono (Kd.F_below (Kd.F_bound (Kd.C_F (Kd.heap_int _) hC)) (below_alloc (Below.refl _ _) o)) (fun k hk => hk.2))
  have hB0 : ∀ o : Obj, Below w.heap.size w (w.alloc o) := fun o => below_alloc (Below.refl _ _) o
  go_enter Tryz.func34, Tryz.ntmps34
  go_wp2_with (go_at_call 85; (refine (bsoncore_ReadInt32.calls (fun k => k < w.heap.size) A c l n r true _ (hV _) hf).mono ?_; rintro e w1 ⟨v1, rfl, hv1, hb1⟩; obtain ⟨A1, c1, hv⟩ := Kd.V_slice hv1; subst hv; have hz := blk_below (blk_new w _) hb1; have hB1 := below_step (hB0 _) hb1; have d3 := (blk_cell hz 3).trans rfl; have f3 := blk_frozen hz 3))
  have hz3 := blk_put hz 3 (.int .i64 (wrap64 n)) rfl
  have hB3 := below_set (j := 3) (v := .int .i64 (wrap64 n)) hB1 (Nat.le_refl w.heap.size)
  have hv3 := Kd.V_far (p := ⟨w.heap.size, 3, none⟩) hv1 (fun k hk => by simp at hk ⊢; omega) (.int .i64 (wrap64 n))
  obtain ⟨_, hc3, hC3⟩ := Kd.V_reads' hv3
  generalize w1.setCell ⟨w.heap.size, 3, none⟩ (.int .i64 (wrap64 n)) = w3 at hz3 hB3 hv3 hC3 ⊢
  have y0 := (blk_cell hz3 0).trans rfl; have y1 := (blk_cell hz3 1).trans rfl; have y2 := (blk_cell hz3 2).trans rfl; have y3 := (blk_cell hz3 3).trans rfl; have y4 := (blk_cell hz3 4).trans rfl; have y5 := (blk_cell hz3 5).trans rfl; have y6 := (blk_cell hz3 6).trans rfl; have y7 := (blk_cell hz3 7).trans rfl
  clear hz d3 f3 hv1 hb1 hB1
  go_region_with (go_at_call 53; refine (impl_own.calls A1 c1 r o _ (Kd.C_below hC3 (below_drew (Below.refl _ _))) hc3 ho).mono ?_; rintro e w4 ⟨v4, rfl, hR, hb4⟩; have hz4 := blk_below (w := w3.drew) hz3 hb4; have hB4 := below_step (below_drew hB3) hb4; obtain ⟨A4, c4, hv⟩ := Kd.R_slice hR; subst hv; clear y0 y1 y2 y3 y4 y5 y6 y7; have y0 := (blk_cell hz4 0).trans rfl; have y1 := (blk_cell hz4 1).trans rfl; have y2 := (blk_cell hz4 2).trans rfl; have y3 := (blk_cell hz4 3).trans rfl; have y4 := (blk_cell hz4 4).trans rfl; have y5 := (blk_cell hz4 5).trans rfl; have y6 := (blk_cell hz4 6).trans rfl; have y7 := (blk_cell hz4 7).trans rfl; have f0 := blk_frozen hz4 0; have f1 := blk_frozen hz4 1; have f2 := blk_frozen hz4 2; have f3 := blk_frozen hz4 3; have f4 := blk_frozen hz4 4; have f5 := blk_frozen hz4 5; have f6 := blk_frozen hz4 6; have f7 := blk_frozen hz4 7)
  all_goals
    go_wp2
    refine bodyPost_ret (results_ctt rfl _ _ w.heap.size 44 _ (0, 0) _ rfl (set8 hz4) Tryz.underlying44 rfl (by kernel_rfl)) rfl ?_
    have hlt : w.heap.size < w3.heap.size := (Array.getElem?_eq_some_iff.1 hz3).1
    exact ⟨_, rfl, Kd.R_mono (Kd.R_lower (set8_R (Kd.R_bound hR) (fun k hk => by have h5 := hk.2.1; have h6 : w3.heap.size ≤ k := h5; omega)) (Nat.le_of_lt hlt)) (fun _ _ => trivial), set8_B hB4 (Nat.le_refl _)⟩
def impl_Read.f (a0 : Int) (l1 : List Int) : Option (Int × ByteArray × ByteArray × Int × Int × Int × List Int × List S95 × List Int × Bool) := if a0 = 16 then (bsoncore_ReadInt32.f l1).bind fun x => (impl_own.f x.2.1).bind fun o => (if x.2.2 = true then some (16, ⟨#[]⟩, ⟨#[]⟩, wrap64 x.1, 0, 0, [], [], o, true) else none) else none
theorem impl_Read.calls (a0 : Int) (A1 : Option Addr) (c1 : Nat) (l1 : List Int) (r1 : Int) (r2 r3 : ByteArray) (r4 r5 r6 : Int) (r7 : List Int) (r8 : List S95) (r9 : List Int) (r10 : Bool) (w : World) (hr1 : Kd.C (Kd.int .u8) w A1 l1.length l1) (hc1 : l1.length ≤ c1) (h : impl_Read.f a0 l1 = some (r1, r2, r3, r4, r5, r6, r7, r8, r9, r10)) :
    Calls Tryz.prog 34 #[.int .i64 a0, .slice A1 l1.length c1] w fun e w' => ∃ v1_ v2_ v3_ : Value, e = .returned (.tuple #[.agg #[.int .i64 r1, .string r2, .string r3, .int .i64 r4, .int .u64 r5, .int .u64 r6, v1_, v2_], v3_, .bool r10]) ∧ Kd.R (Kd.int .u8) 5 w' w.heap.size (fun k_ => some k_ ≠ (v3_ : Value).ownBlock) v1_ r7 ∧ Kd.R k95 95 w' w.heap.size (fun k_ => some k_ ≠ (v1_ : Value).ownBlock ∧ some k_ ≠ (v3_ : Value).ownBlock) v2_ r8 ∧ Kd.R (Kd.int .u8) 5 w' w.heap.size (fun k_ => some k_ ≠ (v1_ : Value).ownBlock) v3_ r9 ∧ Below w.heap.size w w' := by
  unfold impl_Read.f at h
  split at h
  next ha =>
    subst ha
    obtain ⟨⟨n, r, ok⟩, hf, h⟩ := Option.bind_eq_some_iff.1 h
    obtain ⟨o, ho, h⟩ := Option.bind_eq_some_iff.1 h
    cases ok with
    | false => cases h
    | true =>
      simp only [if_true, Option.some.injEq, Prod.mk.injEq] at h
      obtain ⟨rfl, rfl, rfl, rfl, rfl, rfl, rfl, rfl, rfl, rfl⟩ := h
      refine (rd_int32 A1 c1 l1 r o n w hr1 hc1 hf ho).mono ?_
      rintro e w' ⟨v, rfl, hR, hB⟩
      exact ⟨_, _, v, rfl, Kd.R_nil _ _ _ _ _, Kd.R_nil _ _ _ _ _, Kd.R_mono hR (fun _ _ => by simp [Value.ownBlock]), hB⟩
  next => cases h

end Go.Proofs.YtanecebppagakaaGreatDoor.PAh
