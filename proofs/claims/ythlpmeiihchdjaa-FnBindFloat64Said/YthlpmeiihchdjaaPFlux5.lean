/- Printed by a program of this session (a turned copy of the printer of the kit): contracts of functions of the translation, each with the Lean function that it computes. Conditions: as each theorem states them. -/
import Derived.Test.YthlpmeiihchdjaaPFlux0
import Derived.Test.YthlpmeiihchdjaaPFlux4
namespace Go.Proofs.Ythlpmeiihchdjaa.PFlu
open Go.RowKit Go.Proofs.YthlpmeiihchdjaaW.PrintWords Go.Proofs.YthlpmeiihchdjaaW.PrintLast Go.Proofs.YthlpmeiihchdjaaW.PrintMore
attribute [local go_sem] max2_int min2_int max_two min_two max_three min_three max_four min_four   -- for this text's walks alone
set_option linter.unusedVariables false
set_option linter.unusedSimpArgs false

/-! ### binaryutil_ReadI64: function 87 -/
def binaryutil_ReadI64.f (l0 : List Int) : Option (Int × List Int × Bool) := if (l0.length : Int) < 8 then (some (0, l0, false)) else (if 7 < (l0.length : Int) then (if 0 < (l0.length : Int) then (if 1 < (l0.length : Int) then (if 2 < (l0.length : Int) then (if 3 < (l0.length : Int) then (if 4 < (l0.length : Int) then (if 5 < (l0.length : Int) then (if 6 < (l0.length : Int) then (if 8 ≤ (l0.length : Int) then (some (Go.bits .or .i64 (Go.bits .or .i64 (Go.bits .or .i64 (Go.bits .or .i64 (Go.bits .or .i64 (Go.bits .or .i64 (Go.bits .or .i64 (wrap64 (rd l0 0)) (wrap64 ((wrap64 (rd l0 1)) * 256))) (wrap64 ((wrap64 (rd l0 2)) * 65536))) (wrap64 ((wrap64 (rd l0 3)) * 16777216))) (wrap64 ((wrap64 (rd l0 4)) * 4294967296))) (wrap64 ((wrap64 (rd l0 5)) * 1099511627776))) (wrap64 ((wrap64 (rd l0 6)) * 281474976710656))) (wrap64 ((wrap64 (rd l0 7)) * 72057594037927936)), (l0.drop 8), true)) else (none)) else (none)) else (none)) else (none)) else (none)) else (none)) else (none)) else (none)) else (none))
set_option maxHeartbeats 8000000 in
set_option maxRecDepth 100000 in
theorem binaryutil_ReadI64.calls (P0_ : Nat → Prop) (A0 : Option Addr) (c0 : Nat) (l0 : List Int) (r1 : Int) (r2 : List Int) (r3 : Bool) (w : World) (hs0 : Kd.V (Kd.int .u8) 5 w w.heap.size (fun k_ => P0_ k_) (.slice A0 l0.length c0) l0) (h : binaryutil_ReadI64.f l0 = some (r1, r2, r3)) :
    Calls Try.prog 87 #[.slice A0 l0.length c0] w fun e w' => ∃ v1_ : Value, e = .returned (.tuple #[.int .i64 r1, v1_, .bool r3]) ∧ Kd.V (Kd.int .u8) 5 w' w.heap.size (fun k_ => (P0_ k_ ∨ w.heap.size ≤ k_)) v1_ r2 ∧ Below w.heap.size w w' := by
  have HO0 := Aside0.mk (show Kd.V (Kd.int .u8) 5 w w.heap.size (fun k_ => (P0_ k_ ∨ w.heap.size ≤ k_)) (.slice A0 l0.length c0) l0 from Kd.V_mono hs0 (fun k_ hk => .inl hk))
  have HB := Aside0.mk (Below.refl w.heap.size w)
  have H : (if (l0.length : Int) < 8 then (some (0, l0, false)) else (if 7 < (l0.length : Int) then (if 0 < (l0.length : Int) then (if 1 < (l0.length : Int) then (if 2 < (l0.length : Int) then (if 3 < (l0.length : Int) then (if 4 < (l0.length : Int) then (if 5 < (l0.length : Int) then (if 6 < (l0.length : Int) then (if 8 ≤ (l0.length : Int) then (some (Go.bits .or .i64 (Go.bits .or .i64 (Go.bits .or .i64 (Go.bits .or .i64 (Go.bits .or .i64 (Go.bits .or .i64 (Go.bits .or .i64 (wrap64 (rd l0 0)) (wrap64 ((wrap64 (rd l0 1)) * 256))) (wrap64 ((wrap64 (rd l0 2)) * 65536))) (wrap64 ((wrap64 (rd l0 3)) * 16777216))) (wrap64 ((wrap64 (rd l0 4)) * 4294967296))) (wrap64 ((wrap64 (rd l0 5)) * 1099511627776))) (wrap64 ((wrap64 (rd l0 6)) * 281474976710656))) (wrap64 ((wrap64 (rd l0 7)) * 72057594037927936)), (l0.drop 8), true)) else (none)) else (none)) else (none)) else (none)) else (none)) else (none)) else (none)) else (none)) else (none))) = some (r1, r2, r3) := h
  clear h
  by_cases c2 : (l0.length : Int) < 8
  · rw [if_pos c2] at H
    have c2b0 : decide ((l0.length : Int) < 8) = true := decide_eq_true c2
    have c2b1 : decide (l0.length < 8) = true := decide_eq_true (by omega)
    clear c2
    as_aux_lemma =>
      simp only [Option.some.injEq, Prod.mk.injEq] at H
      obtain ⟨rfl, rfl, rfl⟩ := H
      go_enter Try.func87, Try.ntmps87
      go_wp2
      repeat (go_quiet (fail); try go_wp2)
      go_ret3
      exact ⟨_, by first | rfl | (simp [errW_none, errW_some] <;> rfl) | (simp [*, errW_none, errW_some] <;> rfl), by (with_reducible repeat (first | apply Kd.V_alloc | apply Kd.V_drewN | apply Kd.V_drew)); exact HO0.out, by repeat (first | (with_reducible first | exact HB.out | apply below_alloc | apply pw_below_drewN | apply below_drew1) | exact HB.out)⟩
  · rw [if_neg c2] at H
    have c2b0 : decide ((l0.length : Int) < 8) = false := decide_eq_false c2
    have c2b1 : decide (l0.length < 8) = false := decide_eq_false (by omega)
    clear c2
    by_cases c3 : 7 < (l0.length : Int)
    · rw [if_pos c3] at H
      have c3b0 : decide (7 < (l0.length : Int)) = true := decide_eq_true c3
      have c3b1 : decide (7 < l0.length) = true := decide_eq_true (by omega)
      clear c3
      by_cases c4 : 0 < (l0.length : Int)
      · rw [if_pos c4] at H
        have c4b0 : decide (0 < (l0.length : Int)) = true := decide_eq_true c4
        have c4b1 : decide (0 < l0.length) = true := decide_eq_true (by omega)
        clear c4
        by_cases c5 : 1 < (l0.length : Int)
        · rw [if_pos c5] at H
          have c5b0 : decide (1 < (l0.length : Int)) = true := decide_eq_true c5
          have c5b1 : decide (1 < l0.length) = true := decide_eq_true (by omega)
          clear c5
          by_cases c6 : 2 < (l0.length : Int)
          · rw [if_pos c6] at H
            have c6b0 : decide (2 < (l0.length : Int)) = true := decide_eq_true c6
            have c6b1 : decide (2 < l0.length) = true := decide_eq_true (by omega)
            clear c6
            by_cases c7 : 3 < (l0.length : Int)
            · rw [if_pos c7] at H
              have c7b0 : decide (3 < (l0.length : Int)) = true := decide_eq_true c7
              have c7b1 : decide (3 < l0.length) = true := decide_eq_true (by omega)
              clear c7
              by_cases c8 : 4 < (l0.length : Int)
              · rw [if_pos c8] at H
                have c8b0 : decide (4 < (l0.length : Int)) = true := decide_eq_true c8
                have c8b1 : decide (4 < l0.length) = true := decide_eq_true (by omega)
                clear c8
                by_cases c9 : 5 < (l0.length : Int)
                · rw [if_pos c9] at H
                  have c9b0 : decide (5 < (l0.length : Int)) = true := decide_eq_true c9
                  have c9b1 : decide (5 < l0.length) = true := decide_eq_true (by omega)
                  clear c9
                  by_cases c10 : 6 < (l0.length : Int)
                  · rw [if_pos c10] at H
                    have c10b0 : decide (6 < (l0.length : Int)) = true := decide_eq_true c10
                    have c10b1 : decide (6 < l0.length) = true := decide_eq_true (by omega)
                    clear c10
                    by_cases c11 : 8 ≤ (l0.length : Int)
                    · rw [if_pos c11] at H
                      have c11b0 := eq_true c11
                      have c11b1 : decide (8 ≤ (l0.length : Int)) = true := decide_eq_true c11
                      clear c11
                      obtain ⟨y151, hy151⟩ : ∃ y_ : List Int, y_ = (l0.drop 8) := ⟨_, rfl⟩
                      replace H : (some (Go.bits .or .i64 (Go.bits .or .i64 (Go.bits .or .i64 (Go.bits .or .i64 (Go.bits .or .i64 (Go.bits .or .i64 (Go.bits .or .i64 (wrap64 (rd l0 0)) (wrap64 ((wrap64 (rd l0 1)) * 256))) (wrap64 ((wrap64 (rd l0 2)) * 65536))) (wrap64 ((wrap64 (rd l0 3)) * 16777216))) (wrap64 ((wrap64 (rd l0 4)) * 4294967296))) (wrap64 ((wrap64 (rd l0 5)) * 1099511627776))) (wrap64 ((wrap64 (rd l0 6)) * 281474976710656))) (wrap64 ((wrap64 (rd l0 7)) * 72057594037927936)), y151, true)) = some (r1, r2, r3) := by first | (rw [hy151]; with_reducible exact H) | (have H2_ := (Option.bind_some _ _).symm.trans H; rw [hy151]; with_reducible exact H2_) | (have H2_ := (Option.bind_some _ _).symm.trans H; with_reducible exact H2_) | with_reducible exact H | (rw [hy151]; exact H) | exact H
                      have Ny151 := Aside0.mk hy151
                      clear hy151
                      as_aux_lemma =>
                        simp only [Option.some.injEq, Prod.mk.injEq] at H
                        obtain ⟨rfl, rfl, rfl⟩ := H
                        have p142 : 0 ≤ (7 : Int) := (by omega)
                        have q142 : 7 < (l0.length : Int) := of_decide_eq_true (by first | (with_reducible assumption) | assumption)
                        obtain ⟨ad142, e142, hx142_0⟩ := Kd.at_int (Kd.V_reads' HO0.out).2.2 7 p142 q142
                        cases e142
                        (try simp only [show (7 : Int).toNat = 7 from rfl, Nat.reduceMul, Nat.reduceEqDiff, Go.Addr.add, ↓reduceIte] at hx142_0)
                        have qi142 : (7 < l0.length) = True := eq_true (by omega)
                        (try rw [show ((7 : Int)).toNat = 7 from rfl] at hx142_0)
                        replace p142 := eq_true p142
                        replace q142 := eq_true q142
                        have p143 : 0 ≤ (0 : Int) := (by omega)
                        have q143 : 0 < (l0.length : Int) := of_decide_eq_true (by first | (with_reducible assumption) | assumption)
                        obtain ⟨ad143, e143, hx143_0⟩ := Kd.at_int (Kd.V_reads' HO0.out).2.2 0 p143 q143
                        obtain rfl : ad142 = ad143 := (by injection e143)
                        have qi143 : (0 < l0.length) = True := eq_true (by omega)
                        (try rw [show ((0 : Int)).toNat = 0 from rfl] at hx143_0)
                        (try rw [Addr.add_zero'] at hx143_0)
                        replace p143 := eq_true p143
                        replace q143 := eq_true q143
                        have p144 : 0 ≤ (1 : Int) := (by omega)
                        have q144 : 1 < (l0.length : Int) := of_decide_eq_true (by first | (with_reducible assumption) | assumption)
                        obtain ⟨ad144, e144, hx144_0⟩ := Kd.at_int (Kd.V_reads' HO0.out).2.2 1 p144 q144
                        obtain rfl : ad142 = ad144 := (by injection e144)
                        (try simp only [show (1 : Int).toNat = 1 from rfl, Nat.reduceMul, Nat.reduceEqDiff, Go.Addr.add, ↓reduceIte] at hx144_0)
                        have qi144 : (1 < l0.length) = True := eq_true (by omega)
                        (try rw [show ((1 : Int)).toNat = 1 from rfl] at hx144_0)
                        replace p144 := eq_true p144
                        replace q144 := eq_true q144
                        have p145 : 0 ≤ (2 : Int) := (by omega)
                        have q145 : 2 < (l0.length : Int) := of_decide_eq_true (by first | (with_reducible assumption) | assumption)
                        obtain ⟨ad145, e145, hx145_0⟩ := Kd.at_int (Kd.V_reads' HO0.out).2.2 2 p145 q145
                        obtain rfl : ad142 = ad145 := (by injection e145)
                        (try simp only [show (2 : Int).toNat = 2 from rfl, Nat.reduceMul, Nat.reduceEqDiff, Go.Addr.add, ↓reduceIte] at hx145_0)
                        have qi145 : (2 < l0.length) = True := eq_true (by omega)
                        (try rw [show ((2 : Int)).toNat = 2 from rfl] at hx145_0)
                        replace p145 := eq_true p145
                        replace q145 := eq_true q145
                        have p146 : 0 ≤ (3 : Int) := (by omega)
                        have q146 : 3 < (l0.length : Int) := of_decide_eq_true (by first | (with_reducible assumption) | assumption)
                        obtain ⟨ad146, e146, hx146_0⟩ := Kd.at_int (Kd.V_reads' HO0.out).2.2 3 p146 q146
                        obtain rfl : ad142 = ad146 := (by injection e146)
                        (try simp only [show (3 : Int).toNat = 3 from rfl, Nat.reduceMul, Nat.reduceEqDiff, Go.Addr.add, ↓reduceIte] at hx146_0)
                        have qi146 : (3 < l0.length) = True := eq_true (by omega)
                        (try rw [show ((3 : Int)).toNat = 3 from rfl] at hx146_0)
                        replace p146 := eq_true p146
                        replace q146 := eq_true q146
                        have p147 : 0 ≤ (4 : Int) := (by omega)
                        have q147 : 4 < (l0.length : Int) := of_decide_eq_true (by first | (with_reducible assumption) | assumption)
                        obtain ⟨ad147, e147, hx147_0⟩ := Kd.at_int (Kd.V_reads' HO0.out).2.2 4 p147 q147
                        obtain rfl : ad142 = ad147 := (by injection e147)
                        (try simp only [show (4 : Int).toNat = 4 from rfl, Nat.reduceMul, Nat.reduceEqDiff, Go.Addr.add, ↓reduceIte] at hx147_0)
                        have qi147 : (4 < l0.length) = True := eq_true (by omega)
                        (try rw [show ((4 : Int)).toNat = 4 from rfl] at hx147_0)
                        replace p147 := eq_true p147
                        replace q147 := eq_true q147
                        have p148 : 0 ≤ (5 : Int) := (by omega)
                        have q148 : 5 < (l0.length : Int) := of_decide_eq_true (by first | (with_reducible assumption) | assumption)
                        obtain ⟨ad148, e148, hx148_0⟩ := Kd.at_int (Kd.V_reads' HO0.out).2.2 5 p148 q148
                        obtain rfl : ad142 = ad148 := (by injection e148)
                        (try simp only [show (5 : Int).toNat = 5 from rfl, Nat.reduceMul, Nat.reduceEqDiff, Go.Addr.add, ↓reduceIte] at hx148_0)
                        have qi148 : (5 < l0.length) = True := eq_true (by omega)
                        (try rw [show ((5 : Int)).toNat = 5 from rfl] at hx148_0)
                        replace p148 := eq_true p148
                        replace q148 := eq_true q148
                        have p149 : 0 ≤ (6 : Int) := (by omega)
                        have q149 : 6 < (l0.length : Int) := of_decide_eq_true (by first | (with_reducible assumption) | assumption)
                        obtain ⟨ad149, e149, hx149_0⟩ := Kd.at_int (Kd.V_reads' HO0.out).2.2 6 p149 q149
                        obtain rfl : ad142 = ad149 := (by injection e149)
                        (try simp only [show (6 : Int).toNat = 6 from rfl, Nat.reduceMul, Nat.reduceEqDiff, Go.Addr.add, ↓reduceIte] at hx149_0)
                        have qi149 : (6 < l0.length) = True := eq_true (by omega)
                        (try rw [show ((6 : Int)).toNat = 6 from rfl] at hx149_0)
                        replace p149 := eq_true p149
                        replace q149 := eq_true q149
                        have p150 : 0 ≤ (7 : Int) := (by omega)
                        have q150 : 7 < (l0.length : Int) := of_decide_eq_true (by first | (with_reducible assumption) | assumption)
                        obtain ⟨ad150, e150, hx150_0⟩ := Kd.at_int (Kd.V_reads' HO0.out).2.2 7 p150 q150
                        obtain rfl : ad142 = ad150 := (by injection e150)
                        (try simp only [show (7 : Int).toNat = 7 from rfl, Nat.reduceMul, Nat.reduceEqDiff, Go.Addr.add, ↓reduceIte] at hx150_0)
                        have qi150 : (7 < l0.length) = True := eq_true (by omega)
                        (try rw [show ((7 : Int)).toNat = 7 from rfl] at hx150_0)
                        replace p150 := eq_true p150
                        replace q150 := eq_true q150
                        have q12 : (8 : Int) ≤ ((l0.length : Int) : Int) := of_decide_eq_true (by first | (with_reducible assumption) | assumption)
                        obtain ⟨i012, hi012, _, hsz12, _⟩ := info_parts info5
                        have hroom12 : l0.length ≤ c0 := (Kd.V_reads' HO0.out).2.1
                        have hC12 : Kd.F (Kd.int .u8) _ _ (some ad142) l0.length l0 := (Kd.V_at (base := w.heap.size) HO0.out).2.2
                        have hcut12 := cut_from (P := Try.prog) 24 5 .i64 Try.underlying24 hi012 1 hsz12 (some ad142) l0.length c0 8 (by omega) q12
                        have hr12 := Kd.F_cut (m := (8 : Int).toNat) (c := c0) hC12 (by omega) hroom12
                        obtain ⟨A12, hA12⟩ : ∃ A1, A1 = (if c0 = (8 : Int).toNat then (some ad142) else ((some ad142) : Option Addr).map (·.add ((8 : Int).toNat * 1))) := ⟨_, rfl⟩
                        obtain ⟨c12, hc12⟩ : ∃ c1, c1 = c0 - (8 : Int).toNat := ⟨_, rfl⟩
                        have hy12 : y151.length = l0.length - (8 : Int).toNat := (by rw [Ny151.out, List.length_drop] <;> omega)
                        rw [show (l0).drop (8 : Int).toNat = y151 from Ny151.out.symm] at hr12
                        replace hr12 : Kd.F (Kd.int .u8) _ _ A12 y151.length y151 := (by rw [hA12]; exact hr12)
                        rw [← hy12, ← hA12, ← hc12] at hcut12
                        have HO155 := Aside0.mk (show Kd.V (Kd.int .u8) 5 _ w.heap.size _ (.slice A12 y151.length c12) y151 from Kd.V_mk (by rw [hy12, hc12]; exact Nat.sub_le_sub_right hroom12 _) hr12)
                        have HC155 := Aside0.mk (show y151.length ≤ c12 from by rw [hy12, hc12]; exact Nat.sub_le_sub_right hroom12 _)
                        clear hr12 hC12 hroom12 hi012 hsz12 hc12
                        have KY12 := Aside0.mk hy12
                        have KA12 := Aside0.mk hA12
                        clear hy12 hA12
                        replace q12 := eq_true q12
                        go_enter Try.func87, Try.ntmps87
                        go_wp2
                        repeat (go_quiet (fail); try go_wp2)
                        go_ret3
                        exact ⟨_, by first | rfl | (simp [errW_none, errW_some] <;> rfl) | (simp [*, errW_none, errW_some] <;> rfl), by (with_reducible repeat (first | apply Kd.V_alloc | apply Kd.V_drewN | apply Kd.V_drew)); exact HO155.out, by repeat (first | (with_reducible first | exact HB.out | apply below_alloc | apply pw_below_drewN | apply below_drew1) | exact HB.out)⟩
                    · rw [if_neg c11] at H
                      exact absurd H (by simp)
                  · rw [if_neg c10] at H
                    exact absurd H (by simp)
                · rw [if_neg c9] at H
                  exact absurd H (by simp)
              · rw [if_neg c8] at H
                exact absurd H (by simp)
            · rw [if_neg c7] at H
              exact absurd H (by simp)
          · rw [if_neg c6] at H
            exact absurd H (by simp)
        · rw [if_neg c5] at H
          exact absurd H (by simp)
      · rw [if_neg c4] at H
        exact absurd H (by simp)
    · rw [if_neg c3] at H
      exact absurd H (by simp)

/-! ### bsoncore_ReadInt64: function 80 -/
def bsoncore_ReadInt64.f (l0 : List Int) : Option (Int × List Int × Bool) := (binaryutil_ReadI64.f l0).bind fun bt156 => (some (bt156.1, bt156.2.1, bt156.2.2))
set_option maxHeartbeats 8000000 in
set_option maxRecDepth 100000 in
theorem bsoncore_ReadInt64.calls (P0_ : Nat → Prop) (A0 : Option Addr) (c0 : Nat) (l0 : List Int) (r1 : Int) (r2 : List Int) (r3 : Bool) (w : World) (hs0 : Kd.V (Kd.int .u8) 5 w w.heap.size (fun k_ => P0_ k_) (.slice A0 l0.length c0) l0) (h : bsoncore_ReadInt64.f l0 = some (r1, r2, r3)) :
    Calls Try.prog 80 #[.slice A0 l0.length c0] w fun e w' => ∃ v1_ : Value, e = .returned (.tuple #[.int .i64 r1, v1_, .bool r3]) ∧ Kd.V (Kd.int .u8) 5 w' w.heap.size (fun k_ => (P0_ k_ ∨ w.heap.size ≤ k_)) v1_ r2 ∧ Below w.heap.size w w' := by
  have HO0 := Aside0.mk (show Kd.V (Kd.int .u8) 5 w w.heap.size (fun k_ => (P0_ k_ ∨ w.heap.size ≤ k_)) (.slice A0 l0.length c0) l0 from Kd.V_mono hs0 (fun k_ hk => .inl hk))
  have HB := Aside0.mk (Below.refl w.heap.size w)
  have H : ((binaryutil_ReadI64.f l0).bind fun bt156 => (some (bt156.1, bt156.2.1, bt156.2.2))) = some (r1, r2, r3) := h
  clear h
  replace H := Option.bind_eq_some_iff.mp H
  obtain ⟨⟨t156, t157, t160⟩, A20, H⟩ := H
  replace H : (some (t156, t157, t160)) = some (r1, r2, r3) := H
  have A2 := Aside0.mk A20
  clear A20
  as_aux_lemma =>
    simp only [Option.some.injEq, Prod.mk.injEq] at H
    obtain ⟨rfl, rfl, rfl⟩ := H
    go_enter Try.func80, Try.ntmps80
    go_wp2_with (first | ((with_reducible refine gate_callee (f := 87) rfl ?_); refine goesL_ (some 6) rfl rfl Try.func87 (by kernel_rfl) rfl #[.slice A0 l0.length c0] rfl (by (try simp only [List.map_toArray, List.map_cons, List.map_nil]); first | done | rfl | (simp only [List.length_drop, List.length_take]; rfl)) ?_; (with_reducible refine (binaryutil_ReadI64.calls (fun k_ => (P0_ k_ ∨ w.heap.size ≤ k_)) _ _ l0 t156 t157 t160 _ ?side1 A2.out).mono ?_); (case side1 => exact HO0.out); rintro e w3 ⟨v158, rfl, ho0, hb⟩; refine ⟨_, rfl, ?_⟩; have n0_ := Aside0.mk (Kd.V_below (by (with_reducible repeat (first | apply Kd.V_alloc | apply Kd.V_drewN | apply Kd.V_drew)); exact HO0.out) hb); have n1_ := Aside0.mk (Kd.V_lower (Kd.V_mono (ok' := fun k_ => (P0_ k_ ∨ w.heap.size ≤ k_)) ho0 (fun k_ hk_ => Or.elim hk_ (fun hs_ => hs_) (fun hn_ => (.inr (Nat.le_trans (below_size (by repeat (first | (with_reducible first | exact HB.out | apply below_alloc | apply pw_below_drewN | apply below_drew1) | exact HB.out))) hn_))))) (below_size (by repeat (first | (with_reducible first | exact HB.out | apply below_alloc | apply pw_below_drewN | apply below_drew1) | exact HB.out)))); have n2_ := Aside0.mk (below_step (by repeat (first | (with_reducible first | exact HB.out | apply below_alloc | apply pw_below_drewN | apply below_drew1) | exact HB.out)) hb); clear HO0; clear HB; have HO0 := n0_; have HO159 := n1_; have HB := n2_; clear n0_ n1_ n2_; (try clear hb); (try clear hb2); (try clear hk); (try clear hi); (try clear ho0)))
    go_ret3
    exact ⟨_, by first | rfl | (simp [errW_none, errW_some] <;> rfl) | (simp [*, errW_none, errW_some] <;> rfl), by (with_reducible repeat (first | apply Kd.V_alloc | apply Kd.V_drewN | apply Kd.V_drew)); exact HO159.out, by repeat (first | (with_reducible first | exact HB.out | apply below_alloc | apply pw_below_drewN | apply below_drew1) | exact HB.out)⟩

-- NOT PRINTED: function 67 (bsoncore_Value_AsFloat64OK)

-- NOT PRINTED: function 55 (bson_RawValue_AsFloat64OK)

-- NOT PRINTED: function 56 (math_Float64bits)

/-! ### impl_RawAsFloat64: function 33 -/
theorem frombits_run (n : Int) (w : World) : Sem.run Try.prog (callFunc 85 #[.int .u64 n]) w = .ok (.value (.float .f64 n.toNat)) w := by
  rw [run_callFunc_extern Try.func85 (by kernel_rfl) (by kernel_rfl) (by kernel_rfl) (e := Go.Extern.MathFloatBits.float64frombits) (by kernel_rfl)]
  rfl
theorem bits_run (n : Nat) (w : World) : Sem.run Try.prog (callFunc 56 #[.float .f64 n]) w = .ok (.value (.int .u64 n)) w := by
  rw [run_callFunc_extern Try.func56 (by kernel_rfl) (by kernel_rfl) (by kernel_rfl) (e := Go.Extern.MathFloatBits.float64bits) (by kernel_rfl)]
  rfl
set_option maxRecDepth 100000 in
theorem ru64_short (A : Option Addr) (n c : Nat) (w : World) (hn : n < 8) : Calls Try.prog 84 #[.slice A n c] w fun e w' => e = .returned (.tuple #[.int .u64 0, .slice A n c, .bool false]) ∧ Below w.heap.size w w' := by
  have hd : decide ((n : Int) < 8) = true := decide_eq_true (by omega)
  have hd2 : decide (n < 8) = true := decide_eq_true hn
  go_enter Try.func84, Try.ntmps84
  go_wp2
  go_ret3
  exact ⟨rfl, Below.refl _ _⟩
theorem le_at {w : World} {A : Option Addr} {l : List Int} (hC : Kd.C (Kd.int .u8) w A l.length l) (h8 : 8 ≤ l.length) : ∃ a, A = some a ∧ ∀ i, i < (l.take 8).length → w.cell? (a.add i) = some (.int .u8 ((l.take 8).getD i 0)) := by
  obtain ⟨a, hA, _⟩ := Kd.at_int hC 0 (by omega) (by omega)
  refine ⟨a, hA, fun i hi => ?_⟩
  have hi8 : i < 8 := by simp only [List.length_take] at hi; omega
  obtain ⟨a', hA', hx⟩ := Kd.at_int hC (i : Int) (by omega) (by omega)
  rw [hA] at hA'
  cases hA'
  rw [Int.toNat_natCast] at hx
  rw [hx]
  simp [rd, rdOf, List.getD_eq_getElem?_getD, List.getElem?_take, hi8]
set_option maxRecDepth 100000 in
theorem ru64_long (A : Option Addr) (c : Nat) (l : List Int) (w : World) (hC : Kd.C (Kd.int .u8) w A l.length l) (hc : l.length ≤ c) (h8 : 8 ≤ l.length) (hw : ∀ z ∈ l.take 8, (Lit.int .u8 z).wf = true) :
    Calls Try.prog 84 #[.slice A l.length c] w fun e w' => ∃ v, e = .returned (.tuple #[.int .u64 (Lib.leZ (l.take 8)), v, .bool true]) ∧ Below w.heap.size w w' := by
  obtain ⟨a, rfl, hcell⟩ := le_at hC h8
  have hd : decide ((l.length : Int) < 8) = false := decide_eq_false (by omega)
  have hd2 : decide (l.length < 8) = false := decide_eq_false (by omega)
  have hl8 : (l.take 8).length = 8 := by simp only [List.length_take]; omega
  have ht : (l.take 8).take 8 = l.take 8 := by simp [List.take_take]
  obtain ⟨i0, hi0, hz0⟩ := Option.map_eq_some_iff.1 info5
  simp only [Prod.mk.injEq] at hz0
  have hcut := cut_from (P := Try.prog) 24 5 .i64 Try.underlying24 hi0 1 hz0.2.1 (some a) l.length c 8 (by omega) (by omega)
  obtain ⟨A8, hA8⟩ : ∃ A1, A1 = (if c = (8 : Int).toNat then (some a) else ((some a) : Option Addr).map (·.add ((8 : Int).toNat * 1))) := ⟨_, rfl⟩
  rw [← hA8] at hcut
  clear hA8
  go_enter Try.func84, Try.ntmps84
  go_wp2
  refine start_ (n := 8) (S := fun _ => True) (ds := []) #[false, false, false, false, false, false, false, false] (by kernel_rfl) rfl rfl trivial (fun hHeld => ?_)
  refine take_ (i := 0) (N := some 9) (v := ?_) (a' := ?_) #[true, false, false, false, false, false, false, false] rfl rfl (by kernel_rfl) (fun _ _ _ h => h) (Or.inl ⟨by rfl, ?_⟩) hHeld ?_ ?_
  rotate_left
  · rintro w' _
    go_simp
    with_reducible rfl
  rotate_left
  · simp only [Act.put, List.setIfInBounds_toArray, List.set_cons_zero, List.set_cons_succ, i64_w, i32_w]
    rfl
  refine pure_ (i := 1) (N := some 10) (v := ?_) (a' := ?_) #[true, true, false, false, false, false, false, false] rfl rfl (by kernel_rfl) (fun _ _ _ h => h) (Or.inl ⟨by rfl, ?_⟩) ?_ ?_
  rotate_left
  · intro w'
    go_simp
    with_reducible rfl
  rotate_left
  · simp only [Act.put, List.setIfInBounds_toArray, List.set_cons_zero, List.set_cons_succ, i64_w, i32_w]
    rfl
  refine pure_ (i := 3) (N := some 12) (v := ?_) (a' := ?_) #[true, true, false, true, false, false, false, false] rfl rfl (by kernel_rfl) (fun _ _ _ h => h) (Or.inl ⟨by rfl, ?_⟩) ?_ ?_
  rotate_left
  · intro w'
    go_simp
    with_reducible rfl
  rotate_left
  · simp only [Act.put, List.setIfInBounds_toArray, List.set_cons_zero, List.set_cons_succ, i64_w, i32_w]
    rfl
  refine pure_ (i := 4) (N := some 13) (v := .slice A8 (l.length - (8 : Int).toNat) (c - (8 : Int).toNat)) (a' := ?_) #[true, true, false, true, true, false, false, false] rfl rfl (by kernel_rfl) (fun _ _ _ h => h) (Or.inl ⟨by rfl, ?_⟩) ?_ ?_
  · intro w'
    simp [execOp, Act.eval, Sem.run_bind]
    have hx : (Try.prog).underlying 24 = some (.slice ((Try.prog).elem 24)) := by kernel_rfl
    rw [(run_sliceAt_slice (P := Try.prog) (w := w') 24 (.slice (some a) l.length c) (some (.int .i64 8)) none none hx).trans (hcut w')]
    rfl
  rotate_left
  · simp only [Act.put, List.setIfInBounds_toArray, List.set_cons_zero, List.set_cons_succ, i64_w, i32_w]
    rfl
  refine one_ (i := 2) (N := some 11) #[true, true, true, true, true, false, false, false] rfl rfl (by kernel_rfl) (by decide) (fun K_ hK => ?_)
  refine goes_ Try.func88 (by kernel_rfl) rfl #[.agg #[], .slice (some a) l.length c] (by rfl) rfl rfl (by (try simp only [List.map_toArray, List.map_cons, List.map_nil]); first | done | rfl | (simp only [List.length_drop, List.length_take]; rfl)) ?_
  refine (Try.binary_LE_Uint64_z a l.length c (l.take 8) w.drew h8 (Nat.le_of_eq hl8.symm) hcell hw).mono ?_
  rintro e w' ⟨rfl, hb⟩
  rw [ht]
  refine ⟨_, rfl, ?_⟩
  refine hK.out _ _ trivial (fun hHeld => ?_)
  clear hK K_
  refine norm_ (a' := ?_) ?_ ?_
  rotate_left
  · show Act.put _ (some 11) _ = _
    simp only [Act.put, List.setIfInBounds_toArray, List.set_cons_zero, List.set_cons_succ, i64_w, i32_w]
    rfl
  refine pure_ (i := 5) (N := some 2) (v := ?_) (a' := ?_) #[true, true, true, true, true, true, false, false] rfl rfl (by kernel_rfl) (fun _ _ _ h => h) (Or.inl ⟨by rfl, ?_⟩) ?_ ?_
  rotate_left
  · intro w'
    go_simp
    with_reducible rfl
  rotate_left
  · simp only [Act.put, List.setIfInBounds_toArray, List.set_cons_zero, List.set_cons_succ, i64_w, i32_w]
    rfl
  refine pure_ (i := 6) (N := some 3) (v := ?_) (a' := ?_) #[true, true, true, true, true, true, true, false] rfl rfl (by kernel_rfl) (fun _ _ _ h => h) (Or.inl ⟨by rfl, ?_⟩) ?_ ?_
  rotate_left
  · intro w'
    go_simp
    with_reducible rfl
  rotate_left
  · simp only [Act.put, List.setIfInBounds_toArray, List.set_cons_zero, List.set_cons_succ, i64_w, i32_w]
    rfl
  refine pure_ (i := 7) (N := some 4) (v := ?_) (a' := ?_) #[true, true, true, true, true, true, true, true] rfl rfl (by kernel_rfl) (fun _ _ _ h => h) (Or.inl ⟨by rfl, ?_⟩) ?_ ?_
  rotate_left
  · intro w'
    go_simp
    with_reducible rfl
  rotate_left
  · simp only [Act.put, List.setIfInBounds_toArray, List.set_cons_zero, List.set_cons_succ, i64_w, i32_w]
    rfl
  refine done_ (by kernel_rfl) ?_
  go_wp2
  go_ret3
  exact ⟨_, rfl, below_step (below_drew1 (Below.refl w.heap.size w)) hb⟩
set_option maxRecDepth 100000 in
theorem rd_short (A : Option Addr) (n c : Nat) (w : World) (hn : n < 8) : Calls Try.prog 78 #[.slice A n c] w fun e w' => e = .returned (.tuple #[.float .f64 0, .slice A n c, .bool false]) ∧ Below w.heap.size w w' := by
  go_enter Try.func78, Try.ntmps78
  go_wp2_with (go_at_call 84; refine (ru64_short A n c _ hn).mono ?_; rintro e w' ⟨rfl, hb⟩)
  go_ret3
  exact ⟨rfl, hb⟩
set_option maxRecDepth 100000 in
theorem rd_long (A : Option Addr) (c : Nat) (l : List Int) (w : World) (hC : Kd.C (Kd.int .u8) w A l.length l) (hc : l.length ≤ c) (h8 : 8 ≤ l.length) (hw : ∀ z ∈ l.take 8, (Lit.int .u8 z).wf = true) :
    Calls Try.prog 78 #[.slice A l.length c] w fun e w' => ∃ v, e = .returned (.tuple #[.float .f64 (Lib.leZ (l.take 8)).toNat, v, .bool true]) ∧ Below w.heap.size w w' := by
  have hfb := frombits_run
  go_enter Try.func78, Try.ntmps78
  go_wp2_with (go_at_call 84; refine (ru64_long A c l _ hC hc h8 hw).mono ?_; rintro e w' ⟨v, rfl, hb⟩)
  try go_wp2
  go_ret3
  exact ⟨v, rfl, hb⟩
/-- A value's bytes and its kind told as a double: as itself, as the nearest to an integer, or not at all. -/
def asDouble (k : Int) (l : List Int) : Option (Int × Bool) :=
  if k = 1 then (if l.length < 8 then some (0, false) else if ∀ z ∈ l.take 8, (Lit.int .u8 z).wf = true then some (((Lib.leZ (l.take 8)).toNat : Int), true) else none)
  else if k = 16 then (bsoncore_ReadInt32.f l).bind fun t => if t.2.2 = true then some ((Go.FloatKind.f64.nearest t.1 : Int), true) else some (0, false)
  else if k = 18 then (bsoncore_ReadInt64.f l).bind fun t => if t.2.2 = true then some ((Go.FloatKind.f64.nearest t.1 : Int), true) else some (0, false)
  else some (0, false)
set_option maxRecDepth 100000 in
theorem isn_yes (k : Int) (A : Option Addr) (n c : Nat) (w : World) (hk : k = 1 ∨ k = 16 ∨ k = 18 ∨ k = 19) : Calls Try.prog 77 #[.agg #[.int .u8 k, .slice A n c]] w fun e w' => e = .returned (.bool true) ∧ Below w.heap.size w w' := by
  have hu := Try.underlying101
  rcases hk with rfl | rfl | rfl | rfl <;>
  · go_enter Try.func77, Try.ntmps77
    go_wp2
    go_ret
    exact ⟨rfl, below_alloc (Below.refl _ _) _⟩
set_option maxRecDepth 100000 in
theorem isn_no (k : Int) (A : Option Addr) (n c : Nat) (w : World) (h1 : k ≠ 1) (h2 : k ≠ 16) (h3 : k ≠ 18) (h4 : k ≠ 19) : Calls Try.prog 77 #[.agg #[.int .u8 k, .slice A n c]] w fun e w' => e = .returned (.bool false) ∧ Below w.heap.size w w' := by
  have hu := Try.underlying101
  have d1 := decide_eq_false h1
  have d2 := decide_eq_false h2
  have d3 := decide_eq_false h3
  have d4 := decide_eq_false h4
  go_enter Try.func77, Try.ntmps77
  go_wp2
  go_ret
  exact ⟨rfl, below_alloc (Below.refl _ _) _⟩
set_option maxRecDepth 100000 in
theorem fl_no (k : Int) (A : Option Addr) (n c : Nat) (w : World) (h1 : k ≠ 1) (h2 : k ≠ 16) (h3 : k ≠ 18) (h4 : k ≠ 19) : Calls Try.prog 67 #[.agg #[.int .u8 k, .slice A n c]] w fun e w' => e = .returned (.tuple #[.float .f64 0, .bool false]) ∧ Below w.heap.size w w' := by
  have hu := Try.underlying101
  go_enter Try.func67, Try.ntmps67
  go_wp2_with (go_at_call 77; refine (isn_no k A n c _ h1 h2 h3 h4).mono ?_; rintro e w' ⟨rfl, hb⟩)
  go_wp2
  go_ret2
  exact ⟨rfl, below_step (below_alloc (Below.refl _ _) _) hb⟩
set_option maxRecDepth 100000 in
theorem fl_one_short (A : Option Addr) (n c : Nat) (w : World) (hn : n < 8) : Calls Try.prog 67 #[.agg #[.int .u8 1, .slice A n c]] w fun e w' => e = .returned (.tuple #[.float .f64 0, .bool false]) ∧ Below w.heap.size w w' := by
  have hu := Try.underlying101
  go_enter Try.func67, Try.ntmps67
  go_wp2_with (first | (go_at_call 77; refine (isn_yes 1 A n c _ (.inl rfl)).mono ?_; rintro e w1 ⟨rfl, hb⟩; have hc0 : w1.cell? ⟨w.heap.size, 0, none⟩ = some (.int .u8 1) := pw_cell_below hb (by simp); have hc1 : w1.cell? ⟨w.heap.size, 1, none⟩ = some (.slice A n c) := pw_cell_below hb (by simp)) | (go_at_call 78; refine (rd_short A n c _ hn).mono ?_; rintro e w2 ⟨rfl, hb2⟩))
  try go_wp2
  go_ret2
  exact ⟨rfl, below_step (below_step (below_alloc (Below.refl _ _) _) hb) hb2⟩
set_option maxRecDepth 100000 in
theorem fl_one_long (A : Option Addr) (c : Nat) (l : List Int) (w : World) (hC : Kd.C (Kd.int .u8) w A l.length l) (hc : l.length ≤ c) (h8 : 8 ≤ l.length) (hw : ∀ z ∈ l.take 8, (Lit.int .u8 z).wf = true) :
    Calls Try.prog 67 #[.agg #[.int .u8 1, .slice A l.length c]] w fun e w' => e = .returned (.tuple #[.float .f64 (Lib.leZ (l.take 8)).toNat, .bool true]) ∧ Below w.heap.size w w' := by
  have hu := Try.underlying101
  go_enter Try.func67, Try.ntmps67
  go_wp2_with (first | (go_at_call 77; refine (isn_yes 1 A l.length c _ (.inl rfl)).mono ?_; rintro e w1 ⟨rfl, hb⟩; have hc0 : w1.cell? ⟨w.heap.size, 0, none⟩ = some (.int .u8 1) := pw_cell_below hb (by simp); have hc1 : w1.cell? ⟨w.heap.size, 1, none⟩ = some (.slice A l.length c) := pw_cell_below hb (by simp)) | (go_at_call 78; refine (rd_long A c l _ (Kd.C_below (Kd.C_alloc hC _) hb) hc h8 hw).mono ?_; rintro e w2 ⟨v, rfl, hb2⟩))
  try go_wp2
  go_ret2
  exact ⟨rfl, below_step (below_step (below_alloc (Below.refl _ _) _) hb) hb2⟩
set_option maxRecDepth 100000 in
theorem fl_i32 (A : Option Addr) (c : Nat) (l : List Int) (w : World) (hC : Kd.C (Kd.int .u8) w A l.length l) (hc : l.length ≤ c) (r1 : Int) (r2 : List Int) (r3 : Bool) (h : bsoncore_ReadInt32.f l = some (r1, r2, r3)) :
    Calls Try.prog 67 #[.agg #[.int .u8 16, .slice A l.length c]] w fun e w' => e = .returned (.tuple #[.float .f64 (if r3 = true then Go.FloatKind.f64.nearest r1 else 0), .bool r3]) ∧ Below w.heap.size w w' := by
  have hu := Try.underlying101
  have hcv : ∀ W, (convert 21 83 (.int .i32 r1)).run Try.prog W = .ok (.float .f64 (Go.FloatKind.f64.nearest r1)) W := fun W => run_convert_int_float W 21 83 .i32 .f64 r1 (by kernel_rfl) (by kernel_rfl)
  cases r3 <;>
  · go_enter Try.func67, Try.ntmps67
    go_wp2_with (first | (go_at_call 77; refine (isn_yes 16 A l.length c _ (.inr (.inl rfl))).mono ?_; rintro e w1 ⟨rfl, hb⟩; have hc0 : w1.cell? ⟨w.heap.size, 0, none⟩ = some (.int .u8 16) := pw_cell_below hb (by simp); have hc1 : w1.cell? ⟨w.heap.size, 1, none⟩ = some (.slice A l.length c) := pw_cell_below hb (by simp)) | (go_at_call 79; refine (bsoncore_ReadInt32.calls (fun _ => True) A c l r1 r2 _ w1 (Kd.V_mk hc (Kd.F_mono (Kd.C_F (Kd.heap_int _) (Kd.C_below (Kd.C_alloc hC _) hb)) (fun _ _ => trivial))) h).mono ?_; rintro e w2 ⟨v, rfl, hv, hb2⟩))
    try go_wp2
    go_ret2
    exact ⟨rfl, below_step (below_step (below_alloc (Below.refl _ _) _) hb) hb2⟩
set_option maxRecDepth 100000 in
theorem fl_i64 (A : Option Addr) (c : Nat) (l : List Int) (w : World) (hC : Kd.C (Kd.int .u8) w A l.length l) (hc : l.length ≤ c) (r1 : Int) (r2 : List Int) (r3 : Bool) (h : bsoncore_ReadInt64.f l = some (r1, r2, r3)) :
    Calls Try.prog 67 #[.agg #[.int .u8 18, .slice A l.length c]] w fun e w' => e = .returned (.tuple #[.float .f64 (if r3 = true then Go.FloatKind.f64.nearest r1 else 0), .bool r3]) ∧ Below w.heap.size w w' := by
  have hu := Try.underlying101
  have hcv : ∀ W, (convert 2 83 (.int .i64 r1)).run Try.prog W = .ok (.float .f64 (Go.FloatKind.f64.nearest r1)) W := fun W => run_convert_int_float W 2 83 .i64 .f64 r1 (by kernel_rfl) (by kernel_rfl)
  cases r3 <;>
  · go_enter Try.func67, Try.ntmps67
    go_wp2_with (first | (go_at_call 77; refine (isn_yes 18 A l.length c _ (.inr (.inr (.inl rfl)))).mono ?_; rintro e w1 ⟨rfl, hb⟩; have hc0 : w1.cell? ⟨w.heap.size, 0, none⟩ = some (.int .u8 18) := pw_cell_below hb (by simp); have hc1 : w1.cell? ⟨w.heap.size, 1, none⟩ = some (.slice A l.length c) := pw_cell_below hb (by simp)) | (go_at_call 80; refine (bsoncore_ReadInt64.calls (fun _ => True) A c l r1 r2 _ w1 (Kd.V_mk hc (Kd.F_mono (Kd.C_F (Kd.heap_int _) (Kd.C_below (Kd.C_alloc hC _) hb)) (fun _ _ => trivial))) h).mono ?_; rintro e w2 ⟨v, rfl, hv, hb2⟩))
    try go_wp2
    go_ret2
    exact ⟨rfl, below_step (below_step (below_alloc (Below.refl _ _) _) hb) hb2⟩
set_option maxRecDepth 100000 in
theorem fl_dec (A : Option Addr) (n c : Nat) (w : World) : Calls Try.prog 67 #[.agg #[.int .u8 19, .slice A n c]] w fun e w' => e = .returned (.tuple #[.float .f64 0, .bool false]) ∧ Below w.heap.size w w' := by
  have hu := Try.underlying101
  go_enter Try.func67, Try.ntmps67
  go_wp2_with (first | (go_at_call 77; refine (isn_yes 19 A n c _ (.inr (.inr (.inr rfl)))).mono ?_; rintro e w1 ⟨rfl, hb⟩; have hc0 : w1.cell? ⟨w.heap.size, 0, none⟩ = some (.int .u8 19) := pw_cell_below hb (by simp); have hc1 : w1.cell? ⟨w.heap.size, 1, none⟩ = some (.slice A n c) := pw_cell_below hb (by simp)))
  try go_wp2
  go_ret2
  exact ⟨rfl, below_step (below_alloc (Below.refl _ _) _) hb⟩
set_option maxRecDepth 100000 in
theorem fl_calls (k : Int) (A : Option Addr) (c : Nat) (l : List Int) (w : World) (hC : Kd.C (Kd.int .u8) w A l.length l) (hc : l.length ≤ c) (r1 : Int) (r2 : Bool) (h : asDouble k l = some (r1, r2)) :
    Calls Try.prog 67 #[.agg #[.int .u8 k, .slice A l.length c]] w fun e w' => ∃ f : Nat, (f : Int) = r1 ∧ e = .returned (.tuple #[.float .f64 f, .bool r2]) ∧ Below w.heap.size w w' := by
  unfold asDouble at h
  by_cases h1 : k = 1
  · subst h1
    rw [if_pos rfl] at h
    by_cases h8 : l.length < 8
    · rw [if_pos h8] at h
      simp only [Option.some.injEq, Prod.mk.injEq] at h
      obtain ⟨rfl, rfl⟩ := h
      refine (fl_one_short A _ c w h8).mono ?_
      rintro e w' ⟨rfl, hb⟩
      exact ⟨0, rfl, rfl, hb⟩
    · rw [if_neg h8] at h
      split at h
      next hw =>
        simp only [Option.some.injEq, Prod.mk.injEq] at h
        obtain ⟨rfl, rfl⟩ := h
        refine (fl_one_long A c l w hC hc (by omega) hw).mono ?_
        rintro e w' ⟨rfl, hb⟩
        exact ⟨_, rfl, rfl, hb⟩
      next => cases h
  · rw [if_neg h1] at h
    by_cases h2 : k = 16
    · subst h2
      rw [if_pos rfl] at h
      obtain ⟨⟨t1, t2, t3⟩, ht, h⟩ := Option.bind_eq_some_iff.mp h
      refine (fl_i32 A c l w hC hc t1 t2 t3 ht).mono ?_
      rintro e w' ⟨rfl, hb⟩
      cases t3 <;> simp at h <;> obtain ⟨rfl, rfl⟩ := h <;> exact ⟨_, rfl, rfl, hb⟩
    · rw [if_neg h2] at h
      by_cases h3 : k = 18
      · subst h3
        rw [if_pos rfl] at h
        obtain ⟨⟨t1, t2, t3⟩, ht, h⟩ := Option.bind_eq_some_iff.mp h
        refine (fl_i64 A c l w hC hc t1 t2 t3 ht).mono ?_
        rintro e w' ⟨rfl, hb⟩
        cases t3 <;> simp at h <;> obtain ⟨rfl, rfl⟩ := h <;> exact ⟨_, rfl, rfl, hb⟩
      · rw [if_neg h3] at h
        simp only [Option.some.injEq, Prod.mk.injEq] at h
        obtain ⟨rfl, rfl⟩ := h
        by_cases h4 : k = 19
        · subst h4
          refine (fl_dec A _ c w).mono ?_
          rintro e w' ⟨rfl, hb⟩
          exact ⟨0, rfl, rfl, hb⟩
        · refine (fl_no k A _ c w h1 h2 h3 h4).mono ?_
          rintro e w' ⟨rfl, hb⟩
          exact ⟨0, rfl, rfl, hb⟩
set_option maxRecDepth 100000 in
theorem rv_calls (k : Int) (A : Option Addr) (c : Nat) (l : List Int) (w : World) (hC : Kd.C (Kd.int .u8) w A l.length l) (hc : l.length ≤ c) (r1 : Int) (r2 : Bool) (h : asDouble k l = some (r1, r2)) :
    Calls Try.prog 55 #[.agg #[.int .u8 k, .slice A l.length c]] w fun e w' => ∃ f : Nat, (f : Int) = r1 ∧ e = .returned (.tuple #[.float .f64 f, .bool r2]) ∧ Below w.heap.size w w' := by
  have hu := Try.underlying86
  go_enter Try.func55, Try.ntmps55
  go_wp2_with (first | (go_at_call 66; refine (bson_convertToCoreValue.calls k (fun _ => True) A c l k l _ (Kd.V_mk hc (Kd.F_mono (Kd.C_F (Kd.heap_int _) (Kd.C_alloc hC _)) (fun _ _ => trivial))) rfl).mono ?_; rintro e w1 ⟨v, rfl, hv, hb⟩; obtain ⟨A1, c1, rfl⟩ := Kd.V_slice hv; obtain ⟨-, hc1, hC1⟩ := Kd.V_reads' hv) | (go_at_call 67; refine (fl_calls k A1 c1 l w1 hC1 hc1 r1 r2 h).mono ?_; rintro e w2 ⟨f, hf, rfl, hb2⟩))
  try go_wp2
  go_ret2
  exact ⟨f, hf, rfl, below_step (below_step (below_alloc (Below.refl _ _) _) hb) hb2⟩
def impl_RawAsFloat64.f (a0_0 : Int) (l0_1 : List Int) : Option (Int × Bool) := asDouble (a0_0 % 256) l0_1
set_option maxRecDepth 100000 in
theorem impl_RawAsFloat64.calls (a0_0 : Int) (A0_1 : Option Addr) (c0_1 : Nat) (l0_1 : List Int) (r1 : Int) (r2 : Bool) (w : World) (hr0_1 : Kd.C (Kd.int .u8) w A0_1 l0_1.length l0_1) (hc0_1 : l0_1.length ≤ c0_1) (h : impl_RawAsFloat64.f a0_0 l0_1 = some (r1, r2)) :
    Calls Try.prog 33 #[.agg #[.int .i64 a0_0, .slice A0_1 l0_1.length c0_1]] w fun e w' => e = .returned (.tuple #[.int .u64 r1, .bool r2]) ∧ Below w.heap.size w w' := by
  have hu := Try.underlying59
  have hfb := bits_run
  have h2 : asDouble (a0_0 % 256) l0_1 = some (r1, r2) := h
  clear h
  go_enter Try.func33, Try.ntmps33
  go_wp2_with (first | (go_at_call 54; refine (impl_some.calls a0_0 (fun _ => True) A0_1 c0_1 l0_1 (a0_0 % 256) l0_1 _ (Kd.V_mk hc0_1 (Kd.F_mono (Kd.C_F (Kd.heap_int _) (Kd.C_alloc hr0_1 _)) (fun _ _ => trivial))) rfl).mono ?_; rintro e w1 ⟨v, rfl, hv, hb⟩; obtain ⟨A1, c1, rfl⟩ := Kd.V_slice hv; obtain ⟨-, hc1, hC1⟩ := Kd.V_reads' hv) | (go_at_call 55; refine (rv_calls (a0_0 % 256) A1 c1 l0_1 w1 hC1 hc1 r1 r2 h2).mono ?_; rintro e w2 ⟨f, rfl, rfl, hb2⟩))
  try go_wp2
  go_ret2
  exact ⟨rfl, below_step (below_step (below_alloc (Below.refl _ _) _) hb) hb2⟩

/-! ### spec_DocInt64: function 68 -/
def spec_DocInt64.l0 : Nat → List Int → Int → Int → Option (List Int)
  | 0, _, _, _ => none
  | k + 1, x0, x1, x5 => if x5 < 64 then (if 0 ≤ x5 then (if x0.length < 140737488355328 then (spec_DocInt64.l0 k (x0 ++ [(shr .u64 x1 x5) % 256]) x1 (wrap64 (x5 + 8))) else (none)) else (none)) else (some x0)
def spec_DocInt64.f (k : Nat) (l0 : List Int) (a1 : Int) : Option (List Int) := spec_DocInt64.l0 k l0 a1 0
theorem spec_DocInt64.mono_l : ∀ k, (∀ y0 y1 y2, LeO (spec_DocInt64.l0 k y0 y1 y2) (spec_DocInt64.l0 (k + 1) y0 y1 y2))
  | 0 => fun _ _ _ r h => by simp [spec_DocInt64.l0] at h
  | k + 1 => by
    have ih0 := spec_DocInt64.mono_l k
    · intro y0 y1 y2
      unfold spec_DocInt64.l0
      repeat' first
      | (with_reducible exact ih0 _ _ _)
      | (with_reducible exact LeO.refl _)
      | (with_reducible exact LeO.none _)
      | (with_reducible refine LeO.ite ?_ ?_)
      | (with_reducible refine LeO.bind ?_ (fun _ => ?_))
      | exact ih0 _ _ _
      | exact LeO.none _
      | refine LeO.ite ?_ ?_
      | refine LeO.bind ?_ (fun _ => ?_)
theorem spec_DocInt64.mono : ∀ a0 a1 k, LeO (spec_DocInt64.f k a0 a1) (spec_DocInt64.f (k + 1) a0 a1) := by
  intro a0 a1 k
  have ih0 := spec_DocInt64.mono_l k
  unfold spec_DocInt64.f
  repeat' first
      | (with_reducible exact ih0 _ _ _)
      | (with_reducible exact LeO.refl _)
      | (with_reducible exact LeO.none _)
      | (with_reducible refine LeO.ite ?_ ?_)
      | (with_reducible refine LeO.bind ?_ (fun _ => ?_))
      | exact ih0 _ _ _
      | exact LeO.none _
      | refine LeO.ite ?_ ?_
      | refine LeO.bind ?_ (fun _ => ?_)
set_option maxHeartbeats 8000000 in
set_option maxRecDepth 100000 in
theorem spec_DocInt64.calls (k : Nat) (P0_ : Nat → Prop) (u9000_ : Value) (l0 : List Int) (a1 : Int) (r : List Int) (w0 w : World) (hB : Below w0.heap.size w0 w) (ho0 : Kd.R (Kd.int .u8) 5 w w0.heap.size P0_ u9000_ l0) (h : spec_DocInt64.f k l0 a1 = some r) :
    Calls Try.prog 68 #[u9000_, .int .u64 a1] w fun e w' => ∃ v0_ : Value, e = .returned (v0_) ∧ Kd.R (Kd.int .u8) 5 w' w0.heap.size (fun k_ => (P0_ k_ ∨ w.heap.size ≤ k_)) v0_ r ∧ Below w0.heap.size w0 w' ∧ Kept w w' (fun k_ => P0_ k_) := by
  have HO0 := Aside0.mk (show Kd.R (Kd.int .u8) 5 w w0.heap.size (fun k_ => (P0_ k_ ∨ w.heap.size ≤ k_)) u9000_ l0 from Kd.R_mono ho0 (fun k_ hk => (.inl hk)))
  have HK := Aside0.mk (Kept.refl w (fun k_ => P0_ k_))
  have HW0 := Aside0.mk hB.size
  have HB := Aside0.mk hB
  clear hB
  have H : (spec_DocInt64.l0 k l0 a1 0) = some r := h
  clear h
  have H' := Aside0.mk H
  clear H
  go_enter Try.func68, Try.ntmps68
  go_wp2
  go_loopg [0, 5] k (fun kq v0 v5 w' => ∃ (x0_1 : List Int) (x5_1 : Int), v5 = .int .i64 x5_1 ∧ Aside0 (spec_DocInt64.l0 kq x0_1 a1 x5_1 = some r) ∧ Aside0 (kq ≤ k) ∧ Aside0 (Kd.R (Kd.int .u8) 5 w' w0.heap.size (fun k_ => (P0_ k_ ∨ w.heap.size ≤ k_)) v0 x0_1) ∧ Aside0 (Kept w w' (fun k_ => P0_ k_)) ∧ Aside0 (Below w0.heap.size w0 w'))
  case atStart => exact ⟨(l0), (0), (by first | rfl | (simp; done) | (simp [*]; done)), H', ⟨Nat.le_refl _⟩, ⟨by (with_reducible repeat (first | apply Kd.R_alloc | apply Kd.R_drewN | apply Kd.R_drew)); exact HO0.out⟩, ⟨by repeat (first | (with_reducible first | exact HK.out | apply Kept.alloc | apply Kept.drewN | apply Kept.drew) | exact HK.out)⟩, ⟨by repeat (first | (with_reducible first | exact HB.out | apply below_alloc | apply pw_below_drewN | apply below_drew1) | exact HB.out)⟩⟩
  case round =>
    clear H'
    try clear p2
    obtain ⟨x0_1, x5_1, rfl, HA, HK1, HO_0, HK, HB⟩ := hrel
    cases gk with
    | zero => exact absurd HA.out (by simp [spec_DocInt64.l0])
    | succ k1 =>
      have H := HA.out
      clear HA
      simp only [spec_DocInt64.l0] at H
      by_cases c3 : x5_1 < 64
      · rw [if_pos c3] at H
        have c3b0 : decide (x5_1 < 64) = true := decide_eq_true c3
        clear c3
        by_cases c4 : 0 ≤ x5_1
        · rw [if_pos c4] at H
          have c4b0 := eq_true c4
          have c4b1 : decide (0 ≤ x5_1) = true := decide_eq_true c4
          clear c4
          obtain ⟨ji5, hji5⟩ : ∃ j_ : Int, (shr .u64 a1 x5_1) = j_ := ⟨_, rfl⟩
          replace H : (if x0_1.length < 140737488355328 then (spec_DocInt64.l0 k1 (x0_1 ++ [(ji5) % 256]) a1 (wrap64 (x5_1 + 8))) else (none)) = some r := by first | (rw [hji5] at H; exact H) | (simp only [hji5] at H ⊢; exact H)
          have hji5_ : (a1 / 2 ^ min x5_1.toNat 64) = ji5 := hji5
          have hji5z : x5_1 ≤ 64 → (a1 / 2 ^ x5_1.toNat) = ji5 := shr_small hji5
          by_cases c6 : x0_1.length < 140737488355328
          · rw [if_pos c6] at H
            have LMc6 := Aside0.mk c6
            clear c6
            obtain ⟨y161, hy161⟩ : ∃ y_ : List Int, y_ = (x0_1 ++ [(ji5) % 256]) := ⟨_, rfl⟩
            replace H : (spec_DocInt64.l0 k1 y161 a1 (wrap64 (x5_1 + 8))) = some r := by first | (rw [hy161]; with_reducible exact H) | (have H2_ := (Option.bind_some _ _).symm.trans H; rw [hy161]; with_reducible exact H2_) | (have H2_ := (Option.bind_some _ _).symm.trans H; with_reducible exact H2_) | with_reducible exact H | (rw [hy161]; exact H) | exact H
            have Ny161 := Aside0.mk hy161
            clear hy161
            as_aux_lemma =>
              have H' := Aside0.mk H
              clear H
              go_wp2_with (first | ((with_reducible refine gate_builtin (b := .append) (xs := #[.tmp 10, .tmp 15]) rfl ?_); at_builtin; refine Kd.R_append (Kd.int .u8) (w0 := w0) w0.heap.size rfl (.tmp 10) (.tmp 15) 24 5 (.int .u8 0) 1 rfl Try.underlying24 info5 rfl (by decide) (by omega) u0 x0_1 ((ji5) % 256) [.int .u8 ((ji5) % 256)] (fun k_ => (P0_ k_ ∨ w.heap.size ≤ k_)) (fun _ => False) rfl rfl ?aP (fun _ hk => hk.elim) ?aF ?aO ?aB ?aS ?aL ?_; (case aP => exact rfl); (case aB => exact (by repeat (first | (with_reducible first | exact HB.out | apply below_alloc | apply pw_below_drewN | apply below_drew1) | exact HB.out))); (case aF => exact (fun k_ hk => (.inr (Nat.le_trans (by first | exact HK.out.1 | exact (show Kept w _ (fun k_ => P0_ k_) from by repeat (first | (with_reducible first | exact HK.out | apply Kept.alloc | apply Kept.drewN | apply Kept.drew) | exact HK.out)).1) hk)))); (case aO => exact (by (with_reducible repeat (first | apply Kd.R_alloc | apply Kd.R_drewN | apply Kd.R_drew)); exact HO_0.out)); (case aS => exact (below_size (by repeat (first | (with_reducible first | exact HB.out | apply below_alloc | apply pw_below_drewN | apply below_drew1) | exact HB.out)))); (case aL => have := LMc6.out; omega); intro v162 w7 ho hb hg hat; rw [← Ny161.out] at ho; have n0_ := Aside0.mk (hb); have n1_ := Aside0.mk (Kept.of_grown (S := (fun k_ => P0_ k_)) hg (by repeat (first | (with_reducible first | exact HK.out | apply Kept.alloc | apply Kept.drewN | apply Kept.drew) | exact HK.out)) (fun k_ e_ => (HO_0.out.1 k_ e_))); have n2_ := Aside0.mk (ho); clear HB; clear HK; clear HO_0; have HB := n0_; have HK := n1_; have HO163 := n2_; clear n0_ n1_ n2_; clear ho hb hg hat))
              go_roundg k1
              case measure => have := HK1.out; omega
              case rel => exact ⟨(y161), (wrap64 (x5_1 + 8)), (by first | rfl | (simp; done) | (simp [*]; done)), H', ⟨by have := HK1.out; omega⟩, ⟨by (with_reducible repeat (first | apply Kd.R_alloc | apply Kd.R_drewN | apply Kd.R_drew)); exact HO163.out⟩, ⟨by repeat (first | (with_reducible first | exact HK.out | apply Kept.alloc | apply Kept.drewN | apply Kept.drew) | exact HK.out)⟩, ⟨by repeat (first | (with_reducible first | exact HB.out | apply below_alloc | apply pw_below_drewN | apply below_drew1) | exact HB.out)⟩⟩
          · rw [if_neg c6] at H
            exact absurd H (by simp)
        · rw [if_neg c4] at H
          exact absurd H (by simp)
      · rw [if_neg c3] at H
        have c3b0 : decide (x5_1 < 64) = false := decide_eq_false c3
        clear c3
        as_aux_lemma =>
          obtain rfl := Option.some.inj H
          go_wp2
          go_ret
          exact ⟨_, by first | rfl | (simp [errW_none, errW_some] <;> rfl) | (simp [*, errW_none, errW_some] <;> rfl), by (with_reducible repeat (first | apply Kd.R_alloc | apply Kd.R_drewN | apply Kd.R_drew)); exact HO_0.out, by repeat (first | (with_reducible first | exact HB.out | apply below_alloc | apply pw_below_drewN | apply below_drew1) | exact HB.out), by repeat (first | (with_reducible first | exact HK.out | apply Kept.alloc | apply Kept.drewN | apply Kept.drew) | exact HK.out)⟩

/-! ### spec_DocInt32: function 71 -/
def spec_DocInt32.f (l0 : List Int) (a1 : Int) : Option (List Int) := (some (([(a1) % 256, (a1 / 256) % 256, (a1 / 65536) % 256, (a1 / 16777216) % 256] : List Int) : List Int)).bind fun y164 => (if l0.length + y164.length < 140737488355328 then (some (l0 ++ y164)) else (none))
set_option maxHeartbeats 8000000 in
set_option maxRecDepth 100000 in
theorem spec_DocInt32.calls (P0_ : Nat → Prop) (u9000_ : Value) (l0 : List Int) (a1 : Int) (r : List Int) (w0 w : World) (hB : Below w0.heap.size w0 w) (ho0 : Kd.R (Kd.int .u8) 5 w w0.heap.size P0_ u9000_ l0) (h : spec_DocInt32.f l0 a1 = some r) :
    Calls Try.prog 71 #[u9000_, .int .i64 a1] w fun e w' => ∃ v0_ : Value, e = .returned (v0_) ∧ Kd.R (Kd.int .u8) 5 w' w0.heap.size (fun k_ => (P0_ k_ ∨ w.heap.size ≤ k_)) v0_ r ∧ Below w0.heap.size w0 w' ∧ Kept w w' (fun k_ => P0_ k_) := by
  have HO0 := Aside0.mk (show Kd.R (Kd.int .u8) 5 w w0.heap.size (fun k_ => (P0_ k_ ∨ w.heap.size ≤ k_)) u9000_ l0 from Kd.R_mono ho0 (fun k_ hk => (.inl hk)))
  have HK := Aside0.mk (Kept.refl w (fun k_ => P0_ k_))
  have HW0 := Aside0.mk hB.size
  have HB := Aside0.mk hB
  clear hB
  have H : ((some (([(a1) % 256, (a1 / 256) % 256, (a1 / 65536) % 256, (a1 / 16777216) % 256] : List Int) : List Int)).bind fun y164 => (if l0.length + y164.length < 140737488355328 then (some (l0 ++ y164)) else (none))) = some r := h
  clear h
  obtain ⟨y164, hy164⟩ : ∃ y_ : List Int, y_ = (([(a1) % 256, (a1 / 256) % 256, (a1 / 65536) % 256, (a1 / 16777216) % 256] : List Int)) := ⟨_, rfl⟩
  replace H : (if l0.length + y164.length < 140737488355328 then (some (l0 ++ y164)) else (none)) = some r := by first | (rw [hy164]; with_reducible exact H) | (have H2_ := (Option.bind_some _ _).symm.trans H; rw [hy164]; with_reducible exact H2_) | (have H2_ := (Option.bind_some _ _).symm.trans H; with_reducible exact H2_) | with_reducible exact H | (rw [hy164]; exact H) | exact H
  have Ny164 := Aside0.mk hy164
  clear hy164
  by_cases c3 : l0.length + y164.length < 140737488355328
  · rw [if_pos c3] at H
    have LMc3 := Aside0.mk c3
    clear c3
    obtain ⟨y167, hy167⟩ : ∃ y_ : List Int, y_ = (l0 ++ y164) := ⟨_, rfl⟩
    replace H : (some y167) = some r := by first | (rw [hy167]; with_reducible exact H) | (have H2_ := (Option.bind_some _ _).symm.trans H; rw [hy167]; with_reducible exact H2_) | (have H2_ := (Option.bind_some _ _).symm.trans H; with_reducible exact H2_) | with_reducible exact H | (rw [hy167]; exact H) | exact H
    have Ny167 := Aside0.mk hy167
    clear hy167
    as_aux_lemma =>
      obtain rfl := Option.some.inj H
      go_enter Try.func71, Try.ntmps71
      go_wp2_with (first | ((with_reducible refine gate_dst (N := 17) rfl ?_); refine Kd.R_lit (Kd.int .u8) _ 5 ?hg (N := 17) ?hd (xs := ([(a1) % 256, (a1 / 256) % 256, (a1 / 65536) % 256, (a1 / 16777216) % 256] : List Int)) (inner := [.int .u8 ((a1) % 256), .int .u8 ((a1 / 256) % 256), .int .u8 ((a1 / 65536) % 256), .int .u8 ((a1 / 16777216) % 256)]) (ok := fun _ => True) (okp := fun _ => True) ?hr ?hp (fun _ hk => hk) trivial (Below.refl _ _) (Nat.le_refl _) (by simp) ?_; (case hd => rfl); (case hg => rfl); (case hr => first | (go_simp; done) | (go_simp; rfl)); (case hp => exact (Reps.one (show Kd.M (Kd.int .u8) _ _ _ ((a1) % 256) [.int .u8 ((a1) % 256)] from rfl) (Reps.one (show Kd.M (Kd.int .u8) _ _ _ ((a1 / 256) % 256) [.int .u8 ((a1 / 256) % 256)] from rfl) (Reps.one (show Kd.M (Kd.int .u8) _ _ _ ((a1 / 65536) % 256) [.int .u8 ((a1 / 65536) % 256)] from rfl) (Reps.one (show Kd.M (Kd.int .u8) _ _ _ ((a1 / 16777216) % 256) [.int .u8 ((a1 / 16777216) % 256)] from rfl) (Reps.none _ _)))))); intro v165 w4 ho5 hb hg_ hnew_; clear hg_ hnew_; (first | rw [← Ny164.out] at ho5 | (simp only [Int.reduceToNat] at ho5; rw [← Ny164.out] at ho5)); have n0_ := Aside0.mk (Kd.R_elder' (by (with_reducible repeat (first | apply Kd.R_alloc | apply Kd.R_drewN | apply Kd.R_drew)); exact HO0.out) (Kd.R_base ho5) hb); have n1_ := Aside0.mk (Kd.R_lower (Kd.R_new' (Kd.R_newM (M := fun k_ => (P0_ k_ ∨ w.heap.size ≤ k_)) ho5 (by first | exact HK.out.1 | exact (show Kept w _ (fun k_ => P0_ k_) from by repeat (first | (with_reducible first | exact HK.out | apply Kept.alloc | apply Kept.drewN | apply Kept.drew) | exact HK.out)).1) (fun k_ h_ => .inr h_)) (Kd.R_lt (by (with_reducible repeat (first | apply Kd.R_alloc | apply Kd.R_drewN | apply Kd.R_drew)); exact HO0.out))) (below_size (by repeat (first | (with_reducible first | exact HB.out | apply below_alloc | apply pw_below_drewN | apply below_drew1) | exact HB.out)))); have n2_ := Aside0.mk (Kept.below (S := (fun k_ => P0_ k_)) (by repeat (first | (with_reducible first | exact HK.out | apply Kept.alloc | apply Kept.drewN | apply Kept.drew) | exact HK.out)) hb); have n3_ := Aside0.mk (below_step (by repeat (first | (with_reducible first | exact HB.out | apply below_alloc | apply pw_below_drewN | apply below_drew1) | exact HB.out)) hb); clear HO0; clear HK; clear HB; have HO0 := n0_; have HO166 := n1_; have HK := n2_; have HB := n3_; clear n0_ n1_ n2_ n3_; clear hb ho5; obtain ⟨Ao7, co7, eo7⟩ := Kd.R_slice HO166.out; subst eo7) | ((with_reducible refine gate_builtin (b := .append) (xs := #[.tmp 5, .tmp 17]) rfl ?_); at_builtin; refine Kd.R_append_rows (Kd.int .u8) (w0 := w0) w0.heap.size rfl (.tmp 5) (.tmp 17) 24 5 (.int .u8 0) 1 rfl Try.underlying24 info5 rfl (by decide) (by omega) u9000_ l0 y164 _ _ _ (fun k_ => (P0_ k_ ∨ w.heap.size ≤ k_) ∧ some k_ ≠ (.slice Ao7 y164.length co7 : Value).ownBlock) (fun _ => False) rfl rfl ?aO ?aR (fun _ _ h => h) (fun _ h => h.elim) ?aF ?aB ?aS ?aL ?_; (case aR => repeat (first | exact (Kd.R_reads' HO166.out).2.2 | (with_reducible refine Kd.C_alloc ?_ _) | (with_reducible refine Kd.C_drewN ?_ _) | (with_reducible refine Kd.C_drew ?_))); (case aB => exact (by repeat (first | (with_reducible first | exact HB.out | apply below_alloc | apply pw_below_drewN | apply below_drew1) | exact HB.out))); (case aF => exact (fun k_ hk => ⟨(.inr (Nat.le_trans (by first | exact HK.out.1 | exact (show Kept w _ (fun k_ => P0_ k_) from by repeat (first | (with_reducible first | exact HK.out | apply Kept.alloc | apply Kept.drewN | apply Kept.drew) | exact HK.out)).1) hk)), Kd.fresh' (Kd.R_lt (by (with_reducible repeat (first | apply Kd.R_alloc | apply Kd.R_drewN | apply Kd.R_drew)); exact HO166.out)) k_ hk⟩)); (case aO => exact (by (with_reducible repeat (first | apply Kd.R_alloc | apply Kd.R_drewN | apply Kd.R_drew)); exact HO0.out)); (case aS => exact (below_size (by repeat (first | (with_reducible first | exact HB.out | apply below_alloc | apply pw_below_drewN | apply below_drew1) | exact HB.out)))); (case aL => have := LMc3.out; omega); intro v168 w6 ho hb hg hat; rw [← Ny167.out] at ho; have n0_ := Aside0.mk (Kd.R_after (ok := (fun k_ => (P0_ k_ ∨ w.heap.size ≤ k_))) (by (with_reducible repeat (first | apply Kd.R_alloc | apply Kd.R_drewN | apply Kd.R_drew)); exact Kd.R_mono HO166.out (fun _ hk => ⟨hk.1.1, hk.2⟩)) hg hat); have n1_ := Aside0.mk (hb); have n2_ := Aside0.mk (Kept.of_grown (S := (fun k_ => P0_ k_)) hg (by repeat (first | (with_reducible first | exact HK.out | apply Kept.alloc | apply Kept.drewN | apply Kept.drew) | exact HK.out)) (fun k_ e_ => (HO0.out.1 k_ e_).1)); have n3_ := Aside0.mk (ho); clear HO166; clear HB; clear HK; clear HO0; have HO166 := n0_; have HB := n1_; have HK := n2_; have HO169 := n3_; clear n0_ n1_ n2_ n3_; clear ho hb hg hat))
      go_ret
      exact ⟨_, by first | rfl | (simp [errW_none, errW_some] <;> rfl) | (simp [*, errW_none, errW_some] <;> rfl), by (with_reducible repeat (first | apply Kd.R_alloc | apply Kd.R_drewN | apply Kd.R_drew)); exact Kd.R_mono HO169.out (fun _ hk => hk.1), by repeat (first | (with_reducible first | exact HB.out | apply below_alloc | apply pw_below_drewN | apply below_drew1) | exact HB.out), by repeat (first | (with_reducible first | exact HK.out | apply Kept.alloc | apply Kept.drewN | apply Kept.drew) | exact HK.out)⟩
  · rw [if_neg c3] at H
    exact absurd H (by simp)

/-! ### spec_docText: function 69 -/
def spec_docText.f (l0 : List Int) (a1 : ByteArray) : Option (List Int) := (spec_DocInt32.f l0 (wrap64 ((a1.size : Int) + 1))).bind fun t170 => (if t170.length + a1.size < 140737488355328 then ((some (t170 ++ bytesOf a1 : List Int)).bind fun y173 => (if y173.length < 140737488355328 then (some (y173 ++ [0])) else (none))) else (none))
set_option maxHeartbeats 8000000 in
set_option maxRecDepth 100000 in
theorem spec_docText.calls (P0_ : Nat → Prop) (u9000_ : Value) (l0 : List Int) (a1 : ByteArray) (r : List Int) (w0 w : World) (hB : Below w0.heap.size w0 w) (ho0 : Kd.R (Kd.int .u8) 5 w w0.heap.size P0_ u9000_ l0) (h : spec_docText.f l0 a1 = some r) :
    Calls Try.prog 69 #[u9000_, .string a1] w fun e w' => ∃ v0_ : Value, e = .returned (v0_) ∧ Kd.R (Kd.int .u8) 5 w' w0.heap.size (fun k_ => (P0_ k_ ∨ w.heap.size ≤ k_)) v0_ r ∧ Below w0.heap.size w0 w' ∧ Kept w w' (fun k_ => P0_ k_) := by
  have HO0 := Aside0.mk (show Kd.R (Kd.int .u8) 5 w w0.heap.size (fun k_ => (P0_ k_ ∨ w.heap.size ≤ k_)) u9000_ l0 from Kd.R_mono ho0 (fun k_ hk => (.inl hk)))
  have HK := Aside0.mk (Kept.refl w (fun k_ => P0_ k_))
  have HW0 := Aside0.mk hB.size
  have HB := Aside0.mk hB
  clear hB
  have H : ((spec_DocInt32.f l0 (wrap64 ((a1.size : Int) + 1))).bind fun t170 => (if t170.length + a1.size < 140737488355328 then ((some (t170 ++ bytesOf a1 : List Int)).bind fun y173 => (if y173.length < 140737488355328 then (some (y173 ++ [0])) else (none))) else (none))) = some r := h
  clear h
  replace H := Option.bind_eq_some_iff.mp H
  obtain ⟨t170, A30, H⟩ := H
  replace H : (if t170.length + a1.size < 140737488355328 then ((some (t170 ++ bytesOf a1 : List Int)).bind fun y173 => (if y173.length < 140737488355328 then (some (y173 ++ [0])) else (none))) else (none)) = some r := H
  have A3 := Aside0.mk A30
  clear A30
  by_cases c4 : t170.length + a1.size < 140737488355328
  · rw [if_pos c4] at H
    have LMc4 := Aside0.mk c4
    clear c4
    obtain ⟨y173, hy173⟩ : ∃ y_ : List Int, y_ = (t170 ++ bytesOf a1) := ⟨_, rfl⟩
    replace H : (if y173.length < 140737488355328 then (some (y173 ++ [0])) else (none)) = some r := by first | (rw [hy173]; with_reducible exact H) | (have H2_ := (Option.bind_some _ _).symm.trans H; rw [hy173]; with_reducible exact H2_) | (have H2_ := (Option.bind_some _ _).symm.trans H; with_reducible exact H2_) | with_reducible exact H | (rw [hy173]; exact H) | exact H
    have Ny173 := Aside0.mk hy173
    clear hy173
    by_cases c5 : y173.length < 140737488355328
    · rw [if_pos c5] at H
      have LMc5 := Aside0.mk c5
      clear c5
      obtain ⟨y176, hy176⟩ : ∃ y_ : List Int, y_ = (y173 ++ [0]) := ⟨_, rfl⟩
      replace H : (some y176) = some r := by first | (rw [hy176]; with_reducible exact H) | (have H2_ := (Option.bind_some _ _).symm.trans H; rw [hy176]; with_reducible exact H2_) | (have H2_ := (Option.bind_some _ _).symm.trans H; with_reducible exact H2_) | with_reducible exact H | (rw [hy176]; exact H) | exact H
      have Ny176 := Aside0.mk hy176
      clear hy176
      as_aux_lemma =>
        obtain rfl := Option.some.inj H
        obtain ⟨Ao6, co6, eo6⟩ := Kd.R_slice HO0.out
        subst eo6
        go_enter Try.func69, Try.ntmps69
        go_wp2_with (first | ((with_reducible refine gate_callee (f := 71) rfl ?_); refine goesL_ (some 9) rfl rfl Try.func71 (by kernel_rfl) rfl #[.slice Ao6 l0.length co6, .int .i64 (wrap64 ((a1.size : Int) + 1))] rfl (by (try simp only [List.map_toArray, List.map_cons, List.map_nil]); first | done | rfl | (simp only [List.length_drop, List.length_take]; rfl)) ?_; (with_reducible refine (spec_DocInt32.calls (fun k_ => some k_ = (.slice Ao6 l0.length co6 : Value).ownBlock) (.slice Ao6 l0.length co6) l0 (wrap64 ((a1.size : Int) + 1)) t170 w0 _ ?side1 ?side2 A3.out).mono ?_); (case side1 => repeat (first | (with_reducible first | exact HB.out | apply below_alloc | apply pw_below_drewN | apply below_drew1) | exact HB.out)); (case side2 => exact Kd.R_tight rfl HO0.out); rintro e w7 ⟨v171, rfl, ho0, hb, hkp⟩; refine ⟨_, rfl, ?_⟩; have n0_ := Aside0.mk (Kd.R_mono (ok' := fun k_ => (P0_ k_ ∨ w.heap.size ≤ k_)) ho0 (fun k_ hk_ => Or.elim hk_ (fun hs_ => (HO0.out.1 k_ (hs_).symm)) (fun hn_ => (.inr (Nat.le_trans (by first | exact HK.out.1 | exact (show Kept w _ (fun k_ => P0_ k_) from by repeat (first | (with_reducible first | exact HK.out | apply Kept.alloc | apply Kept.drewN | apply Kept.drew) | exact HK.out)).1) hn_))))); have n1_ := Aside0.mk (Kept.then_ (S := (fun k_ => P0_ k_)) (by repeat (first | (with_reducible first | exact HK.out | apply Kept.alloc | apply Kept.drewN | apply Kept.drew) | exact HK.out)) hkp (fun k_ hs_ => (fun e_ => (HO0.out.1 k_ e_.symm)) hs_)); have n2_ := Aside0.mk (hb); clear HK; clear HB; clear HO0; have HO172 := n0_; have HK := n1_; have HB := n2_; clear n0_ n1_ n2_; (try clear hb); (try clear hkp); (try clear ho0)) | (at_builtin; refine HW.R_append_str (w0 := w0) w0.heap.size rfl (.tmp 10) _ 24 9 5 rfl Try.underlying24 Try.underlying9 info5 v171 t170 a1 (fun k_ => (P0_ k_ ∨ w.heap.size ≤ k_)) rfl rfl ?aO ?aF ?aB ?aS ?aL ?_; (case aB => exact (by repeat (first | (with_reducible first | exact HB.out | apply below_alloc | apply pw_below_drewN | apply below_drew1) | exact HB.out))); (case aF => exact (fun k_ hk => (.inr (Nat.le_trans (by first | exact HK.out.1 | exact (show Kept w _ (fun k_ => P0_ k_) from by repeat (first | (with_reducible first | exact HK.out | apply Kept.alloc | apply Kept.drewN | apply Kept.drew) | exact HK.out)).1) hk)))); (case aO => exact (by (with_reducible repeat (first | apply Kd.R_alloc | apply Kd.R_drewN | apply Kd.R_drew)); exact HO172.out)); (case aS => exact (below_size (by repeat (first | (with_reducible first | exact HB.out | apply below_alloc | apply pw_below_drewN | apply below_drew1) | exact HB.out)))); (case aL => have := LMc4.out; omega); intro v174 w8 ho hb hg hat; rw [← Ny173.out] at ho; have n0_ := Aside0.mk (hb); have n1_ := Aside0.mk (Kept.of_grown (S := (fun k_ => P0_ k_)) hg (by repeat (first | (with_reducible first | exact HK.out | apply Kept.alloc | apply Kept.drewN | apply Kept.drew) | exact HK.out)) (fun k_ e_ => (HO172.out.1 k_ e_))); have n2_ := Aside0.mk (ho); clear HB; clear HK; clear HO172; have HB := n0_; have HK := n1_; have HO175 := n2_; clear n0_ n1_ n2_; clear ho hb hg hat) | ((with_reducible refine gate_builtin (b := .append) (xs := #[.tmp 13, .tmp 14]) rfl ?_); at_builtin; refine Kd.R_append (Kd.int .u8) (w0 := w0) w0.heap.size rfl (.tmp 13) (.tmp 14) 24 5 (.int .u8 0) 1 rfl Try.underlying24 info5 rfl (by decide) (by omega) v174 y173 0 [.int .u8 0] (fun k_ => (P0_ k_ ∨ w.heap.size ≤ k_)) (fun _ => False) rfl rfl ?aP (fun _ hk => hk.elim) ?aF ?aO ?aB ?aS ?aL ?_; (case aP => exact rfl); (case aB => exact (by repeat (first | (with_reducible first | exact HB.out | apply below_alloc | apply pw_below_drewN | apply below_drew1) | exact HB.out))); (case aF => exact (fun k_ hk => (.inr (Nat.le_trans (by first | exact HK.out.1 | exact (show Kept w _ (fun k_ => P0_ k_) from by repeat (first | (with_reducible first | exact HK.out | apply Kept.alloc | apply Kept.drewN | apply Kept.drew) | exact HK.out)).1) hk)))); (case aO => exact (by (with_reducible repeat (first | apply Kd.R_alloc | apply Kd.R_drewN | apply Kd.R_drew)); exact HO175.out)); (case aS => exact (below_size (by repeat (first | (with_reducible first | exact HB.out | apply below_alloc | apply pw_below_drewN | apply below_drew1) | exact HB.out)))); (case aL => have := LMc5.out; omega); intro v177 w9 ho hb hg hat; rw [← Ny176.out] at ho; have n0_ := Aside0.mk (hb); have n1_ := Aside0.mk (Kept.of_grown (S := (fun k_ => P0_ k_)) hg (by repeat (first | (with_reducible first | exact HK.out | apply Kept.alloc | apply Kept.drewN | apply Kept.drew) | exact HK.out)) (fun k_ e_ => (HO175.out.1 k_ e_))); have n2_ := Aside0.mk (ho); clear HB; clear HK; clear HO175; have HB := n0_; have HK := n1_; have HO178 := n2_; clear n0_ n1_ n2_; clear ho hb hg hat))
        go_ret
        exact ⟨_, by first | rfl | (simp [errW_none, errW_some] <;> rfl) | (simp [*, errW_none, errW_some] <;> rfl), by (with_reducible repeat (first | apply Kd.R_alloc | apply Kd.R_drewN | apply Kd.R_drew)); exact HO178.out, by repeat (first | (with_reducible first | exact HB.out | apply below_alloc | apply pw_below_drewN | apply below_drew1) | exact HB.out), by repeat (first | (with_reducible first | exact HK.out | apply Kept.alloc | apply Kept.drewN | apply Kept.drew) | exact HK.out)⟩
    · rw [if_neg c5] at H
      exact absurd H (by simp)
  · rw [if_neg c4] at H
    exact absurd H (by simp)

/-! ### spec_DocHead: function 22 -/
def spec_DocHead.f (a0 : Int) (a1 : ByteArray) : Option (List Int) := (some (([(a0) % 256] : List Int) : List Int)).bind fun y179 => (if y179.length + a1.size < 140737488355328 then ((some (y179 ++ bytesOf a1 : List Int)).bind fun y182 => (if y182.length < 140737488355328 then (some (y182 ++ [0])) else (none))) else (none))
set_option maxHeartbeats 8000000 in
set_option maxRecDepth 100000 in
theorem spec_DocHead.calls (a0 : Int) (a1 : ByteArray) (r : List Int) (w : World) (h : spec_DocHead.f a0 a1 = some r) :
    Calls Try.prog 22 #[.int .i64 a0, .string a1] w fun e w' => ∃ v0_ : Value, e = .returned (v0_) ∧ Kd.R (Kd.int .u8) 5 w' w.heap.size (fun _ => True) v0_ r ∧ Below w.heap.size w w' := by
  have HB := Aside0.mk (Below.refl w.heap.size w)
  have H : ((some (([(a0) % 256] : List Int) : List Int)).bind fun y179 => (if y179.length + a1.size < 140737488355328 then ((some (y179 ++ bytesOf a1 : List Int)).bind fun y182 => (if y182.length < 140737488355328 then (some (y182 ++ [0])) else (none))) else (none))) = some r := h
  clear h
  obtain ⟨y179, hy179⟩ : ∃ y_ : List Int, y_ = (([(a0) % 256] : List Int)) := ⟨_, rfl⟩
  replace H : (if y179.length + a1.size < 140737488355328 then ((some (y179 ++ bytesOf a1 : List Int)).bind fun y182 => (if y182.length < 140737488355328 then (some (y182 ++ [0])) else (none))) else (none)) = some r := by first | (rw [hy179]; with_reducible exact H) | (have H2_ := (Option.bind_some _ _).symm.trans H; rw [hy179]; with_reducible exact H2_) | (have H2_ := (Option.bind_some _ _).symm.trans H; with_reducible exact H2_) | with_reducible exact H | (rw [hy179]; exact H) | exact H
  have Ny179 := Aside0.mk hy179
  clear hy179
  by_cases c3 : y179.length + a1.size < 140737488355328
  · rw [if_pos c3] at H
    have LMc3 := Aside0.mk c3
    clear c3
    obtain ⟨y182, hy182⟩ : ∃ y_ : List Int, y_ = (y179 ++ bytesOf a1) := ⟨_, rfl⟩
    replace H : (if y182.length < 140737488355328 then (some (y182 ++ [0])) else (none)) = some r := by first | (rw [hy182]; with_reducible exact H) | (have H2_ := (Option.bind_some _ _).symm.trans H; rw [hy182]; with_reducible exact H2_) | (have H2_ := (Option.bind_some _ _).symm.trans H; with_reducible exact H2_) | with_reducible exact H | (rw [hy182]; exact H) | exact H
    have Ny182 := Aside0.mk hy182
    clear hy182
    by_cases c4 : y182.length < 140737488355328
    · rw [if_pos c4] at H
      have LMc4 := Aside0.mk c4
      clear c4
      obtain ⟨y185, hy185⟩ : ∃ y_ : List Int, y_ = (y182 ++ [0]) := ⟨_, rfl⟩
      replace H : (some y185) = some r := by first | (rw [hy185]; with_reducible exact H) | (have H2_ := (Option.bind_some _ _).symm.trans H; rw [hy185]; with_reducible exact H2_) | (have H2_ := (Option.bind_some _ _).symm.trans H; with_reducible exact H2_) | with_reducible exact H | (rw [hy185]; exact H) | exact H
      have Ny185 := Aside0.mk hy185
      clear hy185
      as_aux_lemma =>
        obtain rfl := Option.some.inj H
        go_enter Try.func22, Try.ntmps22
        go_wp2_with (first | ((with_reducible refine gate_dst (N := 8) rfl ?_); refine Kd.R_lit (Kd.int .u8) _ 5 ?hg (N := 8) ?hd (xs := ([(a0) % 256] : List Int)) (inner := [.int .u8 ((a0) % 256)]) (ok := fun _ => True) (okp := fun _ => True) ?hr ?hp (fun _ hk => hk) trivial (Below.refl _ _) (Nat.le_refl _) (by simp) ?_; (case hd => rfl); (case hg => rfl); (case hr => first | (go_simp; done) | (go_simp; rfl)); (case hp => exact (Reps.one (show Kd.M (Kd.int .u8) _ _ _ ((a0) % 256) [.int .u8 ((a0) % 256)] from rfl) (Reps.none _ _))); intro v180 w5 ho6 hb hg_ hnew_; clear hg_ hnew_; (first | rw [← Ny179.out] at ho6 | (simp only [Int.reduceToNat] at ho6; rw [← Ny179.out] at ho6)); have n0_ := Aside0.mk (Kd.R_lower ho6 (below_size (by repeat (first | (with_reducible first | exact HB.out | apply below_alloc | apply pw_below_drewN | apply below_drew1) | exact HB.out)))); have n1_ := Aside0.mk (below_step (by repeat (first | (with_reducible first | exact HB.out | apply below_alloc | apply pw_below_drewN | apply below_drew1) | exact HB.out)) hb); clear HB; have HO181 := n0_; have HB := n1_; clear n0_ n1_; clear hb ho6) | (at_builtin; refine HW.R_append_str (w0 := w) w.heap.size rfl (.tmp 8) _ 24 9 5 rfl Try.underlying24 Try.underlying9 info5 v180 y179 a1 (fun _ => True) rfl rfl ?aO ?aF ?aB ?aS ?aL ?_; (case aB => exact (by repeat (first | (with_reducible first | exact HB.out | apply below_alloc | apply pw_below_drewN | apply below_drew1) | exact HB.out))); (case aF => exact (fun _ _ => trivial)); (case aO => exact (by (with_reducible repeat (first | apply Kd.R_alloc | apply Kd.R_drewN | apply Kd.R_drew)); exact HO181.out)); (case aS => exact (below_size (by repeat (first | (with_reducible first | exact HB.out | apply below_alloc | apply pw_below_drewN | apply below_drew1) | exact HB.out)))); (case aL => have := LMc3.out; omega); intro v183 w7 ho hb hg hat; rw [← Ny182.out] at ho; have n0_ := Aside0.mk (hb); have n1_ := Aside0.mk (ho); clear HB; clear HO181; have HB := n0_; have HO184 := n1_; clear n0_ n1_; clear ho hb hg hat) | ((with_reducible refine gate_builtin (b := .append) (xs := #[.tmp 11, .tmp 12]) rfl ?_); at_builtin; refine Kd.R_append (Kd.int .u8) (w0 := w) w.heap.size rfl (.tmp 11) (.tmp 12) 24 5 (.int .u8 0) 1 rfl Try.underlying24 info5 rfl (by decide) (by omega) v183 y182 0 [.int .u8 0] (fun _ => True) (fun _ => False) rfl rfl ?aP (fun _ hk => hk.elim) ?aF ?aO ?aB ?aS ?aL ?_; (case aP => exact rfl); (case aB => exact (by repeat (first | (with_reducible first | exact HB.out | apply below_alloc | apply pw_below_drewN | apply below_drew1) | exact HB.out))); (case aF => exact (fun _ _ => trivial)); (case aO => exact (by (with_reducible repeat (first | apply Kd.R_alloc | apply Kd.R_drewN | apply Kd.R_drew)); exact HO184.out)); (case aS => exact (below_size (by repeat (first | (with_reducible first | exact HB.out | apply below_alloc | apply pw_below_drewN | apply below_drew1) | exact HB.out)))); (case aL => have := LMc4.out; omega); intro v186 w8 ho hb hg hat; rw [← Ny185.out] at ho; have n0_ := Aside0.mk (hb); have n1_ := Aside0.mk (ho); clear HB; clear HO184; have HB := n0_; have HO187 := n1_; clear n0_ n1_; clear ho hb hg hat))
        go_ret
        exact ⟨_, by first | rfl | (simp [errW_none, errW_some] <;> rfl) | (simp [*, errW_none, errW_some] <;> rfl), by (with_reducible repeat (first | apply Kd.R_alloc | apply Kd.R_drewN | apply Kd.R_drew)); exact HO187.out, by repeat (first | (with_reducible first | exact HB.out | apply below_alloc | apply pw_below_drewN | apply below_drew1) | exact HB.out)⟩
    · rw [if_neg c4] at H
      exact absurd H (by simp)
  · rw [if_neg c3] at H
    exact absurd H (by simp)

end Go.Proofs.Ythlpmeiihchdjaa.PFlu
