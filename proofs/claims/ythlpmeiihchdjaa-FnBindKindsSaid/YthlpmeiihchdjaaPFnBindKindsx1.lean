-- PRINTED BY print.sh 35421559b90ae4d0a3588c463048766b98c2df88dd9212a6774a882060cdf62d: not written by this session
import Derived.Test.YthlpmeiihchdjaaPFnBindKindsx0
namespace Go.Proofs.Ythlpmeiihchdjaa.PFnBindKinds
open Go.RowKit Go.Proofs.YthlpmeiihchdjaaW.PrintWords Go.Proofs.YthlpmeiihchdjaaW.PrintLast Go.Proofs.YthlpmeiihchdjaaW.PrintMore
attribute [local go_sem] max2_int min2_int max_two min_two max_three min_three max_four min_four   -- for this text's walks alone
set_option linter.unusedVariables false
set_option linter.unusedSimpArgs false

/-! ### bson_Type_IsValid: function 36 -/
def bson_Type_IsValid.f (a0 : Int) : Option (Bool) := if a0 = 1 then (some true) else (if a0 = 2 then (some true) else (if a0 = 3 then (some true) else (if a0 = 4 then (some true) else (if a0 = 5 then (some true) else (if a0 = 6 then (some true) else (if a0 = 7 then (some true) else (if a0 = 8 then (some true) else (if a0 = 9 then (some true) else (if a0 = 10 then (some true) else (if a0 = 11 then (some true) else (if a0 = 12 then (some true) else (if a0 = 13 then (some true) else (if a0 = 14 then (some true) else (if a0 = 15 then (some true) else (if a0 = 16 then (some true) else (if a0 = 17 then (some true) else (if a0 = 18 then (some true) else (if a0 = 19 then (some true) else (if a0 = 255 then (some true) else (if a0 = 127 then (some true) else (some false)))))))))))))))))))))
set_option maxHeartbeats 8000000 in
set_option maxRecDepth 100000 in
theorem bson_Type_IsValid.calls (a0 : Int) (r : Bool) (w : World) (h : bson_Type_IsValid.f a0 = some r) :
    Calls Try.prog 36 #[.int .u8 a0] w fun e w' => e = .returned (.bool r) ∧ Drawn0 w w' := by
  have H : (if a0 = 1 then (some true) else (if a0 = 2 then (some true) else (if a0 = 3 then (some true) else (if a0 = 4 then (some true) else (if a0 = 5 then (some true) else (if a0 = 6 then (some true) else (if a0 = 7 then (some true) else (if a0 = 8 then (some true) else (if a0 = 9 then (some true) else (if a0 = 10 then (some true) else (if a0 = 11 then (some true) else (if a0 = 12 then (some true) else (if a0 = 13 then (some true) else (if a0 = 14 then (some true) else (if a0 = 15 then (some true) else (if a0 = 16 then (some true) else (if a0 = 17 then (some true) else (if a0 = 18 then (some true) else (if a0 = 19 then (some true) else (if a0 = 255 then (some true) else (if a0 = 127 then (some true) else (some false)))))))))))))))))))))) = some r := h
  clear h
  by_cases c2 : a0 = 1
  · rw [if_pos c2] at H
    have c2b0 : (a0 == 1) = true := beq_iff_eq.mpr c2
    have c2b1 : (a0 != 1) = false := bne_eq_false_iff_eq.mpr c2
    clear c2
    obtain rfl := Option.some.inj H
    go_enter Try.func36, Try.ntmps36
    go_wp2
    go_ret
    exact ⟨by first | rfl | (simp; done) | (simp [*]; done), by repeat (first | exact Drawn0.refl _ | apply Drawn0.step)⟩
  · rw [if_neg c2] at H
    have c2b0 : (a0 == 1) = false := beq_eq_false_iff_ne.mpr c2
    have c2b1 : (a0 != 1) = true := bne_iff_ne.mpr c2
    by_cases c3 : a0 = 2
    · rw [if_pos c3] at H
      have c3b0 : (a0 == 2) = true := beq_iff_eq.mpr c3
      have c3b1 : (a0 != 2) = false := bne_eq_false_iff_eq.mpr c3
      clear c3
      obtain rfl := Option.some.inj H
      go_enter Try.func36, Try.ntmps36
      go_wp2
      go_ret
      exact ⟨by first | rfl | (simp; done) | (simp [*]; done), by repeat (first | exact Drawn0.refl _ | apply Drawn0.step)⟩
    · rw [if_neg c3] at H
      have c3b0 : (a0 == 2) = false := beq_eq_false_iff_ne.mpr c3
      have c3b1 : (a0 != 2) = true := bne_iff_ne.mpr c3
      by_cases c4 : a0 = 3
      · rw [if_pos c4] at H
        have c4b0 : (a0 == 3) = true := beq_iff_eq.mpr c4
        have c4b1 : (a0 != 3) = false := bne_eq_false_iff_eq.mpr c4
        clear c4
        obtain rfl := Option.some.inj H
        go_enter Try.func36, Try.ntmps36
        go_wp2
        go_ret
        exact ⟨by first | rfl | (simp; done) | (simp [*]; done), by repeat (first | exact Drawn0.refl _ | apply Drawn0.step)⟩
      · rw [if_neg c4] at H
        have c4b0 : (a0 == 3) = false := beq_eq_false_iff_ne.mpr c4
        have c4b1 : (a0 != 3) = true := bne_iff_ne.mpr c4
        by_cases c5 : a0 = 4
        · rw [if_pos c5] at H
          have c5b0 : (a0 == 4) = true := beq_iff_eq.mpr c5
          have c5b1 : (a0 != 4) = false := bne_eq_false_iff_eq.mpr c5
          clear c5
          obtain rfl := Option.some.inj H
          go_enter Try.func36, Try.ntmps36
          go_wp2
          go_ret
          exact ⟨by first | rfl | (simp; done) | (simp [*]; done), by repeat (first | exact Drawn0.refl _ | apply Drawn0.step)⟩
        · rw [if_neg c5] at H
          have c5b0 : (a0 == 4) = false := beq_eq_false_iff_ne.mpr c5
          have c5b1 : (a0 != 4) = true := bne_iff_ne.mpr c5
          by_cases c6 : a0 = 5
          · rw [if_pos c6] at H
            have c6b0 : (a0 == 5) = true := beq_iff_eq.mpr c6
            have c6b1 : (a0 != 5) = false := bne_eq_false_iff_eq.mpr c6
            clear c6
            obtain rfl := Option.some.inj H
            go_enter Try.func36, Try.ntmps36
            go_wp2
            go_ret
            exact ⟨by first | rfl | (simp; done) | (simp [*]; done), by repeat (first | exact Drawn0.refl _ | apply Drawn0.step)⟩
          · rw [if_neg c6] at H
            have c6b0 : (a0 == 5) = false := beq_eq_false_iff_ne.mpr c6
            have c6b1 : (a0 != 5) = true := bne_iff_ne.mpr c6
            by_cases c7 : a0 = 6
            · rw [if_pos c7] at H
              have c7b0 : (a0 == 6) = true := beq_iff_eq.mpr c7
              have c7b1 : (a0 != 6) = false := bne_eq_false_iff_eq.mpr c7
              clear c7
              obtain rfl := Option.some.inj H
              go_enter Try.func36, Try.ntmps36
              go_wp2
              go_ret
              exact ⟨by first | rfl | (simp; done) | (simp [*]; done), by repeat (first | exact Drawn0.refl _ | apply Drawn0.step)⟩
            · rw [if_neg c7] at H
              have c7b0 : (a0 == 6) = false := beq_eq_false_iff_ne.mpr c7
              have c7b1 : (a0 != 6) = true := bne_iff_ne.mpr c7
              by_cases c8 : a0 = 7
              · rw [if_pos c8] at H
                have c8b0 : (a0 == 7) = true := beq_iff_eq.mpr c8
                have c8b1 : (a0 != 7) = false := bne_eq_false_iff_eq.mpr c8
                clear c8
                obtain rfl := Option.some.inj H
                go_enter Try.func36, Try.ntmps36
                go_wp2
                go_ret
                exact ⟨by first | rfl | (simp; done) | (simp [*]; done), by repeat (first | exact Drawn0.refl _ | apply Drawn0.step)⟩
              · rw [if_neg c8] at H
                have c8b0 : (a0 == 7) = false := beq_eq_false_iff_ne.mpr c8
                have c8b1 : (a0 != 7) = true := bne_iff_ne.mpr c8
                by_cases c9 : a0 = 8
                · rw [if_pos c9] at H
                  have c9b0 : (a0 == 8) = true := beq_iff_eq.mpr c9
                  have c9b1 : (a0 != 8) = false := bne_eq_false_iff_eq.mpr c9
                  clear c9
                  obtain rfl := Option.some.inj H
                  go_enter Try.func36, Try.ntmps36
                  go_wp2
                  go_ret
                  exact ⟨by first | rfl | (simp; done) | (simp [*]; done), by repeat (first | exact Drawn0.refl _ | apply Drawn0.step)⟩
                · rw [if_neg c9] at H
                  have c9b0 : (a0 == 8) = false := beq_eq_false_iff_ne.mpr c9
                  have c9b1 : (a0 != 8) = true := bne_iff_ne.mpr c9
                  by_cases c10 : a0 = 9
                  · rw [if_pos c10] at H
                    have c10b0 : (a0 == 9) = true := beq_iff_eq.mpr c10
                    have c10b1 : (a0 != 9) = false := bne_eq_false_iff_eq.mpr c10
                    clear c10
                    obtain rfl := Option.some.inj H
                    go_enter Try.func36, Try.ntmps36
                    go_wp2
                    go_ret
                    exact ⟨by first | rfl | (simp; done) | (simp [*]; done), by repeat (first | exact Drawn0.refl _ | apply Drawn0.step)⟩
                  · rw [if_neg c10] at H
                    have c10b0 : (a0 == 9) = false := beq_eq_false_iff_ne.mpr c10
                    have c10b1 : (a0 != 9) = true := bne_iff_ne.mpr c10
                    by_cases c11 : a0 = 10
                    · rw [if_pos c11] at H
                      have c11b0 : (a0 == 10) = true := beq_iff_eq.mpr c11
                      have c11b1 : (a0 != 10) = false := bne_eq_false_iff_eq.mpr c11
                      clear c11
                      obtain rfl := Option.some.inj H
                      go_enter Try.func36, Try.ntmps36
                      go_wp2
                      go_ret
                      exact ⟨by first | rfl | (simp; done) | (simp [*]; done), by repeat (first | exact Drawn0.refl _ | apply Drawn0.step)⟩
                    · rw [if_neg c11] at H
                      have c11b0 : (a0 == 10) = false := beq_eq_false_iff_ne.mpr c11
                      have c11b1 : (a0 != 10) = true := bne_iff_ne.mpr c11
                      by_cases c12 : a0 = 11
                      · rw [if_pos c12] at H
                        have c12b0 : (a0 == 11) = true := beq_iff_eq.mpr c12
                        have c12b1 : (a0 != 11) = false := bne_eq_false_iff_eq.mpr c12
                        clear c12
                        obtain rfl := Option.some.inj H
                        go_enter Try.func36, Try.ntmps36
                        go_wp2
                        go_ret
                        exact ⟨by first | rfl | (simp; done) | (simp [*]; done), by repeat (first | exact Drawn0.refl _ | apply Drawn0.step)⟩
                      · rw [if_neg c12] at H
                        have c12b0 : (a0 == 11) = false := beq_eq_false_iff_ne.mpr c12
                        have c12b1 : (a0 != 11) = true := bne_iff_ne.mpr c12
                        by_cases c13 : a0 = 12
                        · rw [if_pos c13] at H
                          have c13b0 : (a0 == 12) = true := beq_iff_eq.mpr c13
                          have c13b1 : (a0 != 12) = false := bne_eq_false_iff_eq.mpr c13
                          clear c13
                          obtain rfl := Option.some.inj H
                          go_enter Try.func36, Try.ntmps36
                          go_wp2
                          go_ret
                          exact ⟨by first | rfl | (simp; done) | (simp [*]; done), by repeat (first | exact Drawn0.refl _ | apply Drawn0.step)⟩
                        · rw [if_neg c13] at H
                          have c13b0 : (a0 == 12) = false := beq_eq_false_iff_ne.mpr c13
                          have c13b1 : (a0 != 12) = true := bne_iff_ne.mpr c13
                          by_cases c14 : a0 = 13
                          · rw [if_pos c14] at H
                            have c14b0 : (a0 == 13) = true := beq_iff_eq.mpr c14
                            have c14b1 : (a0 != 13) = false := bne_eq_false_iff_eq.mpr c14
                            clear c14
                            obtain rfl := Option.some.inj H
                            go_enter Try.func36, Try.ntmps36
                            go_wp2
                            go_ret
                            exact ⟨by first | rfl | (simp; done) | (simp [*]; done), by repeat (first | exact Drawn0.refl _ | apply Drawn0.step)⟩
                          · rw [if_neg c14] at H
                            have c14b0 : (a0 == 13) = false := beq_eq_false_iff_ne.mpr c14
                            have c14b1 : (a0 != 13) = true := bne_iff_ne.mpr c14
                            by_cases c15 : a0 = 14
                            · rw [if_pos c15] at H
                              have c15b0 : (a0 == 14) = true := beq_iff_eq.mpr c15
                              have c15b1 : (a0 != 14) = false := bne_eq_false_iff_eq.mpr c15
                              clear c15
                              obtain rfl := Option.some.inj H
                              go_enter Try.func36, Try.ntmps36
                              go_wp2
                              go_ret
                              exact ⟨by first | rfl | (simp; done) | (simp [*]; done), by repeat (first | exact Drawn0.refl _ | apply Drawn0.step)⟩
                            · rw [if_neg c15] at H
                              have c15b0 : (a0 == 14) = false := beq_eq_false_iff_ne.mpr c15
                              have c15b1 : (a0 != 14) = true := bne_iff_ne.mpr c15
                              by_cases c16 : a0 = 15
                              · rw [if_pos c16] at H
                                have c16b0 : (a0 == 15) = true := beq_iff_eq.mpr c16
                                have c16b1 : (a0 != 15) = false := bne_eq_false_iff_eq.mpr c16
                                clear c16
                                obtain rfl := Option.some.inj H
                                go_enter Try.func36, Try.ntmps36
                                go_wp2
                                go_ret
                                exact ⟨by first | rfl | (simp; done) | (simp [*]; done), by repeat (first | exact Drawn0.refl _ | apply Drawn0.step)⟩
                              · rw [if_neg c16] at H
                                have c16b0 : (a0 == 15) = false := beq_eq_false_iff_ne.mpr c16
                                have c16b1 : (a0 != 15) = true := bne_iff_ne.mpr c16
                                by_cases c17 : a0 = 16
                                · rw [if_pos c17] at H
                                  have c17b0 : (a0 == 16) = true := beq_iff_eq.mpr c17
                                  have c17b1 : (a0 != 16) = false := bne_eq_false_iff_eq.mpr c17
                                  clear c17
                                  obtain rfl := Option.some.inj H
                                  go_enter Try.func36, Try.ntmps36
                                  go_wp2
                                  go_ret
                                  exact ⟨by first | rfl | (simp; done) | (simp [*]; done), by repeat (first | exact Drawn0.refl _ | apply Drawn0.step)⟩
                                · rw [if_neg c17] at H
                                  have c17b0 : (a0 == 16) = false := beq_eq_false_iff_ne.mpr c17
                                  have c17b1 : (a0 != 16) = true := bne_iff_ne.mpr c17
                                  by_cases c18 : a0 = 17
                                  · rw [if_pos c18] at H
                                    have c18b0 : (a0 == 17) = true := beq_iff_eq.mpr c18
                                    have c18b1 : (a0 != 17) = false := bne_eq_false_iff_eq.mpr c18
                                    clear c18
                                    obtain rfl := Option.some.inj H
                                    go_enter Try.func36, Try.ntmps36
                                    go_wp2
                                    go_ret
                                    exact ⟨by first | rfl | (simp; done) | (simp [*]; done), by repeat (first | exact Drawn0.refl _ | apply Drawn0.step)⟩
                                  · rw [if_neg c18] at H
                                    have c18b0 : (a0 == 17) = false := beq_eq_false_iff_ne.mpr c18
                                    have c18b1 : (a0 != 17) = true := bne_iff_ne.mpr c18
                                    by_cases c19 : a0 = 18
                                    · rw [if_pos c19] at H
                                      have c19b0 : (a0 == 18) = true := beq_iff_eq.mpr c19
                                      have c19b1 : (a0 != 18) = false := bne_eq_false_iff_eq.mpr c19
                                      clear c19
                                      obtain rfl := Option.some.inj H
                                      go_enter Try.func36, Try.ntmps36
                                      go_wp2
                                      go_ret
                                      exact ⟨by first | rfl | (simp; done) | (simp [*]; done), by repeat (first | exact Drawn0.refl _ | apply Drawn0.step)⟩
                                    · rw [if_neg c19] at H
                                      have c19b0 : (a0 == 18) = false := beq_eq_false_iff_ne.mpr c19
                                      have c19b1 : (a0 != 18) = true := bne_iff_ne.mpr c19
                                      by_cases c20 : a0 = 19
                                      · rw [if_pos c20] at H
                                        have c20b0 : (a0 == 19) = true := beq_iff_eq.mpr c20
                                        have c20b1 : (a0 != 19) = false := bne_eq_false_iff_eq.mpr c20
                                        clear c20
                                        obtain rfl := Option.some.inj H
                                        go_enter Try.func36, Try.ntmps36
                                        go_wp2
                                        go_ret
                                        exact ⟨by first | rfl | (simp; done) | (simp [*]; done), by repeat (first | exact Drawn0.refl _ | apply Drawn0.step)⟩
                                      · rw [if_neg c20] at H
                                        have c20b0 : (a0 == 19) = false := beq_eq_false_iff_ne.mpr c20
                                        have c20b1 : (a0 != 19) = true := bne_iff_ne.mpr c20
                                        by_cases c21 : a0 = 255
                                        · rw [if_pos c21] at H
                                          have c21b0 : (a0 == 255) = true := beq_iff_eq.mpr c21
                                          have c21b1 : (a0 != 255) = false := bne_eq_false_iff_eq.mpr c21
                                          clear c21
                                          obtain rfl := Option.some.inj H
                                          go_enter Try.func36, Try.ntmps36
                                          go_wp2
                                          go_ret
                                          exact ⟨by first | rfl | (simp; done) | (simp [*]; done), by repeat (first | exact Drawn0.refl _ | apply Drawn0.step)⟩
                                        · rw [if_neg c21] at H
                                          have c21b0 : (a0 == 255) = false := beq_eq_false_iff_ne.mpr c21
                                          have c21b1 : (a0 != 255) = true := bne_iff_ne.mpr c21
                                          by_cases c22 : a0 = 127
                                          · rw [if_pos c22] at H
                                            have c22b0 : (a0 == 127) = true := beq_iff_eq.mpr c22
                                            have c22b1 : (a0 != 127) = false := bne_eq_false_iff_eq.mpr c22
                                            clear c22
                                            obtain rfl := Option.some.inj H
                                            go_enter Try.func36, Try.ntmps36
                                            go_wp2
                                            go_ret
                                            exact ⟨by first | rfl | (simp; done) | (simp [*]; done), by repeat (first | exact Drawn0.refl _ | apply Drawn0.step)⟩
                                          · rw [if_neg c22] at H
                                            have c22b0 : (a0 == 127) = false := beq_eq_false_iff_ne.mpr c22
                                            have c22b1 : (a0 != 127) = true := bne_iff_ne.mpr c22
                                            obtain rfl := Option.some.inj H
                                            go_enter Try.func36, Try.ntmps36
                                            go_wp2
                                            go_ret
                                            exact ⟨by first | rfl | (simp; done) | (simp [*]; done), by repeat (first | exact Drawn0.refl _ | apply Drawn0.step)⟩

/-! ### impl_KindValid: function 9 -/
def impl_KindValid.f (a0 : Int) : Option (Bool) := (bson_Type_IsValid.f ((a0) % 256)).bind fun t101 => (some t101)
set_option maxHeartbeats 8000000 in
set_option maxRecDepth 100000 in
theorem impl_KindValid.calls (a0 : Int) (r : Bool) (w : World) (h : impl_KindValid.f a0 = some r) :
    Calls Try.prog 9 #[.int .i64 a0] w fun e w' => e = .returned (.bool r) ∧ Drawn0 w w' := by
  have H : ((bson_Type_IsValid.f ((a0) % 256)).bind fun t101 => (some t101)) = some r := h
  clear h
  replace H := Option.bind_eq_some_iff.mp H
  obtain ⟨t101, A20, H⟩ := H
  replace H : (some t101) = some r := H
  have A2 := Aside0.mk A20
  clear A20
  obtain rfl := Option.some.inj H
  go_enter Try.func9, Try.ntmps9
  go_wp2_with (first | ((with_reducible refine gate_callee (f := 36) rfl ?_); refine goesL_ (some 5) rfl rfl Try.func36 (by kernel_rfl) rfl #[.int .u8 ((a0) % 256)] rfl (by (try simp only [List.map_toArray, List.map_cons, List.map_nil]); first | done | rfl | (simp only [List.length_drop, List.length_take]; rfl)) ?_; (with_reducible refine (bson_Type_IsValid.calls ((a0) % 256) t101 _ A2.out).mono ?_); rintro e w' ⟨rfl, ⟨nd, rfl⟩⟩; refine ⟨_, rfl, ?_⟩))
  go_ret
  exact ⟨by first | rfl | (simp; done) | (simp [*]; done), by repeat (first | exact Drawn0.refl _ | apply Drawn0.step)⟩

/-! ### spec_DocKnown: function 10 -/
def spec_DocKnown.f (a0 : Int) : Option (Bool) := if a0 ≥ 1 then (if a0 ≤ 19 then (some true) else (if a0 = 255 then (some true) else (some (a0 == 127)))) else (if a0 = 255 then (some true) else (some (a0 == 127)))
set_option maxHeartbeats 8000000 in
set_option maxRecDepth 100000 in
theorem spec_DocKnown.calls (a0 : Int) (r : Bool) (w : World) (h : spec_DocKnown.f a0 = some r) :
    Calls Try.prog 10 #[.int .i64 a0] w fun e w' => e = .returned (.bool r) ∧ Drawn0 w w' := by
  have H : (if a0 ≥ 1 then (if a0 ≤ 19 then (some true) else (if a0 = 255 then (some true) else (some (a0 == 127)))) else (if a0 = 255 then (some true) else (some (a0 == 127)))) = some r := h
  clear h
  by_cases c2 : a0 ≥ 1
  · rw [if_pos c2] at H
    have c2b0 : decide (1 ≤ a0) = true := decide_eq_true c2
    clear c2
    by_cases c3 : a0 ≤ 19
    · rw [if_pos c3] at H
      have c3b0 : decide (a0 ≤ 19) = true := decide_eq_true c3
      clear c3
      obtain rfl := Option.some.inj H
      go_enter Try.func10, Try.ntmps10
      go_wp2
      go_ret
      exact ⟨by first | rfl | (simp; done) | (simp [*]; done), by repeat (first | exact Drawn0.refl _ | apply Drawn0.step)⟩
    · rw [if_neg c3] at H
      have c3b0 : decide (a0 ≤ 19) = false := decide_eq_false c3
      clear c3
      by_cases c4 : a0 = 255
      · rw [if_pos c4] at H
        have c4b0 : (a0 == 255) = true := beq_iff_eq.mpr c4
        have c4b1 : (a0 != 255) = false := bne_eq_false_iff_eq.mpr c4
        clear c4
        obtain rfl := Option.some.inj H
        go_enter Try.func10, Try.ntmps10
        go_wp2
        go_ret
        exact ⟨by first | rfl | (simp; done) | (simp [*]; done), by repeat (first | exact Drawn0.refl _ | apply Drawn0.step)⟩
      · rw [if_neg c4] at H
        have c4b0 : (a0 == 255) = false := beq_eq_false_iff_ne.mpr c4
        have c4b1 : (a0 != 255) = true := bne_iff_ne.mpr c4
        obtain rfl := Option.some.inj H
        go_enter Try.func10, Try.ntmps10
        go_wp2
        go_ret
        exact ⟨by first | rfl | (simp; done) | (simp [*]; done), by repeat (first | exact Drawn0.refl _ | apply Drawn0.step)⟩
  · rw [if_neg c2] at H
    have c2b0 : decide (1 ≤ a0) = false := decide_eq_false c2
    clear c2
    by_cases c5 : a0 = 255
    · rw [if_pos c5] at H
      have c5b0 : (a0 == 255) = true := beq_iff_eq.mpr c5
      have c5b1 : (a0 != 255) = false := bne_eq_false_iff_eq.mpr c5
      clear c5
      obtain rfl := Option.some.inj H
      go_enter Try.func10, Try.ntmps10
      go_wp2
      go_ret
      exact ⟨by first | rfl | (simp; done) | (simp [*]; done), by repeat (first | exact Drawn0.refl _ | apply Drawn0.step)⟩
    · rw [if_neg c5] at H
      have c5b0 : (a0 == 255) = false := beq_eq_false_iff_ne.mpr c5
      have c5b1 : (a0 != 255) = true := bne_iff_ne.mpr c5
      obtain rfl := Option.some.inj H
      go_enter Try.func10, Try.ntmps10
      go_wp2
      go_ret
      exact ⟨by first | rfl | (simp; done) | (simp [*]; done), by repeat (first | exact Drawn0.refl _ | apply Drawn0.step)⟩

/-! ### laws_FnBindKinds: function 3 -/
def laws_FnBindKinds.f (a0 : Int) : Option (Bool) := (impl_KindValid.f (wrap64 (a0))).bind fun t102 => ((spec_DocKnown.f (wrap64 (a0))).bind fun t103 => (some (t102 == t103)))
set_option maxHeartbeats 8000000 in
set_option maxRecDepth 100000 in
theorem laws_FnBindKinds.calls (a0 : Int) (r : Bool) (w : World) (h : laws_FnBindKinds.f a0 = some r) :
    Calls Try.prog 3 #[.int .u8 a0] w fun e w' => e = .returned (.bool r) ∧ Drawn0 w w' := by
  have H : ((impl_KindValid.f (wrap64 (a0))).bind fun t102 => ((spec_DocKnown.f (wrap64 (a0))).bind fun t103 => (some (t102 == t103)))) = some r := h
  clear h
  replace H := Option.bind_eq_some_iff.mp H
  obtain ⟨t102, A20, H⟩ := H
  replace H : ((spec_DocKnown.f (wrap64 (a0))).bind fun t103 => (some (t102 == t103))) = some r := H
  have A2 := Aside0.mk A20
  clear A20
  replace H := Option.bind_eq_some_iff.mp H
  obtain ⟨t103, A30, H⟩ := H
  replace H : (some (t102 == t103)) = some r := H
  have A3 := Aside0.mk A30
  clear A30
  obtain rfl := Option.some.inj H
  go_enter Try.func3, Try.ntmps3
  go_wp2_with (first | ((with_reducible refine gate_callee (f := 9) rfl ?_); refine goesL_ (some 5) rfl rfl Try.func9 (by kernel_rfl) rfl #[.int .i64 (wrap64 (a0))] rfl (by (try simp only [List.map_toArray, List.map_cons, List.map_nil]); first | done | rfl | (simp only [List.length_drop, List.length_take]; rfl)) ?_; (with_reducible refine (impl_KindValid.calls (wrap64 (a0)) t102 _ A2.out).mono ?_); rintro e w' ⟨rfl, ⟨nd, rfl⟩⟩; refine ⟨_, rfl, ?_⟩) | ((with_reducible refine gate_callee (f := 10) rfl ?_); refine goesL_ (some 8) rfl rfl Try.func10 (by kernel_rfl) rfl #[.int .i64 (wrap64 (a0))] rfl (by (try simp only [List.map_toArray, List.map_cons, List.map_nil]); first | done | rfl | (simp only [List.length_drop, List.length_take]; rfl)) ?_; (with_reducible refine (spec_DocKnown.calls (wrap64 (a0)) t103 _ A3.out).mono ?_); rintro e w' ⟨rfl, ⟨nd, rfl⟩⟩; refine ⟨_, rfl, ?_⟩))
  go_ret
  exact ⟨by first | rfl | (simp; done) | (simp [*]; done), by repeat (first | exact Drawn0.refl _ | apply Drawn0.step)⟩

/-- THE ONE PURE STATEMENT of laws_FnBindKinds: yours. -/
def laws_FnBindKinds.Pure : Prop := ∀ (a0 : Int), (Lit.int .u8 a0).wf = true → laws_FnBindKinds.f a0 = some true
theorem laws_FnBindKinds.walk (P : laws_FnBindKinds.Pure) (a0 : Int) (w : World) (w0 : (Lit.int .u8 a0).wf = true) :
    Calls Try.prog 3 #[.int .u8 a0] w fun e w' => e = .returned (.bool true) ∧ Below w.heap.size w w' := by
  have h := P a0 w0
  refine (laws_FnBindKinds.calls a0 true w h).mono ?_
  rintro e w' ⟨rfl, hd⟩
  exact ⟨rfl, hd.below⟩

end Go.Proofs.Ythlpmeiihchdjaa.PFnBindKinds
