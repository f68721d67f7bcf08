-- PRINTED BY print.sh 35421559b90ae4d0a3588c463048766b98c2df88dd9212a6774a882060cdf62d: not written by this session
import Derived.Test.YthlpmeiihchdjaaPFnExtWrappersx0
namespace Go.Proofs.Ythlpmeiihchdjaa.PFnExtWrappers
open Go.RowKit Go.Proofs.YthlpmeiihchdjaaW.PrintWords Go.Proofs.YthlpmeiihchdjaaW.PrintLast Go.Proofs.YthlpmeiihchdjaaW.PrintMore
attribute [local go_sem] max2_int min2_int max_two min_two max_three min_three max_four min_four   -- for this text's walks alone
set_option linter.unusedVariables false
set_option linter.unusedSimpArgs false

/-! ### bson_wrapperKeyBSONType: function 60 -/
def bson_wrapperKeyBSONType.f (a0 : ByteArray) : Option (Int) := if a0.toList = ([36, 110, 117, 109, 98, 101, 114, 73, 110, 116] : List UInt8) then (some 16) else (if a0.toList = ([36, 110, 117, 109, 98, 101, 114, 76, 111, 110, 103] : List UInt8) then (some 18) else (if a0.toList = ([36, 111, 105, 100] : List UInt8) then (some 7) else (if a0.toList = ([36, 115, 121, 109, 98, 111, 108] : List UInt8) then (some 14) else (if a0.toList = ([36, 110, 117, 109, 98, 101, 114, 68, 111, 117, 98, 108, 101] : List UInt8) then (some 1) else (if a0.toList = ([36, 110, 117, 109, 98, 101, 114, 68, 101, 99, 105, 109, 97, 108] : List UInt8) then (some 19) else (if a0.toList = ([36, 98, 105, 110, 97, 114, 121] : List UInt8) then (some 5) else (if a0.toList = ([36, 99, 111, 100, 101] : List UInt8) then (some 13) else (if a0.toList = ([36, 115, 99, 111, 112, 101] : List UInt8) then (some 15) else (if a0.toList = ([36, 116, 105, 109, 101, 115, 116, 97, 109, 112] : List UInt8) then (some 17) else (if a0.toList = ([36, 114, 101, 103, 117, 108, 97, 114, 69, 120, 112, 114, 101, 115, 115, 105, 111, 110] : List UInt8) then (some 11) else (if a0.toList = ([36, 100, 98, 80, 111, 105, 110, 116, 101, 114] : List UInt8) then (some 12) else (if a0.toList = ([36, 100, 97, 116, 101] : List UInt8) then (some 9) else (if a0.toList = ([36, 109, 105, 110, 75, 101, 121] : List UInt8) then (some 255) else (if a0.toList = ([36, 109, 97, 120, 75, 101, 121] : List UInt8) then (some 127) else (if a0.toList = ([36, 117, 110, 100, 101, 102, 105, 110, 101, 100] : List UInt8) then (some 6) else (some 3))))))))))))))))
set_option maxHeartbeats 8000000 in
set_option maxRecDepth 100000 in
theorem bson_wrapperKeyBSONType.calls (a0 : ByteArray) (r : Int) (w : World) (h : bson_wrapperKeyBSONType.f a0 = some r) :
    Calls Try.prog 60 #[.string a0] w fun e w' => e = .returned (.int .u8 r) ∧ Drawn0 w w' := by
  have H : (if a0.toList = ([36, 110, 117, 109, 98, 101, 114, 73, 110, 116] : List UInt8) then (some 16) else (if a0.toList = ([36, 110, 117, 109, 98, 101, 114, 76, 111, 110, 103] : List UInt8) then (some 18) else (if a0.toList = ([36, 111, 105, 100] : List UInt8) then (some 7) else (if a0.toList = ([36, 115, 121, 109, 98, 111, 108] : List UInt8) then (some 14) else (if a0.toList = ([36, 110, 117, 109, 98, 101, 114, 68, 111, 117, 98, 108, 101] : List UInt8) then (some 1) else (if a0.toList = ([36, 110, 117, 109, 98, 101, 114, 68, 101, 99, 105, 109, 97, 108] : List UInt8) then (some 19) else (if a0.toList = ([36, 98, 105, 110, 97, 114, 121] : List UInt8) then (some 5) else (if a0.toList = ([36, 99, 111, 100, 101] : List UInt8) then (some 13) else (if a0.toList = ([36, 115, 99, 111, 112, 101] : List UInt8) then (some 15) else (if a0.toList = ([36, 116, 105, 109, 101, 115, 116, 97, 109, 112] : List UInt8) then (some 17) else (if a0.toList = ([36, 114, 101, 103, 117, 108, 97, 114, 69, 120, 112, 114, 101, 115, 115, 105, 111, 110] : List UInt8) then (some 11) else (if a0.toList = ([36, 100, 98, 80, 111, 105, 110, 116, 101, 114] : List UInt8) then (some 12) else (if a0.toList = ([36, 100, 97, 116, 101] : List UInt8) then (some 9) else (if a0.toList = ([36, 109, 105, 110, 75, 101, 121] : List UInt8) then (some 255) else (if a0.toList = ([36, 109, 97, 120, 75, 101, 121] : List UInt8) then (some 127) else (if a0.toList = ([36, 117, 110, 100, 101, 102, 105, 110, 101, 100] : List UInt8) then (some 6) else (some 3))))))))))))))))) = some r := h
  clear h
  by_cases c2 : a0.toList = ([36, 110, 117, 109, 98, 101, 114, 73, 110, 116] : List UInt8)
  · rw [if_pos c2] at H
    have c2b0 : (a0.toList == ([36, 110, 117, 109, 98, 101, 114, 73, 110, 116] : List UInt8)) = true := beq_iff_eq.mpr c2
    have c2b1 : (a0.toList != ([36, 110, 117, 109, 98, 101, 114, 73, 110, 116] : List UInt8)) = false := bne_eq_false_iff_eq.mpr c2
    clear c2
    obtain rfl := Option.some.inj H
    go_enter Try.func60, Try.ntmps60
    go_wp2
    go_ret
    exact ⟨by first | rfl | (simp; done) | (simp [*]; done), by repeat (first | exact Drawn0.refl _ | apply Drawn0.step)⟩
  · rw [if_neg c2] at H
    have c2b0 : (a0.toList == ([36, 110, 117, 109, 98, 101, 114, 73, 110, 116] : List UInt8)) = false := beq_eq_false_iff_ne.mpr c2
    have c2b1 : (a0.toList != ([36, 110, 117, 109, 98, 101, 114, 73, 110, 116] : List UInt8)) = true := bne_iff_ne.mpr c2
    by_cases c3 : a0.toList = ([36, 110, 117, 109, 98, 101, 114, 76, 111, 110, 103] : List UInt8)
    · rw [if_pos c3] at H
      have c3b0 : (a0.toList == ([36, 110, 117, 109, 98, 101, 114, 76, 111, 110, 103] : List UInt8)) = true := beq_iff_eq.mpr c3
      have c3b1 : (a0.toList != ([36, 110, 117, 109, 98, 101, 114, 76, 111, 110, 103] : List UInt8)) = false := bne_eq_false_iff_eq.mpr c3
      clear c3
      obtain rfl := Option.some.inj H
      go_enter Try.func60, Try.ntmps60
      go_wp2
      go_ret
      exact ⟨by first | rfl | (simp; done) | (simp [*]; done), by repeat (first | exact Drawn0.refl _ | apply Drawn0.step)⟩
    · rw [if_neg c3] at H
      have c3b0 : (a0.toList == ([36, 110, 117, 109, 98, 101, 114, 76, 111, 110, 103] : List UInt8)) = false := beq_eq_false_iff_ne.mpr c3
      have c3b1 : (a0.toList != ([36, 110, 117, 109, 98, 101, 114, 76, 111, 110, 103] : List UInt8)) = true := bne_iff_ne.mpr c3
      by_cases c4 : a0.toList = ([36, 111, 105, 100] : List UInt8)
      · rw [if_pos c4] at H
        have c4b0 : (a0.toList == ([36, 111, 105, 100] : List UInt8)) = true := beq_iff_eq.mpr c4
        have c4b1 : (a0.toList != ([36, 111, 105, 100] : List UInt8)) = false := bne_eq_false_iff_eq.mpr c4
        clear c4
        obtain rfl := Option.some.inj H
        go_enter Try.func60, Try.ntmps60
        go_wp2
        go_ret
        exact ⟨by first | rfl | (simp; done) | (simp [*]; done), by repeat (first | exact Drawn0.refl _ | apply Drawn0.step)⟩
      · rw [if_neg c4] at H
        have c4b0 : (a0.toList == ([36, 111, 105, 100] : List UInt8)) = false := beq_eq_false_iff_ne.mpr c4
        have c4b1 : (a0.toList != ([36, 111, 105, 100] : List UInt8)) = true := bne_iff_ne.mpr c4
        by_cases c5 : a0.toList = ([36, 115, 121, 109, 98, 111, 108] : List UInt8)
        · rw [if_pos c5] at H
          have c5b0 : (a0.toList == ([36, 115, 121, 109, 98, 111, 108] : List UInt8)) = true := beq_iff_eq.mpr c5
          have c5b1 : (a0.toList != ([36, 115, 121, 109, 98, 111, 108] : List UInt8)) = false := bne_eq_false_iff_eq.mpr c5
          clear c5
          obtain rfl := Option.some.inj H
          go_enter Try.func60, Try.ntmps60
          go_wp2
          go_ret
          exact ⟨by first | rfl | (simp; done) | (simp [*]; done), by repeat (first | exact Drawn0.refl _ | apply Drawn0.step)⟩
        · rw [if_neg c5] at H
          have c5b0 : (a0.toList == ([36, 115, 121, 109, 98, 111, 108] : List UInt8)) = false := beq_eq_false_iff_ne.mpr c5
          have c5b1 : (a0.toList != ([36, 115, 121, 109, 98, 111, 108] : List UInt8)) = true := bne_iff_ne.mpr c5
          by_cases c6 : a0.toList = ([36, 110, 117, 109, 98, 101, 114, 68, 111, 117, 98, 108, 101] : List UInt8)
          · rw [if_pos c6] at H
            have c6b0 : (a0.toList == ([36, 110, 117, 109, 98, 101, 114, 68, 111, 117, 98, 108, 101] : List UInt8)) = true := beq_iff_eq.mpr c6
            have c6b1 : (a0.toList != ([36, 110, 117, 109, 98, 101, 114, 68, 111, 117, 98, 108, 101] : List UInt8)) = false := bne_eq_false_iff_eq.mpr c6
            clear c6
            obtain rfl := Option.some.inj H
            go_enter Try.func60, Try.ntmps60
            go_wp2
            go_ret
            exact ⟨by first | rfl | (simp; done) | (simp [*]; done), by repeat (first | exact Drawn0.refl _ | apply Drawn0.step)⟩
          · rw [if_neg c6] at H
            have c6b0 : (a0.toList == ([36, 110, 117, 109, 98, 101, 114, 68, 111, 117, 98, 108, 101] : List UInt8)) = false := beq_eq_false_iff_ne.mpr c6
            have c6b1 : (a0.toList != ([36, 110, 117, 109, 98, 101, 114, 68, 111, 117, 98, 108, 101] : List UInt8)) = true := bne_iff_ne.mpr c6
            by_cases c7 : a0.toList = ([36, 110, 117, 109, 98, 101, 114, 68, 101, 99, 105, 109, 97, 108] : List UInt8)
            · rw [if_pos c7] at H
              have c7b0 : (a0.toList == ([36, 110, 117, 109, 98, 101, 114, 68, 101, 99, 105, 109, 97, 108] : List UInt8)) = true := beq_iff_eq.mpr c7
              have c7b1 : (a0.toList != ([36, 110, 117, 109, 98, 101, 114, 68, 101, 99, 105, 109, 97, 108] : List UInt8)) = false := bne_eq_false_iff_eq.mpr c7
              clear c7
              obtain rfl := Option.some.inj H
              go_enter Try.func60, Try.ntmps60
              go_wp2
              go_ret
              exact ⟨by first | rfl | (simp; done) | (simp [*]; done), by repeat (first | exact Drawn0.refl _ | apply Drawn0.step)⟩
            · rw [if_neg c7] at H
              have c7b0 : (a0.toList == ([36, 110, 117, 109, 98, 101, 114, 68, 101, 99, 105, 109, 97, 108] : List UInt8)) = false := beq_eq_false_iff_ne.mpr c7
              have c7b1 : (a0.toList != ([36, 110, 117, 109, 98, 101, 114, 68, 101, 99, 105, 109, 97, 108] : List UInt8)) = true := bne_iff_ne.mpr c7
              by_cases c8 : a0.toList = ([36, 98, 105, 110, 97, 114, 121] : List UInt8)
              · rw [if_pos c8] at H
                have c8b0 : (a0.toList == ([36, 98, 105, 110, 97, 114, 121] : List UInt8)) = true := beq_iff_eq.mpr c8
                have c8b1 : (a0.toList != ([36, 98, 105, 110, 97, 114, 121] : List UInt8)) = false := bne_eq_false_iff_eq.mpr c8
                clear c8
                obtain rfl := Option.some.inj H
                go_enter Try.func60, Try.ntmps60
                go_wp2
                go_ret
                exact ⟨by first | rfl | (simp; done) | (simp [*]; done), by repeat (first | exact Drawn0.refl _ | apply Drawn0.step)⟩
              · rw [if_neg c8] at H
                have c8b0 : (a0.toList == ([36, 98, 105, 110, 97, 114, 121] : List UInt8)) = false := beq_eq_false_iff_ne.mpr c8
                have c8b1 : (a0.toList != ([36, 98, 105, 110, 97, 114, 121] : List UInt8)) = true := bne_iff_ne.mpr c8
                by_cases c9 : a0.toList = ([36, 99, 111, 100, 101] : List UInt8)
                · rw [if_pos c9] at H
                  have c9b0 : (a0.toList == ([36, 99, 111, 100, 101] : List UInt8)) = true := beq_iff_eq.mpr c9
                  have c9b1 : (a0.toList != ([36, 99, 111, 100, 101] : List UInt8)) = false := bne_eq_false_iff_eq.mpr c9
                  clear c9
                  obtain rfl := Option.some.inj H
                  go_enter Try.func60, Try.ntmps60
                  go_wp2
                  go_ret
                  exact ⟨by first | rfl | (simp; done) | (simp [*]; done), by repeat (first | exact Drawn0.refl _ | apply Drawn0.step)⟩
                · rw [if_neg c9] at H
                  have c9b0 : (a0.toList == ([36, 99, 111, 100, 101] : List UInt8)) = false := beq_eq_false_iff_ne.mpr c9
                  have c9b1 : (a0.toList != ([36, 99, 111, 100, 101] : List UInt8)) = true := bne_iff_ne.mpr c9
                  by_cases c10 : a0.toList = ([36, 115, 99, 111, 112, 101] : List UInt8)
                  · rw [if_pos c10] at H
                    have c10b0 : (a0.toList == ([36, 115, 99, 111, 112, 101] : List UInt8)) = true := beq_iff_eq.mpr c10
                    have c10b1 : (a0.toList != ([36, 115, 99, 111, 112, 101] : List UInt8)) = false := bne_eq_false_iff_eq.mpr c10
                    clear c10
                    obtain rfl := Option.some.inj H
                    go_enter Try.func60, Try.ntmps60
                    go_wp2
                    go_ret
                    exact ⟨by first | rfl | (simp; done) | (simp [*]; done), by repeat (first | exact Drawn0.refl _ | apply Drawn0.step)⟩
                  · rw [if_neg c10] at H
                    have c10b0 : (a0.toList == ([36, 115, 99, 111, 112, 101] : List UInt8)) = false := beq_eq_false_iff_ne.mpr c10
                    have c10b1 : (a0.toList != ([36, 115, 99, 111, 112, 101] : List UInt8)) = true := bne_iff_ne.mpr c10
                    by_cases c11 : a0.toList = ([36, 116, 105, 109, 101, 115, 116, 97, 109, 112] : List UInt8)
                    · rw [if_pos c11] at H
                      have c11b0 : (a0.toList == ([36, 116, 105, 109, 101, 115, 116, 97, 109, 112] : List UInt8)) = true := beq_iff_eq.mpr c11
                      have c11b1 : (a0.toList != ([36, 116, 105, 109, 101, 115, 116, 97, 109, 112] : List UInt8)) = false := bne_eq_false_iff_eq.mpr c11
                      clear c11
                      obtain rfl := Option.some.inj H
                      go_enter Try.func60, Try.ntmps60
                      go_wp2
                      go_ret
                      exact ⟨by first | rfl | (simp; done) | (simp [*]; done), by repeat (first | exact Drawn0.refl _ | apply Drawn0.step)⟩
                    · rw [if_neg c11] at H
                      have c11b0 : (a0.toList == ([36, 116, 105, 109, 101, 115, 116, 97, 109, 112] : List UInt8)) = false := beq_eq_false_iff_ne.mpr c11
                      have c11b1 : (a0.toList != ([36, 116, 105, 109, 101, 115, 116, 97, 109, 112] : List UInt8)) = true := bne_iff_ne.mpr c11
                      by_cases c12 : a0.toList = ([36, 114, 101, 103, 117, 108, 97, 114, 69, 120, 112, 114, 101, 115, 115, 105, 111, 110] : List UInt8)
                      · rw [if_pos c12] at H
                        have c12b0 : (a0.toList == ([36, 114, 101, 103, 117, 108, 97, 114, 69, 120, 112, 114, 101, 115, 115, 105, 111, 110] : List UInt8)) = true := beq_iff_eq.mpr c12
                        have c12b1 : (a0.toList != ([36, 114, 101, 103, 117, 108, 97, 114, 69, 120, 112, 114, 101, 115, 115, 105, 111, 110] : List UInt8)) = false := bne_eq_false_iff_eq.mpr c12
                        clear c12
                        obtain rfl := Option.some.inj H
                        go_enter Try.func60, Try.ntmps60
                        go_wp2
                        go_ret
                        exact ⟨by first | rfl | (simp; done) | (simp [*]; done), by repeat (first | exact Drawn0.refl _ | apply Drawn0.step)⟩
                      · rw [if_neg c12] at H
                        have c12b0 : (a0.toList == ([36, 114, 101, 103, 117, 108, 97, 114, 69, 120, 112, 114, 101, 115, 115, 105, 111, 110] : List UInt8)) = false := beq_eq_false_iff_ne.mpr c12
                        have c12b1 : (a0.toList != ([36, 114, 101, 103, 117, 108, 97, 114, 69, 120, 112, 114, 101, 115, 115, 105, 111, 110] : List UInt8)) = true := bne_iff_ne.mpr c12
                        by_cases c13 : a0.toList = ([36, 100, 98, 80, 111, 105, 110, 116, 101, 114] : List UInt8)
                        · rw [if_pos c13] at H
                          have c13b0 : (a0.toList == ([36, 100, 98, 80, 111, 105, 110, 116, 101, 114] : List UInt8)) = true := beq_iff_eq.mpr c13
                          have c13b1 : (a0.toList != ([36, 100, 98, 80, 111, 105, 110, 116, 101, 114] : List UInt8)) = false := bne_eq_false_iff_eq.mpr c13
                          clear c13
                          obtain rfl := Option.some.inj H
                          go_enter Try.func60, Try.ntmps60
                          go_wp2
                          go_ret
                          exact ⟨by first | rfl | (simp; done) | (simp [*]; done), by repeat (first | exact Drawn0.refl _ | apply Drawn0.step)⟩
                        · rw [if_neg c13] at H
                          have c13b0 : (a0.toList == ([36, 100, 98, 80, 111, 105, 110, 116, 101, 114] : List UInt8)) = false := beq_eq_false_iff_ne.mpr c13
                          have c13b1 : (a0.toList != ([36, 100, 98, 80, 111, 105, 110, 116, 101, 114] : List UInt8)) = true := bne_iff_ne.mpr c13
                          by_cases c14 : a0.toList = ([36, 100, 97, 116, 101] : List UInt8)
                          · rw [if_pos c14] at H
                            have c14b0 : (a0.toList == ([36, 100, 97, 116, 101] : List UInt8)) = true := beq_iff_eq.mpr c14
                            have c14b1 : (a0.toList != ([36, 100, 97, 116, 101] : List UInt8)) = false := bne_eq_false_iff_eq.mpr c14
                            clear c14
                            obtain rfl := Option.some.inj H
                            go_enter Try.func60, Try.ntmps60
                            go_wp2
                            go_ret
                            exact ⟨by first | rfl | (simp; done) | (simp [*]; done), by repeat (first | exact Drawn0.refl _ | apply Drawn0.step)⟩
                          · rw [if_neg c14] at H
                            have c14b0 : (a0.toList == ([36, 100, 97, 116, 101] : List UInt8)) = false := beq_eq_false_iff_ne.mpr c14
                            have c14b1 : (a0.toList != ([36, 100, 97, 116, 101] : List UInt8)) = true := bne_iff_ne.mpr c14
                            by_cases c15 : a0.toList = ([36, 109, 105, 110, 75, 101, 121] : List UInt8)
                            · rw [if_pos c15] at H
                              have c15b0 : (a0.toList == ([36, 109, 105, 110, 75, 101, 121] : List UInt8)) = true := beq_iff_eq.mpr c15
                              have c15b1 : (a0.toList != ([36, 109, 105, 110, 75, 101, 121] : List UInt8)) = false := bne_eq_false_iff_eq.mpr c15
                              clear c15
                              obtain rfl := Option.some.inj H
                              go_enter Try.func60, Try.ntmps60
                              go_wp2
                              go_ret
                              exact ⟨by first | rfl | (simp; done) | (simp [*]; done), by repeat (first | exact Drawn0.refl _ | apply Drawn0.step)⟩
                            · rw [if_neg c15] at H
                              have c15b0 : (a0.toList == ([36, 109, 105, 110, 75, 101, 121] : List UInt8)) = false := beq_eq_false_iff_ne.mpr c15
                              have c15b1 : (a0.toList != ([36, 109, 105, 110, 75, 101, 121] : List UInt8)) = true := bne_iff_ne.mpr c15
                              by_cases c16 : a0.toList = ([36, 109, 97, 120, 75, 101, 121] : List UInt8)
                              · rw [if_pos c16] at H
                                have c16b0 : (a0.toList == ([36, 109, 97, 120, 75, 101, 121] : List UInt8)) = true := beq_iff_eq.mpr c16
                                have c16b1 : (a0.toList != ([36, 109, 97, 120, 75, 101, 121] : List UInt8)) = false := bne_eq_false_iff_eq.mpr c16
                                clear c16
                                obtain rfl := Option.some.inj H
                                go_enter Try.func60, Try.ntmps60
                                go_wp2
                                go_ret
                                exact ⟨by first | rfl | (simp; done) | (simp [*]; done), by repeat (first | exact Drawn0.refl _ | apply Drawn0.step)⟩
                              · rw [if_neg c16] at H
                                have c16b0 : (a0.toList == ([36, 109, 97, 120, 75, 101, 121] : List UInt8)) = false := beq_eq_false_iff_ne.mpr c16
                                have c16b1 : (a0.toList != ([36, 109, 97, 120, 75, 101, 121] : List UInt8)) = true := bne_iff_ne.mpr c16
                                by_cases c17 : a0.toList = ([36, 117, 110, 100, 101, 102, 105, 110, 101, 100] : List UInt8)
                                · rw [if_pos c17] at H
                                  have c17b0 : (a0.toList == ([36, 117, 110, 100, 101, 102, 105, 110, 101, 100] : List UInt8)) = true := beq_iff_eq.mpr c17
                                  have c17b1 : (a0.toList != ([36, 117, 110, 100, 101, 102, 105, 110, 101, 100] : List UInt8)) = false := bne_eq_false_iff_eq.mpr c17
                                  clear c17
                                  obtain rfl := Option.some.inj H
                                  go_enter Try.func60, Try.ntmps60
                                  go_wp2
                                  go_ret
                                  exact ⟨by first | rfl | (simp; done) | (simp [*]; done), by repeat (first | exact Drawn0.refl _ | apply Drawn0.step)⟩
                                · rw [if_neg c17] at H
                                  have c17b0 : (a0.toList == ([36, 117, 110, 100, 101, 102, 105, 110, 101, 100] : List UInt8)) = false := beq_eq_false_iff_ne.mpr c17
                                  have c17b1 : (a0.toList != ([36, 117, 110, 100, 101, 102, 105, 110, 101, 100] : List UInt8)) = true := bne_iff_ne.mpr c17
                                  obtain rfl := Option.some.inj H
                                  go_enter Try.func60, Try.ntmps60
                                  go_wp2
                                  go_ret
                                  exact ⟨by first | rfl | (simp; done) | (simp [*]; done), by repeat (first | exact Drawn0.refl _ | apply Drawn0.step)⟩

/-! ### bson_ZzWrapper: function 40 -/
def bson_ZzWrapper.f (a0 : ByteArray) : Option (Int) := (bson_wrapperKeyBSONType.f a0).bind fun t101 => (some t101)
set_option maxHeartbeats 8000000 in
set_option maxRecDepth 100000 in
theorem bson_ZzWrapper.calls (a0 : ByteArray) (r : Int) (w : World) (h : bson_ZzWrapper.f a0 = some r) :
    Calls Try.prog 40 #[.string a0] w fun e w' => e = .returned (.int .u8 r) ∧ Drawn0 w w' := by
  have H : ((bson_wrapperKeyBSONType.f a0).bind fun t101 => (some t101)) = some r := h
  clear h
  replace H := Option.bind_eq_some_iff.mp H
  obtain ⟨t101, A20, H⟩ := H
  replace H : (some t101) = some r := H
  have A2 := Aside0.mk A20
  clear A20
  obtain rfl := Option.some.inj H
  go_enter Try.func40, Try.ntmps40
  go_wp2_with (first | ((with_reducible refine gate_callee (f := 60) rfl ?_); refine goesL_ (some 4) rfl rfl Try.func60 (by kernel_rfl) rfl #[.string a0] rfl (by (try simp only [List.map_toArray, List.map_cons, List.map_nil]); first | done | rfl | (simp only [List.length_drop, List.length_take]; rfl)) ?_; (with_reducible refine (bson_wrapperKeyBSONType.calls a0 t101 _ A2.out).mono ?_); rintro e w' ⟨rfl, ⟨nd, rfl⟩⟩; refine ⟨_, rfl, ?_⟩))
  go_ret
  exact ⟨by first | rfl | (simp; done) | (simp [*]; done), by repeat (first | exact Drawn0.refl _ | apply Drawn0.step)⟩

/-! ### impl_ExtWrapper: function 14 -/
def impl_ExtWrapper.f (a0 : ByteArray) : Option (Int) := (bson_ZzWrapper.f a0).bind fun t102 => (some (wrap64 (t102)))
set_option maxHeartbeats 8000000 in
set_option maxRecDepth 100000 in
theorem impl_ExtWrapper.calls (a0 : ByteArray) (r : Int) (w : World) (h : impl_ExtWrapper.f a0 = some r) :
    Calls Try.prog 14 #[.string a0] w fun e w' => e = .returned (.int .i64 r) ∧ Drawn0 w w' := by
  have H : ((bson_ZzWrapper.f a0).bind fun t102 => (some (wrap64 (t102)))) = some r := h
  clear h
  replace H := Option.bind_eq_some_iff.mp H
  obtain ⟨t102, A20, H⟩ := H
  replace H : (some (wrap64 (t102))) = some r := H
  have A2 := Aside0.mk A20
  clear A20
  obtain rfl := Option.some.inj H
  go_enter Try.func14, Try.ntmps14
  go_wp2_with (first | ((with_reducible refine gate_callee (f := 40) rfl ?_); refine goesL_ (some 4) rfl rfl Try.func40 (by kernel_rfl) rfl #[.string a0] rfl (by (try simp only [List.map_toArray, List.map_cons, List.map_nil]); first | done | rfl | (simp only [List.length_drop, List.length_take]; rfl)) ?_; (with_reducible refine (bson_ZzWrapper.calls a0 t102 _ A2.out).mono ?_); rintro e w' ⟨rfl, ⟨nd, rfl⟩⟩; refine ⟨_, rfl, ?_⟩))
  go_ret
  exact ⟨by first | rfl | (simp; done) | (simp [*]; done), by repeat (first | exact Drawn0.refl _ | apply Drawn0.step)⟩

/-! ### spec_ExtWrapperOf: function 15 -/
def spec_ExtWrapperOf.f (a0 : ByteArray) : Option (Int) := if a0.toList = ([36, 110, 117, 109, 98, 101, 114, 68, 111, 117, 98, 108, 101] : List UInt8) then (some 1) else (if a0.toList = ([36, 98, 105, 110, 97, 114, 121] : List UInt8) then (some 5) else (if a0.toList = ([36, 117, 110, 100, 101, 102, 105, 110, 101, 100] : List UInt8) then (some 6) else (if a0.toList = ([36, 111, 105, 100] : List UInt8) then (some 7) else (if a0.toList = ([36, 100, 97, 116, 101] : List UInt8) then (some 9) else (if a0.toList = ([36, 114, 101, 103, 117, 108, 97, 114, 69, 120, 112, 114, 101, 115, 115, 105, 111, 110] : List UInt8) then (some 11) else (if a0.toList = ([36, 100, 98, 80, 111, 105, 110, 116, 101, 114] : List UInt8) then (some 12) else (if a0.toList = ([36, 99, 111, 100, 101] : List UInt8) then (some 13) else (if a0.toList = ([36, 115, 121, 109, 98, 111, 108] : List UInt8) then (some 14) else (if a0.toList = ([36, 115, 99, 111, 112, 101] : List UInt8) then (some 15) else (if a0.toList = ([36, 110, 117, 109, 98, 101, 114, 73, 110, 116] : List UInt8) then (some 16) else (if a0.toList = ([36, 116, 105, 109, 101, 115, 116, 97, 109, 112] : List UInt8) then (some 17) else (if a0.toList = ([36, 110, 117, 109, 98, 101, 114, 76, 111, 110, 103] : List UInt8) then (some 18) else (if a0.toList = ([36, 110, 117, 109, 98, 101, 114, 68, 101, 99, 105, 109, 97, 108] : List UInt8) then (some 19) else (if a0.toList = ([36, 109, 105, 110, 75, 101, 121] : List UInt8) then (some 255) else (if a0.toList = ([36, 109, 97, 120, 75, 101, 121] : List UInt8) then (some 127) else (some 3))))))))))))))))
set_option maxHeartbeats 8000000 in
set_option maxRecDepth 100000 in
theorem spec_ExtWrapperOf.calls (a0 : ByteArray) (r : Int) (w : World) (h : spec_ExtWrapperOf.f a0 = some r) :
    Calls Try.prog 15 #[.string a0] w fun e w' => e = .returned (.int .i64 r) ∧ Drawn0 w w' := by
  have H : (if a0.toList = ([36, 110, 117, 109, 98, 101, 114, 68, 111, 117, 98, 108, 101] : List UInt8) then (some 1) else (if a0.toList = ([36, 98, 105, 110, 97, 114, 121] : List UInt8) then (some 5) else (if a0.toList = ([36, 117, 110, 100, 101, 102, 105, 110, 101, 100] : List UInt8) then (some 6) else (if a0.toList = ([36, 111, 105, 100] : List UInt8) then (some 7) else (if a0.toList = ([36, 100, 97, 116, 101] : List UInt8) then (some 9) else (if a0.toList = ([36, 114, 101, 103, 117, 108, 97, 114, 69, 120, 112, 114, 101, 115, 115, 105, 111, 110] : List UInt8) then (some 11) else (if a0.toList = ([36, 100, 98, 80, 111, 105, 110, 116, 101, 114] : List UInt8) then (some 12) else (if a0.toList = ([36, 99, 111, 100, 101] : List UInt8) then (some 13) else (if a0.toList = ([36, 115, 121, 109, 98, 111, 108] : List UInt8) then (some 14) else (if a0.toList = ([36, 115, 99, 111, 112, 101] : List UInt8) then (some 15) else (if a0.toList = ([36, 110, 117, 109, 98, 101, 114, 73, 110, 116] : List UInt8) then (some 16) else (if a0.toList = ([36, 116, 105, 109, 101, 115, 116, 97, 109, 112] : List UInt8) then (some 17) else (if a0.toList = ([36, 110, 117, 109, 98, 101, 114, 76, 111, 110, 103] : List UInt8) then (some 18) else (if a0.toList = ([36, 110, 117, 109, 98, 101, 114, 68, 101, 99, 105, 109, 97, 108] : List UInt8) then (some 19) else (if a0.toList = ([36, 109, 105, 110, 75, 101, 121] : List UInt8) then (some 255) else (if a0.toList = ([36, 109, 97, 120, 75, 101, 121] : List UInt8) then (some 127) else (some 3))))))))))))))))) = some r := h
  clear h
  by_cases c2 : a0.toList = ([36, 110, 117, 109, 98, 101, 114, 68, 111, 117, 98, 108, 101] : List UInt8)
  · rw [if_pos c2] at H
    have c2b0 : (a0.toList == ([36, 110, 117, 109, 98, 101, 114, 68, 111, 117, 98, 108, 101] : List UInt8)) = true := beq_iff_eq.mpr c2
    have c2b1 : (a0.toList != ([36, 110, 117, 109, 98, 101, 114, 68, 111, 117, 98, 108, 101] : List UInt8)) = false := bne_eq_false_iff_eq.mpr c2
    clear c2
    obtain rfl := Option.some.inj H
    go_enter Try.func15, Try.ntmps15
    go_wp2
    go_ret
    exact ⟨by first | rfl | (simp; done) | (simp [*]; done), by repeat (first | exact Drawn0.refl _ | apply Drawn0.step)⟩
  · rw [if_neg c2] at H
    have c2b0 : (a0.toList == ([36, 110, 117, 109, 98, 101, 114, 68, 111, 117, 98, 108, 101] : List UInt8)) = false := beq_eq_false_iff_ne.mpr c2
    have c2b1 : (a0.toList != ([36, 110, 117, 109, 98, 101, 114, 68, 111, 117, 98, 108, 101] : List UInt8)) = true := bne_iff_ne.mpr c2
    by_cases c3 : a0.toList = ([36, 98, 105, 110, 97, 114, 121] : List UInt8)
    · rw [if_pos c3] at H
      have c3b0 : (a0.toList == ([36, 98, 105, 110, 97, 114, 121] : List UInt8)) = true := beq_iff_eq.mpr c3
      have c3b1 : (a0.toList != ([36, 98, 105, 110, 97, 114, 121] : List UInt8)) = false := bne_eq_false_iff_eq.mpr c3
      clear c3
      obtain rfl := Option.some.inj H
      go_enter Try.func15, Try.ntmps15
      go_wp2
      go_ret
      exact ⟨by first | rfl | (simp; done) | (simp [*]; done), by repeat (first | exact Drawn0.refl _ | apply Drawn0.step)⟩
    · rw [if_neg c3] at H
      have c3b0 : (a0.toList == ([36, 98, 105, 110, 97, 114, 121] : List UInt8)) = false := beq_eq_false_iff_ne.mpr c3
      have c3b1 : (a0.toList != ([36, 98, 105, 110, 97, 114, 121] : List UInt8)) = true := bne_iff_ne.mpr c3
      by_cases c4 : a0.toList = ([36, 117, 110, 100, 101, 102, 105, 110, 101, 100] : List UInt8)
      · rw [if_pos c4] at H
        have c4b0 : (a0.toList == ([36, 117, 110, 100, 101, 102, 105, 110, 101, 100] : List UInt8)) = true := beq_iff_eq.mpr c4
        have c4b1 : (a0.toList != ([36, 117, 110, 100, 101, 102, 105, 110, 101, 100] : List UInt8)) = false := bne_eq_false_iff_eq.mpr c4
        clear c4
        obtain rfl := Option.some.inj H
        go_enter Try.func15, Try.ntmps15
        go_wp2
        go_ret
        exact ⟨by first | rfl | (simp; done) | (simp [*]; done), by repeat (first | exact Drawn0.refl _ | apply Drawn0.step)⟩
      · rw [if_neg c4] at H
        have c4b0 : (a0.toList == ([36, 117, 110, 100, 101, 102, 105, 110, 101, 100] : List UInt8)) = false := beq_eq_false_iff_ne.mpr c4
        have c4b1 : (a0.toList != ([36, 117, 110, 100, 101, 102, 105, 110, 101, 100] : List UInt8)) = true := bne_iff_ne.mpr c4
        by_cases c5 : a0.toList = ([36, 111, 105, 100] : List UInt8)
        · rw [if_pos c5] at H
          have c5b0 : (a0.toList == ([36, 111, 105, 100] : List UInt8)) = true := beq_iff_eq.mpr c5
          have c5b1 : (a0.toList != ([36, 111, 105, 100] : List UInt8)) = false := bne_eq_false_iff_eq.mpr c5
          clear c5
          obtain rfl := Option.some.inj H
          go_enter Try.func15, Try.ntmps15
          go_wp2
          go_ret
          exact ⟨by first | rfl | (simp; done) | (simp [*]; done), by repeat (first | exact Drawn0.refl _ | apply Drawn0.step)⟩
        · rw [if_neg c5] at H
          have c5b0 : (a0.toList == ([36, 111, 105, 100] : List UInt8)) = false := beq_eq_false_iff_ne.mpr c5
          have c5b1 : (a0.toList != ([36, 111, 105, 100] : List UInt8)) = true := bne_iff_ne.mpr c5
          by_cases c6 : a0.toList = ([36, 100, 97, 116, 101] : List UInt8)
          · rw [if_pos c6] at H
            have c6b0 : (a0.toList == ([36, 100, 97, 116, 101] : List UInt8)) = true := beq_iff_eq.mpr c6
            have c6b1 : (a0.toList != ([36, 100, 97, 116, 101] : List UInt8)) = false := bne_eq_false_iff_eq.mpr c6
            clear c6
            obtain rfl := Option.some.inj H
            go_enter Try.func15, Try.ntmps15
            go_wp2
            go_ret
            exact ⟨by first | rfl | (simp; done) | (simp [*]; done), by repeat (first | exact Drawn0.refl _ | apply Drawn0.step)⟩
          · rw [if_neg c6] at H
            have c6b0 : (a0.toList == ([36, 100, 97, 116, 101] : List UInt8)) = false := beq_eq_false_iff_ne.mpr c6
            have c6b1 : (a0.toList != ([36, 100, 97, 116, 101] : List UInt8)) = true := bne_iff_ne.mpr c6
            by_cases c7 : a0.toList = ([36, 114, 101, 103, 117, 108, 97, 114, 69, 120, 112, 114, 101, 115, 115, 105, 111, 110] : List UInt8)
            · rw [if_pos c7] at H
              have c7b0 : (a0.toList == ([36, 114, 101, 103, 117, 108, 97, 114, 69, 120, 112, 114, 101, 115, 115, 105, 111, 110] : List UInt8)) = true := beq_iff_eq.mpr c7
              have c7b1 : (a0.toList != ([36, 114, 101, 103, 117, 108, 97, 114, 69, 120, 112, 114, 101, 115, 115, 105, 111, 110] : List UInt8)) = false := bne_eq_false_iff_eq.mpr c7
              clear c7
              obtain rfl := Option.some.inj H
              go_enter Try.func15, Try.ntmps15
              go_wp2
              go_ret
              exact ⟨by first | rfl | (simp; done) | (simp [*]; done), by repeat (first | exact Drawn0.refl _ | apply Drawn0.step)⟩
            · rw [if_neg c7] at H
              have c7b0 : (a0.toList == ([36, 114, 101, 103, 117, 108, 97, 114, 69, 120, 112, 114, 101, 115, 115, 105, 111, 110] : List UInt8)) = false := beq_eq_false_iff_ne.mpr c7
              have c7b1 : (a0.toList != ([36, 114, 101, 103, 117, 108, 97, 114, 69, 120, 112, 114, 101, 115, 115, 105, 111, 110] : List UInt8)) = true := bne_iff_ne.mpr c7
              by_cases c8 : a0.toList = ([36, 100, 98, 80, 111, 105, 110, 116, 101, 114] : List UInt8)
              · rw [if_pos c8] at H
                have c8b0 : (a0.toList == ([36, 100, 98, 80, 111, 105, 110, 116, 101, 114] : List UInt8)) = true := beq_iff_eq.mpr c8
                have c8b1 : (a0.toList != ([36, 100, 98, 80, 111, 105, 110, 116, 101, 114] : List UInt8)) = false := bne_eq_false_iff_eq.mpr c8
                clear c8
                obtain rfl := Option.some.inj H
                go_enter Try.func15, Try.ntmps15
                go_wp2
                go_ret
                exact ⟨by first | rfl | (simp; done) | (simp [*]; done), by repeat (first | exact Drawn0.refl _ | apply Drawn0.step)⟩
              · rw [if_neg c8] at H
                have c8b0 : (a0.toList == ([36, 100, 98, 80, 111, 105, 110, 116, 101, 114] : List UInt8)) = false := beq_eq_false_iff_ne.mpr c8
                have c8b1 : (a0.toList != ([36, 100, 98, 80, 111, 105, 110, 116, 101, 114] : List UInt8)) = true := bne_iff_ne.mpr c8
                by_cases c9 : a0.toList = ([36, 99, 111, 100, 101] : List UInt8)
                · rw [if_pos c9] at H
                  have c9b0 : (a0.toList == ([36, 99, 111, 100, 101] : List UInt8)) = true := beq_iff_eq.mpr c9
                  have c9b1 : (a0.toList != ([36, 99, 111, 100, 101] : List UInt8)) = false := bne_eq_false_iff_eq.mpr c9
                  clear c9
                  obtain rfl := Option.some.inj H
                  go_enter Try.func15, Try.ntmps15
                  go_wp2
                  go_ret
                  exact ⟨by first | rfl | (simp; done) | (simp [*]; done), by repeat (first | exact Drawn0.refl _ | apply Drawn0.step)⟩
                · rw [if_neg c9] at H
                  have c9b0 : (a0.toList == ([36, 99, 111, 100, 101] : List UInt8)) = false := beq_eq_false_iff_ne.mpr c9
                  have c9b1 : (a0.toList != ([36, 99, 111, 100, 101] : List UInt8)) = true := bne_iff_ne.mpr c9
                  by_cases c10 : a0.toList = ([36, 115, 121, 109, 98, 111, 108] : List UInt8)
                  · rw [if_pos c10] at H
                    have c10b0 : (a0.toList == ([36, 115, 121, 109, 98, 111, 108] : List UInt8)) = true := beq_iff_eq.mpr c10
                    have c10b1 : (a0.toList != ([36, 115, 121, 109, 98, 111, 108] : List UInt8)) = false := bne_eq_false_iff_eq.mpr c10
                    clear c10
                    obtain rfl := Option.some.inj H
                    go_enter Try.func15, Try.ntmps15
                    go_wp2
                    go_ret
                    exact ⟨by first | rfl | (simp; done) | (simp [*]; done), by repeat (first | exact Drawn0.refl _ | apply Drawn0.step)⟩
                  · rw [if_neg c10] at H
                    have c10b0 : (a0.toList == ([36, 115, 121, 109, 98, 111, 108] : List UInt8)) = false := beq_eq_false_iff_ne.mpr c10
                    have c10b1 : (a0.toList != ([36, 115, 121, 109, 98, 111, 108] : List UInt8)) = true := bne_iff_ne.mpr c10
                    by_cases c11 : a0.toList = ([36, 115, 99, 111, 112, 101] : List UInt8)
                    · rw [if_pos c11] at H
                      have c11b0 : (a0.toList == ([36, 115, 99, 111, 112, 101] : List UInt8)) = true := beq_iff_eq.mpr c11
                      have c11b1 : (a0.toList != ([36, 115, 99, 111, 112, 101] : List UInt8)) = false := bne_eq_false_iff_eq.mpr c11
                      clear c11
                      obtain rfl := Option.some.inj H
                      go_enter Try.func15, Try.ntmps15
                      go_wp2
                      go_ret
                      exact ⟨by first | rfl | (simp; done) | (simp [*]; done), by repeat (first | exact Drawn0.refl _ | apply Drawn0.step)⟩
                    · rw [if_neg c11] at H
                      have c11b0 : (a0.toList == ([36, 115, 99, 111, 112, 101] : List UInt8)) = false := beq_eq_false_iff_ne.mpr c11
                      have c11b1 : (a0.toList != ([36, 115, 99, 111, 112, 101] : List UInt8)) = true := bne_iff_ne.mpr c11
                      by_cases c12 : a0.toList = ([36, 110, 117, 109, 98, 101, 114, 73, 110, 116] : List UInt8)
                      · rw [if_pos c12] at H
                        have c12b0 : (a0.toList == ([36, 110, 117, 109, 98, 101, 114, 73, 110, 116] : List UInt8)) = true := beq_iff_eq.mpr c12
                        have c12b1 : (a0.toList != ([36, 110, 117, 109, 98, 101, 114, 73, 110, 116] : List UInt8)) = false := bne_eq_false_iff_eq.mpr c12
                        clear c12
                        obtain rfl := Option.some.inj H
                        go_enter Try.func15, Try.ntmps15
                        go_wp2
                        go_ret
                        exact ⟨by first | rfl | (simp; done) | (simp [*]; done), by repeat (first | exact Drawn0.refl _ | apply Drawn0.step)⟩
                      · rw [if_neg c12] at H
                        have c12b0 : (a0.toList == ([36, 110, 117, 109, 98, 101, 114, 73, 110, 116] : List UInt8)) = false := beq_eq_false_iff_ne.mpr c12
                        have c12b1 : (a0.toList != ([36, 110, 117, 109, 98, 101, 114, 73, 110, 116] : List UInt8)) = true := bne_iff_ne.mpr c12
                        by_cases c13 : a0.toList = ([36, 116, 105, 109, 101, 115, 116, 97, 109, 112] : List UInt8)
                        · rw [if_pos c13] at H
                          have c13b0 : (a0.toList == ([36, 116, 105, 109, 101, 115, 116, 97, 109, 112] : List UInt8)) = true := beq_iff_eq.mpr c13
                          have c13b1 : (a0.toList != ([36, 116, 105, 109, 101, 115, 116, 97, 109, 112] : List UInt8)) = false := bne_eq_false_iff_eq.mpr c13
                          clear c13
                          obtain rfl := Option.some.inj H
                          go_enter Try.func15, Try.ntmps15
                          go_wp2
                          go_ret
                          exact ⟨by first | rfl | (simp; done) | (simp [*]; done), by repeat (first | exact Drawn0.refl _ | apply Drawn0.step)⟩
                        · rw [if_neg c13] at H
                          have c13b0 : (a0.toList == ([36, 116, 105, 109, 101, 115, 116, 97, 109, 112] : List UInt8)) = false := beq_eq_false_iff_ne.mpr c13
                          have c13b1 : (a0.toList != ([36, 116, 105, 109, 101, 115, 116, 97, 109, 112] : List UInt8)) = true := bne_iff_ne.mpr c13
                          by_cases c14 : a0.toList = ([36, 110, 117, 109, 98, 101, 114, 76, 111, 110, 103] : List UInt8)
                          · rw [if_pos c14] at H
                            have c14b0 : (a0.toList == ([36, 110, 117, 109, 98, 101, 114, 76, 111, 110, 103] : List UInt8)) = true := beq_iff_eq.mpr c14
                            have c14b1 : (a0.toList != ([36, 110, 117, 109, 98, 101, 114, 76, 111, 110, 103] : List UInt8)) = false := bne_eq_false_iff_eq.mpr c14
                            clear c14
                            obtain rfl := Option.some.inj H
                            go_enter Try.func15, Try.ntmps15
                            go_wp2
                            go_ret
                            exact ⟨by first | rfl | (simp; done) | (simp [*]; done), by repeat (first | exact Drawn0.refl _ | apply Drawn0.step)⟩
                          · rw [if_neg c14] at H
                            have c14b0 : (a0.toList == ([36, 110, 117, 109, 98, 101, 114, 76, 111, 110, 103] : List UInt8)) = false := beq_eq_false_iff_ne.mpr c14
                            have c14b1 : (a0.toList != ([36, 110, 117, 109, 98, 101, 114, 76, 111, 110, 103] : List UInt8)) = true := bne_iff_ne.mpr c14
                            by_cases c15 : a0.toList = ([36, 110, 117, 109, 98, 101, 114, 68, 101, 99, 105, 109, 97, 108] : List UInt8)
                            · rw [if_pos c15] at H
                              have c15b0 : (a0.toList == ([36, 110, 117, 109, 98, 101, 114, 68, 101, 99, 105, 109, 97, 108] : List UInt8)) = true := beq_iff_eq.mpr c15
                              have c15b1 : (a0.toList != ([36, 110, 117, 109, 98, 101, 114, 68, 101, 99, 105, 109, 97, 108] : List UInt8)) = false := bne_eq_false_iff_eq.mpr c15
                              clear c15
                              obtain rfl := Option.some.inj H
                              go_enter Try.func15, Try.ntmps15
                              go_wp2
                              go_ret
                              exact ⟨by first | rfl | (simp; done) | (simp [*]; done), by repeat (first | exact Drawn0.refl _ | apply Drawn0.step)⟩
                            · rw [if_neg c15] at H
                              have c15b0 : (a0.toList == ([36, 110, 117, 109, 98, 101, 114, 68, 101, 99, 105, 109, 97, 108] : List UInt8)) = false := beq_eq_false_iff_ne.mpr c15
                              have c15b1 : (a0.toList != ([36, 110, 117, 109, 98, 101, 114, 68, 101, 99, 105, 109, 97, 108] : List UInt8)) = true := bne_iff_ne.mpr c15
                              by_cases c16 : a0.toList = ([36, 109, 105, 110, 75, 101, 121] : List UInt8)
                              · rw [if_pos c16] at H
                                have c16b0 : (a0.toList == ([36, 109, 105, 110, 75, 101, 121] : List UInt8)) = true := beq_iff_eq.mpr c16
                                have c16b1 : (a0.toList != ([36, 109, 105, 110, 75, 101, 121] : List UInt8)) = false := bne_eq_false_iff_eq.mpr c16
                                clear c16
                                obtain rfl := Option.some.inj H
                                go_enter Try.func15, Try.ntmps15
                                go_wp2
                                go_ret
                                exact ⟨by first | rfl | (simp; done) | (simp [*]; done), by repeat (first | exact Drawn0.refl _ | apply Drawn0.step)⟩
                              · rw [if_neg c16] at H
                                have c16b0 : (a0.toList == ([36, 109, 105, 110, 75, 101, 121] : List UInt8)) = false := beq_eq_false_iff_ne.mpr c16
                                have c16b1 : (a0.toList != ([36, 109, 105, 110, 75, 101, 121] : List UInt8)) = true := bne_iff_ne.mpr c16
                                by_cases c17 : a0.toList = ([36, 109, 97, 120, 75, 101, 121] : List UInt8)
                                · rw [if_pos c17] at H
                                  have c17b0 : (a0.toList == ([36, 109, 97, 120, 75, 101, 121] : List UInt8)) = true := beq_iff_eq.mpr c17
                                  have c17b1 : (a0.toList != ([36, 109, 97, 120, 75, 101, 121] : List UInt8)) = false := bne_eq_false_iff_eq.mpr c17
                                  clear c17
                                  obtain rfl := Option.some.inj H
                                  go_enter Try.func15, Try.ntmps15
                                  go_wp2
                                  go_ret
                                  exact ⟨by first | rfl | (simp; done) | (simp [*]; done), by repeat (first | exact Drawn0.refl _ | apply Drawn0.step)⟩
                                · rw [if_neg c17] at H
                                  have c17b0 : (a0.toList == ([36, 109, 97, 120, 75, 101, 121] : List UInt8)) = false := beq_eq_false_iff_ne.mpr c17
                                  have c17b1 : (a0.toList != ([36, 109, 97, 120, 75, 101, 121] : List UInt8)) = true := bne_iff_ne.mpr c17
                                  obtain rfl := Option.some.inj H
                                  go_enter Try.func15, Try.ntmps15
                                  go_wp2
                                  go_ret
                                  exact ⟨by first | rfl | (simp; done) | (simp [*]; done), by repeat (first | exact Drawn0.refl _ | apply Drawn0.step)⟩

/-! ### laws_FnExtWrappers: function 5 -/
def laws_FnExtWrappers.f (a0 : ByteArray) : Option (Bool) := if (a0.size : Int) > 2147483647 then (some true) else (if (a0.size : Int) > 300 then (some true) else ((impl_ExtWrapper.f a0).bind fun t103 => ((spec_ExtWrapperOf.f a0).bind fun t104 => (if t103 = t104 then ((impl_ExtWrapper.f (⟨#[36, 111, 105, 100]⟩ : ByteArray)).bind fun t105 => (some (t105 == 7))) else (some false)))))
set_option maxHeartbeats 8000000 in
set_option maxRecDepth 100000 in
theorem laws_FnExtWrappers.calls (a0 : ByteArray) (r : Bool) (w : World) (h : laws_FnExtWrappers.f a0 = some r) :
    Calls Try.prog 5 #[.string a0] w fun e w' => e = .returned (.bool r) ∧ Drawn0 w w' := by
  have H : (if (a0.size : Int) > 2147483647 then (some true) else (if (a0.size : Int) > 300 then (some true) else ((impl_ExtWrapper.f a0).bind fun t103 => ((spec_ExtWrapperOf.f a0).bind fun t104 => (if t103 = t104 then ((impl_ExtWrapper.f (⟨#[36, 111, 105, 100]⟩ : ByteArray)).bind fun t105 => (some (t105 == 7))) else (some false)))))) = some r := h
  clear h
  by_cases c2 : (a0.size : Int) > 2147483647
  · rw [if_pos c2] at H
    have c2b0 : decide (2147483647 < (a0.size : Int)) = true := decide_eq_true c2
    have c2b1 : decide (2147483647 < a0.size) = true := decide_eq_true (by omega)
    clear c2
    obtain rfl := Option.some.inj H
    go_enter Try.func5, Try.ntmps5
    go_wp2
    go_ret
    exact ⟨by first | rfl | (simp; done) | (simp [*]; done), by repeat (first | exact Drawn0.refl _ | apply Drawn0.step)⟩
  · rw [if_neg c2] at H
    have c2b0 : decide (2147483647 < (a0.size : Int)) = false := decide_eq_false c2
    have c2b1 : decide (2147483647 < a0.size) = false := decide_eq_false (by omega)
    clear c2
    by_cases c3 : (a0.size : Int) > 300
    · rw [if_pos c3] at H
      have c3b0 : decide (300 < (a0.size : Int)) = true := decide_eq_true c3
      have c3b1 : decide (300 < a0.size) = true := decide_eq_true (by omega)
      clear c3
      obtain rfl := Option.some.inj H
      go_enter Try.func5, Try.ntmps5
      go_wp2
      go_ret
      exact ⟨by first | rfl | (simp; done) | (simp [*]; done), by repeat (first | exact Drawn0.refl _ | apply Drawn0.step)⟩
    · rw [if_neg c3] at H
      have c3b0 : decide (300 < (a0.size : Int)) = false := decide_eq_false c3
      have c3b1 : decide (300 < a0.size) = false := decide_eq_false (by omega)
      clear c3
      replace H := Option.bind_eq_some_iff.mp H
      obtain ⟨t103, A40, H⟩ := H
      replace H : ((spec_ExtWrapperOf.f a0).bind fun t104 => (if t103 = t104 then ((impl_ExtWrapper.f (⟨#[36, 111, 105, 100]⟩ : ByteArray)).bind fun t105 => (some (t105 == 7))) else (some false))) = some r := H
      have A4 := Aside0.mk A40
      clear A40
      replace H := Option.bind_eq_some_iff.mp H
      obtain ⟨t104, A50, H⟩ := H
      replace H : (if t103 = t104 then ((impl_ExtWrapper.f (⟨#[36, 111, 105, 100]⟩ : ByteArray)).bind fun t105 => (some (t105 == 7))) else (some false)) = some r := H
      have A5 := Aside0.mk A50
      clear A50
      by_cases c6 : t103 = t104
      · rw [if_pos c6] at H
        have c6b0 : (t103 == t104) = true := beq_iff_eq.mpr c6
        have c6b1 : (t103 != t104) = false := bne_eq_false_iff_eq.mpr c6
        clear c6
        replace H := Option.bind_eq_some_iff.mp H
        obtain ⟨t105, A70, H⟩ := H
        replace H : (some (t105 == 7)) = some r := H
        have A7 := Aside0.mk A70
        clear A70
        obtain rfl := Option.some.inj H
        go_enter Try.func5, Try.ntmps5
        go_wp2_with (first | (go_at_call 14; (with_reducible refine (impl_ExtWrapper.calls a0 t103 _ A4.out).mono ?_); rintro e w' ⟨rfl, ⟨nd, rfl⟩⟩) | (go_at_call 15; (with_reducible refine (spec_ExtWrapperOf.calls a0 t104 _ A5.out).mono ?_); rintro e w' ⟨rfl, ⟨nd, rfl⟩⟩) | (go_at_call 14; (with_reducible refine (impl_ExtWrapper.calls (⟨#[36, 111, 105, 100]⟩ : ByteArray) t105 _ A7.out).mono ?_); rintro e w' ⟨rfl, ⟨nd, rfl⟩⟩))
        go_ret
        exact ⟨by first | rfl | (simp; done) | (simp [*]; done), by repeat (first | exact Drawn0.refl _ | apply Drawn0.step)⟩
      · rw [if_neg c6] at H
        have c6b0 : (t103 == t104) = false := beq_eq_false_iff_ne.mpr c6
        have c6b1 : (t103 != t104) = true := bne_iff_ne.mpr c6
        obtain rfl := Option.some.inj H
        go_enter Try.func5, Try.ntmps5
        go_wp2_with (first | (go_at_call 14; (with_reducible refine (impl_ExtWrapper.calls a0 t103 _ A4.out).mono ?_); rintro e w' ⟨rfl, ⟨nd, rfl⟩⟩) | (go_at_call 15; (with_reducible refine (spec_ExtWrapperOf.calls a0 t104 _ A5.out).mono ?_); rintro e w' ⟨rfl, ⟨nd, rfl⟩⟩))
        go_ret
        exact ⟨by first | rfl | (simp; done) | (simp [*]; done), by repeat (first | exact Drawn0.refl _ | apply Drawn0.step)⟩

/-- THE ONE PURE STATEMENT of laws_FnExtWrappers: yours. -/
def laws_FnExtWrappers.Pure : Prop := ∀ (a0 : ByteArray), a0.size ≤ 140737488351232 → laws_FnExtWrappers.f a0 = some true
theorem laws_FnExtWrappers.walk (P : laws_FnExtWrappers.Pure) (a0 : ByteArray) (w : World) (w0 : a0.size ≤ 140737488351232) :
    Calls Try.prog 5 #[.string a0] w fun e w' => e = .returned (.bool true) ∧ Below w.heap.size w w' := by
  have h := P a0 w0
  refine (laws_FnExtWrappers.calls a0 true w h).mono ?_
  rintro e w' ⟨rfl, hd⟩
  exact ⟨rfl, hd.below⟩

end Go.Proofs.Ythlpmeiihchdjaa.PFnExtWrappers
