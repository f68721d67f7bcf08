/- Printed by a program of this session (a turned copy of the printer of the kit): contracts of functions of the translation, each with the Lean function that it computes. Conditions: as each theorem states them. -/
import Derived.Test.YtdcoingcpkhmiaaDoorPEix0
import Derived.Test.YtdcoingcpkhmiaaDoorPEix1
namespace Go.Proofs.YtdcoingcpkhmiaaDoor.PEi
open Go.RowKit Go.Proofs.YtdcoingcpkhmiaaDoorW.PrintWords Go.Proofs.YtdcoingcpkhmiaaDoorW.PrintLast Go.Proofs.YtdcoingcpkhmiaaDoorW.PrintMore
attribute [local go_sem] max2_int min2_int max_two min_two max_three min_three max_four min_four   -- for this text's walks alone
set_option linter.unusedVariables false
set_option linter.unusedSimpArgs false

-- NOT PRINTED: function 16 (strconv_ParseUint)

-- NOT PRINTED: function 14 (strconv_ParseInt_14)

-- NOT PRINTED: function 23 (stringslite_Clone)

-- NOT PRINTED: function 17 (strconv_syntaxError)

-- NOT PRINTED: function 18 (strconv_rangeError)

/-! ### impl_ExtInt32: function 5 -/
def impl_ExtInt32.f (a0 : ByteArray) : Option (Int × Bool) := if a0.size ≤ 281474976710656 then some ((Ein.read32 a0.data.toList).getD 0, (Ein.read32 a0.data.toList).isSome) else none
theorem impl_ExtInt32.calls (a0 : ByteArray) (r1 : Int) (r2 : Bool) (w : World) (hlaid : Ein.LaidE w) (h : impl_ExtInt32.f a0 = some (r1, r2)) :
    Calls Tryd.prog 5 #[.string a0] w fun e w' => e = .returned (.tuple #[.int .i32 r1, .bool r2]) ∧ Below w.heap.size w w' := by
  unfold impl_ExtInt32.f at h
  by_cases hs : a0.size ≤ 281474976710656
  · rw [if_pos hs] at h
    obtain ⟨rfl, rfl⟩ := Prod.mk.inj (Option.some.inj h)
    exact Ein.ei32_calls a0 w hs hlaid
  · rw [if_neg hs] at h; cases h

-- NOT PRINTED: function 11 (bson_extJSONValue_parseInt64)

/-! ### impl_ExtInt64: function 6 -/
def impl_ExtInt64.f (a0 : ByteArray) : Option (Int × Bool) := if a0.size ≤ 281474976710656 then some ((Ein.read64 a0.data.toList).getD 0, (Ein.read64 a0.data.toList).isSome) else none
theorem impl_ExtInt64.calls (a0 : ByteArray) (r1 : Int) (r2 : Bool) (w : World) (hlaid : Ein.LaidE w) (h : impl_ExtInt64.f a0 = some (r1, r2)) :
    Calls Tryd.prog 6 #[.string a0] w fun e w' => e = .returned (.tuple #[.int .i64 r1, .bool r2]) ∧ Below w.heap.size w w' := by
  unfold impl_ExtInt64.f at h
  by_cases hs : a0.size ≤ 281474976710656
  · rw [if_pos hs] at h
    obtain ⟨rfl, rfl⟩ := Prod.mk.inj (Option.some.inj h)
    exact Ein.ei64_calls a0 w hs hlaid
  · rw [if_neg hs] at h; cases h

/-! ### laws_FnExtInts: function 3 -/
def laws_FnExtInts.f (k : Nat) (a0 : ByteArray) : Option (Bool) := if (a0.size : Int) > 2147483647 then (some true) else (if (a0.size : Int) > 300 then (some true) else ((spec_ExtInt.f k a0 32).bind fun bt135 => ((spec_ExtInt.f k a0 64).bind fun bt137 => ((impl_ExtInt32.f a0).bind fun bt139 => ((impl_ExtInt64.f a0).bind fun bt141 => ((impl_ExtInt32.f (⟨#[45, 55]⟩ : ByteArray)).bind fun bt143 => (if bt143.2 = true then (if bt143.1 = (-7) then (if (bt139.2 == bt135.2) = true then (if (bt141.2 == bt137.2) = true then (if bt135.2 = true then (if (wrap64 (bt139.1)) = bt135.1 then (if bt137.2 = true then (some (bt141.1 == bt137.1)) else (some true)) else (some false)) else (if bt137.2 = true then (some (bt141.1 == bt137.1)) else (some true))) else (some false)) else (some false)) else (some false)) else (some false))))))))
theorem laws_FnExtInts.mono : ∀ a0 k, LeO (laws_FnExtInts.f k a0) (laws_FnExtInts.f (k + 1) a0) := by
  intro a0 k
  unfold laws_FnExtInts.f
  repeat' first
      | (with_reducible exact spec_ExtInt.mono _ _ _)
      | (with_reducible exact LeO.refl _)
      | (with_reducible exact LeO.none _)
      | (with_reducible refine LeO.ite ?_ ?_)
      | (with_reducible refine LeO.bind ?_ (fun _ => ?_))
      | exact spec_ExtInt.mono _ _ _
      | exact LeO.none _
      | refine LeO.ite ?_ ?_
      | refine LeO.bind ?_ (fun _ => ?_)
set_option maxHeartbeats 8000000 in
set_option maxRecDepth 100000 in
theorem laws_FnExtInts.calls (k : Nat) (a0 : ByteArray) (r : Bool) (w : World) (hlaid : Ein.LaidE w) (h : laws_FnExtInts.f k a0 = some r) :
    Calls Tryd.prog 3 #[.string a0] w fun e w' => e = .returned (.bool r) ∧ Below w.heap.size w w' := by
  have HB := Aside0.mk (Below.refl w.heap.size w)
  have HLAID := Aside0.mk hlaid
  clear hlaid
  have H : (if (a0.size : Int) > 2147483647 then (some true) else (if (a0.size : Int) > 300 then (some true) else ((spec_ExtInt.f k a0 32).bind fun bt135 => ((spec_ExtInt.f k a0 64).bind fun bt137 => ((impl_ExtInt32.f a0).bind fun bt139 => ((impl_ExtInt64.f a0).bind fun bt141 => ((impl_ExtInt32.f (⟨#[45, 55]⟩ : ByteArray)).bind fun bt143 => (if bt143.2 = true then (if bt143.1 = (-7) then (if (bt139.2 == bt135.2) = true then (if (bt141.2 == bt137.2) = true then (if bt135.2 = true then (if (wrap64 (bt139.1)) = bt135.1 then (if bt137.2 = true then (some (bt141.1 == bt137.1)) else (some true)) else (some false)) else (if bt137.2 = true then (some (bt141.1 == bt137.1)) else (some true))) else (some false)) else (some false)) else (some false)) else (some false))))))))) = some r := h
  clear h
  by_cases c2 : (a0.size : Int) > 2147483647
  · rw [if_pos c2] at H
    have c2b0 : decide (2147483647 < (a0.size : Int)) = true := decide_eq_true c2
    have c2b1 : decide (2147483647 < a0.size) = true := decide_eq_true (by omega)
    clear c2
    as_aux_lemma =>
      obtain rfl := Option.some.inj H
      go_enter Tryd.func3, Tryd.ntmps3
      go_wp2
      go_ret
      exact ⟨by first | rfl | (simp [errW_none, errW_some] <;> rfl) | (simp [*, errW_none, errW_some] <;> rfl), by repeat (first | (with_reducible first | exact HB.out | apply below_alloc | apply pw_below_drewN | apply below_drew1) | exact HB.out)⟩
  · rw [if_neg c2] at H
    have c2b0 : decide (2147483647 < (a0.size : Int)) = false := decide_eq_false c2
    have c2b1 : decide (2147483647 < a0.size) = false := decide_eq_false (by omega)
    clear c2
    by_cases c3 : (a0.size : Int) > 300
    · rw [if_pos c3] at H
      have c3b0 : decide (300 < (a0.size : Int)) = true := decide_eq_true c3
      have c3b1 : decide (300 < a0.size) = true := decide_eq_true (by omega)
      clear c3
      as_aux_lemma =>
        obtain rfl := Option.some.inj H
        go_enter Tryd.func3, Tryd.ntmps3
        go_wp2
        go_ret
        exact ⟨by first | rfl | (simp [errW_none, errW_some] <;> rfl) | (simp [*, errW_none, errW_some] <;> rfl), by repeat (first | (with_reducible first | exact HB.out | apply below_alloc | apply pw_below_drewN | apply below_drew1) | exact HB.out)⟩
    · rw [if_neg c3] at H
      have c3b0 : decide (300 < (a0.size : Int)) = false := decide_eq_false c3
      have c3b1 : decide (300 < a0.size) = false := decide_eq_false (by omega)
      clear c3
      replace H := Option.bind_eq_some_iff.mp H
      obtain ⟨⟨t135, t136⟩, A40, H⟩ := H
      replace H : ((spec_ExtInt.f k a0 64).bind fun bt137 => ((impl_ExtInt32.f a0).bind fun bt139 => ((impl_ExtInt64.f a0).bind fun bt141 => ((impl_ExtInt32.f (⟨#[45, 55]⟩ : ByteArray)).bind fun bt143 => (if bt143.2 = true then (if bt143.1 = (-7) then (if (bt139.2 == t136) = true then (if (bt141.2 == bt137.2) = true then (if t136 = true then (if (wrap64 (bt139.1)) = t135 then (if bt137.2 = true then (some (bt141.1 == bt137.1)) else (some true)) else (some false)) else (if bt137.2 = true then (some (bt141.1 == bt137.1)) else (some true))) else (some false)) else (some false)) else (some false)) else (some false)))))) = some r := H
      have A4 := Aside0.mk A40
      clear A40
      replace H := Option.bind_eq_some_iff.mp H
      obtain ⟨⟨t137, t138⟩, A50, H⟩ := H
      replace H : ((impl_ExtInt32.f a0).bind fun bt139 => ((impl_ExtInt64.f a0).bind fun bt141 => ((impl_ExtInt32.f (⟨#[45, 55]⟩ : ByteArray)).bind fun bt143 => (if bt143.2 = true then (if bt143.1 = (-7) then (if (bt139.2 == t136) = true then (if (bt141.2 == t138) = true then (if t136 = true then (if (wrap64 (bt139.1)) = t135 then (if t138 = true then (some (bt141.1 == t137)) else (some true)) else (some false)) else (if t138 = true then (some (bt141.1 == t137)) else (some true))) else (some false)) else (some false)) else (some false)) else (some false))))) = some r := H
      have A5 := Aside0.mk A50
      clear A50
      replace H := Option.bind_eq_some_iff.mp H
      obtain ⟨⟨t139, t140⟩, A60, H⟩ := H
      replace H : ((impl_ExtInt64.f a0).bind fun bt141 => ((impl_ExtInt32.f (⟨#[45, 55]⟩ : ByteArray)).bind fun bt143 => (if bt143.2 = true then (if bt143.1 = (-7) then (if (t140 == t136) = true then (if (bt141.2 == t138) = true then (if t136 = true then (if (wrap64 (t139)) = t135 then (if t138 = true then (some (bt141.1 == t137)) else (some true)) else (some false)) else (if t138 = true then (some (bt141.1 == t137)) else (some true))) else (some false)) else (some false)) else (some false)) else (some false)))) = some r := H
      have A6 := Aside0.mk A60
      clear A60
      replace H := Option.bind_eq_some_iff.mp H
      obtain ⟨⟨t141, t142⟩, A70, H⟩ := H
      replace H : ((impl_ExtInt32.f (⟨#[45, 55]⟩ : ByteArray)).bind fun bt143 => (if bt143.2 = true then (if bt143.1 = (-7) then (if (t140 == t136) = true then (if (t142 == t138) = true then (if t136 = true then (if (wrap64 (t139)) = t135 then (if t138 = true then (some (t141 == t137)) else (some true)) else (some false)) else (if t138 = true then (some (t141 == t137)) else (some true))) else (some false)) else (some false)) else (some false)) else (some false))) = some r := H
      have A7 := Aside0.mk A70
      clear A70
      replace H := Option.bind_eq_some_iff.mp H
      obtain ⟨⟨t143, t144⟩, A80, H⟩ := H
      replace H : (if t144 = true then (if t143 = (-7) then (if (t140 == t136) = true then (if (t142 == t138) = true then (if t136 = true then (if (wrap64 (t139)) = t135 then (if t138 = true then (some (t141 == t137)) else (some true)) else (some false)) else (if t138 = true then (some (t141 == t137)) else (some true))) else (some false)) else (some false)) else (some false)) else (some false)) = some r := H
      have A8 := Aside0.mk A80
      clear A80
      by_cases c9 : t144 = true
      · subst c9
        have H1 : (if t143 = (-7) then (if (t140 == t136) = true then (if (t142 == t138) = true then (if t136 = true then (if (wrap64 (t139)) = t135 then (if t138 = true then (some (t141 == t137)) else (some true)) else (some false)) else (if t138 = true then (some (t141 == t137)) else (some true))) else (some false)) else (some false)) else (some false)) = some r := by rw [if_pos rfl] at H; exact H
        clear H
        have H := H1
        clear H1
        by_cases c10 : t143 = (-7)
        · rw [if_pos c10] at H
          have c10b0 : (t143 == (-7)) = true := beq_iff_eq.mpr c10
          have c10b1 : (t143 != (-7)) = false := bne_eq_false_iff_eq.mpr c10
          clear c10
          by_cases c11 : (t140 == t136) = true
          · rw [if_pos c11] at H
            have c11b0 : (t140 == t136) = true := c11
            (try (have c11b1 : decide (t140 = t136) = true := by simpa using c11))
            (try (have c11b2 : (t140 == t136) = true := by simpa using c11))
            clear c11
            by_cases c12 : (t142 == t138) = true
            · rw [if_pos c12] at H
              have c12b0 : (t142 == t138) = true := c12
              (try (have c12b1 : decide (t142 = t138) = true := by simpa using c12))
              (try (have c12b2 : (t142 == t138) = true := by simpa using c12))
              clear c12
              by_cases c13 : t136 = true
              · subst c13
                have H1 : (if (wrap64 (t139)) = t135 then (if t138 = true then (some (t141 == t137)) else (some true)) else (some false)) = some r := by rw [if_pos rfl] at H; exact H
                clear H
                have H := H1
                clear H1
                by_cases c14 : (wrap64 (t139)) = t135
                · rw [if_pos c14] at H
                  have c14b0 : ((wrap64 (t139)) == t135) = true := beq_iff_eq.mpr c14
                  have c14b1 : ((wrap64 (t139)) != t135) = false := bne_eq_false_iff_eq.mpr c14
                  clear c14
                  by_cases c15 : t138 = true
                  · subst c15
                    have H1 : (some (t141 == t137)) = some r := by rw [if_pos rfl] at H; exact H
                    clear H
                    have H := H1
                    clear H1
                    as_aux_lemma =>
                      obtain rfl := Option.some.inj H
                      go_enter Tryd.func3, Tryd.ntmps3
                      go_wp2_with (first | ((with_reducible refine gate_callee (f := 4) rfl ?_); refine goesL_ (some 21) rfl rfl Tryd.func4 (by kernel_rfl) rfl #[.string a0, .int .i64 32] rfl (by (try simp only [List.map_toArray, List.map_cons, List.map_nil]); first | done | rfl | (simp only [List.length_drop, List.length_take]; rfl)) ?_; (with_reducible refine (spec_ExtInt.calls k a0 32 t135 true _ A4.out).mono ?_); rintro e w' ⟨rfl, ⟨nd, rfl⟩⟩; refine ⟨_, rfl, ?_⟩) | ((with_reducible refine gate_callee (f := 4) rfl ?_); refine goesL_ (some 26) rfl rfl Tryd.func4 (by kernel_rfl) rfl #[.string a0, .int .i64 64] rfl (by (try simp only [List.map_toArray, List.map_cons, List.map_nil]); first | done | rfl | (simp only [List.length_drop, List.length_take]; rfl)) ?_; (with_reducible refine (spec_ExtInt.calls k a0 64 t137 true _ A5.out).mono ?_); rintro e w' ⟨rfl, ⟨nd, rfl⟩⟩; refine ⟨_, rfl, ?_⟩) | ((with_reducible refine gate_callee (f := 5) rfl ?_); refine goesL_ (some 31) rfl rfl Tryd.func5 (by kernel_rfl) rfl #[.string a0] rfl (by (try simp only [List.map_toArray, List.map_cons, List.map_nil]); first | done | rfl | (simp only [List.length_drop, List.length_take]; rfl)) ?_; (with_reducible refine (impl_ExtInt32.calls a0 t139 t140 _ ?aLD A6.out).mono ?_); (case aLD => exact Ein.LaidE.below HLAID.out (Ein.LaidE.lt HLAID.out) (by repeat (first | (with_reducible first | exact HB.out | apply below_alloc | apply pw_below_drewN | apply below_drew1) | exact HB.out))); rintro e w16 ⟨rfl, hb⟩; refine ⟨_, rfl, ?_⟩; have n0_ := Aside0.mk (below_step (by repeat (first | (with_reducible first | exact HB.out | apply below_alloc | apply pw_below_drewN | apply below_drew1) | exact HB.out)) hb); clear HB; have HB := n0_; clear n0_; (try clear hb); (try clear hb2); (try clear hk); (try clear hi)) | ((with_reducible refine gate_callee (f := 6) rfl ?_); refine goesL_ (some 36) rfl rfl Tryd.func6 (by kernel_rfl) rfl #[.string a0] rfl (by (try simp only [List.map_toArray, List.map_cons, List.map_nil]); first | done | rfl | (simp only [List.length_drop, List.length_take]; rfl)) ?_; (with_reducible refine (impl_ExtInt64.calls a0 t141 t142 _ ?aLD A7.out).mono ?_); (case aLD => exact Ein.LaidE.below HLAID.out (Ein.LaidE.lt HLAID.out) (by repeat (first | (with_reducible first | exact HB.out | apply below_alloc | apply pw_below_drewN | apply below_drew1) | exact HB.out))); rintro e w17 ⟨rfl, hb⟩; refine ⟨_, rfl, ?_⟩; have n0_ := Aside0.mk (below_step (by repeat (first | (with_reducible first | exact HB.out | apply below_alloc | apply pw_below_drewN | apply below_drew1) | exact HB.out)) hb); clear HB; have HB := n0_; clear n0_; (try clear hb); (try clear hb2); (try clear hk); (try clear hi)) | ((with_reducible refine gate_callee (f := 5) rfl ?_); refine goesL_ (some 40) rfl rfl Tryd.func5 (by kernel_rfl) rfl #[.string (⟨#[45, 55]⟩ : ByteArray)] rfl (by (try simp only [List.map_toArray, List.map_cons, List.map_nil]); first | done | rfl | (simp only [List.length_drop, List.length_take]; rfl)) ?_; (with_reducible refine (impl_ExtInt32.calls (⟨#[45, 55]⟩ : ByteArray) t143 true _ ?aLD A8.out).mono ?_); (case aLD => exact Ein.LaidE.below HLAID.out (Ein.LaidE.lt HLAID.out) (by repeat (first | (with_reducible first | exact HB.out | apply below_alloc | apply pw_below_drewN | apply below_drew1) | exact HB.out))); rintro e w18 ⟨rfl, hb⟩; refine ⟨_, rfl, ?_⟩; have n0_ := Aside0.mk (below_step (by repeat (first | (with_reducible first | exact HB.out | apply below_alloc | apply pw_below_drewN | apply below_drew1) | exact HB.out)) hb); clear HB; have HB := n0_; clear n0_; (try clear hb); (try clear hb2); (try clear hk); (try clear hi)))
                      go_ret
                      exact ⟨by first | rfl | (simp [errW_none, errW_some] <;> rfl) | (simp [*, errW_none, errW_some] <;> rfl), by repeat (first | (with_reducible first | exact HB.out | apply below_alloc | apply pw_below_drewN | apply below_drew1) | exact HB.out)⟩
                  · replace c15 := Bool.eq_false_iff.mpr c15
                    subst c15
                    have H1 : (some true) = some r := by rw [if_neg (show ¬ (false = true) by decide)] at H; exact H
                    clear H
                    have H := H1
                    clear H1
                    as_aux_lemma =>
                      obtain rfl := Option.some.inj H
                      go_enter Tryd.func3, Tryd.ntmps3
                      go_wp2_with (first | ((with_reducible refine gate_callee (f := 4) rfl ?_); refine goesL_ (some 21) rfl rfl Tryd.func4 (by kernel_rfl) rfl #[.string a0, .int .i64 32] rfl (by (try simp only [List.map_toArray, List.map_cons, List.map_nil]); first | done | rfl | (simp only [List.length_drop, List.length_take]; rfl)) ?_; (with_reducible refine (spec_ExtInt.calls k a0 32 t135 true _ A4.out).mono ?_); rintro e w' ⟨rfl, ⟨nd, rfl⟩⟩; refine ⟨_, rfl, ?_⟩) | ((with_reducible refine gate_callee (f := 4) rfl ?_); refine goesL_ (some 26) rfl rfl Tryd.func4 (by kernel_rfl) rfl #[.string a0, .int .i64 64] rfl (by (try simp only [List.map_toArray, List.map_cons, List.map_nil]); first | done | rfl | (simp only [List.length_drop, List.length_take]; rfl)) ?_; (with_reducible refine (spec_ExtInt.calls k a0 64 t137 false _ A5.out).mono ?_); rintro e w' ⟨rfl, ⟨nd, rfl⟩⟩; refine ⟨_, rfl, ?_⟩) | ((with_reducible refine gate_callee (f := 5) rfl ?_); refine goesL_ (some 31) rfl rfl Tryd.func5 (by kernel_rfl) rfl #[.string a0] rfl (by (try simp only [List.map_toArray, List.map_cons, List.map_nil]); first | done | rfl | (simp only [List.length_drop, List.length_take]; rfl)) ?_; (with_reducible refine (impl_ExtInt32.calls a0 t139 t140 _ ?aLD A6.out).mono ?_); (case aLD => exact Ein.LaidE.below HLAID.out (Ein.LaidE.lt HLAID.out) (by repeat (first | (with_reducible first | exact HB.out | apply below_alloc | apply pw_below_drewN | apply below_drew1) | exact HB.out))); rintro e w19 ⟨rfl, hb⟩; refine ⟨_, rfl, ?_⟩; have n0_ := Aside0.mk (below_step (by repeat (first | (with_reducible first | exact HB.out | apply below_alloc | apply pw_below_drewN | apply below_drew1) | exact HB.out)) hb); clear HB; have HB := n0_; clear n0_; (try clear hb); (try clear hb2); (try clear hk); (try clear hi)) | ((with_reducible refine gate_callee (f := 6) rfl ?_); refine goesL_ (some 36) rfl rfl Tryd.func6 (by kernel_rfl) rfl #[.string a0] rfl (by (try simp only [List.map_toArray, List.map_cons, List.map_nil]); first | done | rfl | (simp only [List.length_drop, List.length_take]; rfl)) ?_; (with_reducible refine (impl_ExtInt64.calls a0 t141 t142 _ ?aLD A7.out).mono ?_); (case aLD => exact Ein.LaidE.below HLAID.out (Ein.LaidE.lt HLAID.out) (by repeat (first | (with_reducible first | exact HB.out | apply below_alloc | apply pw_below_drewN | apply below_drew1) | exact HB.out))); rintro e w20 ⟨rfl, hb⟩; refine ⟨_, rfl, ?_⟩; have n0_ := Aside0.mk (below_step (by repeat (first | (with_reducible first | exact HB.out | apply below_alloc | apply pw_below_drewN | apply below_drew1) | exact HB.out)) hb); clear HB; have HB := n0_; clear n0_; (try clear hb); (try clear hb2); (try clear hk); (try clear hi)) | ((with_reducible refine gate_callee (f := 5) rfl ?_); refine goesL_ (some 40) rfl rfl Tryd.func5 (by kernel_rfl) rfl #[.string (⟨#[45, 55]⟩ : ByteArray)] rfl (by (try simp only [List.map_toArray, List.map_cons, List.map_nil]); first | done | rfl | (simp only [List.length_drop, List.length_take]; rfl)) ?_; (with_reducible refine (impl_ExtInt32.calls (⟨#[45, 55]⟩ : ByteArray) t143 true _ ?aLD A8.out).mono ?_); (case aLD => exact Ein.LaidE.below HLAID.out (Ein.LaidE.lt HLAID.out) (by repeat (first | (with_reducible first | exact HB.out | apply below_alloc | apply pw_below_drewN | apply below_drew1) | exact HB.out))); rintro e w21 ⟨rfl, hb⟩; refine ⟨_, rfl, ?_⟩; have n0_ := Aside0.mk (below_step (by repeat (first | (with_reducible first | exact HB.out | apply below_alloc | apply pw_below_drewN | apply below_drew1) | exact HB.out)) hb); clear HB; have HB := n0_; clear n0_; (try clear hb); (try clear hb2); (try clear hk); (try clear hi)))
                      go_ret
                      exact ⟨by first | rfl | (simp [errW_none, errW_some] <;> rfl) | (simp [*, errW_none, errW_some] <;> rfl), by repeat (first | (with_reducible first | exact HB.out | apply below_alloc | apply pw_below_drewN | apply below_drew1) | exact HB.out)⟩
                · rw [if_neg c14] at H
                  have c14b0 : ((wrap64 (t139)) == t135) = false := beq_eq_false_iff_ne.mpr c14
                  have c14b1 : ((wrap64 (t139)) != t135) = true := bne_iff_ne.mpr c14
                  as_aux_lemma =>
                    obtain rfl := Option.some.inj H
                    go_enter Tryd.func3, Tryd.ntmps3
                    go_wp2_with (first | ((with_reducible refine gate_callee (f := 4) rfl ?_); refine goesL_ (some 21) rfl rfl Tryd.func4 (by kernel_rfl) rfl #[.string a0, .int .i64 32] rfl (by (try simp only [List.map_toArray, List.map_cons, List.map_nil]); first | done | rfl | (simp only [List.length_drop, List.length_take]; rfl)) ?_; (with_reducible refine (spec_ExtInt.calls k a0 32 t135 true _ A4.out).mono ?_); rintro e w' ⟨rfl, ⟨nd, rfl⟩⟩; refine ⟨_, rfl, ?_⟩) | ((with_reducible refine gate_callee (f := 4) rfl ?_); refine goesL_ (some 26) rfl rfl Tryd.func4 (by kernel_rfl) rfl #[.string a0, .int .i64 64] rfl (by (try simp only [List.map_toArray, List.map_cons, List.map_nil]); first | done | rfl | (simp only [List.length_drop, List.length_take]; rfl)) ?_; (with_reducible refine (spec_ExtInt.calls k a0 64 t137 t138 _ A5.out).mono ?_); rintro e w' ⟨rfl, ⟨nd, rfl⟩⟩; refine ⟨_, rfl, ?_⟩) | ((with_reducible refine gate_callee (f := 5) rfl ?_); refine goesL_ (some 31) rfl rfl Tryd.func5 (by kernel_rfl) rfl #[.string a0] rfl (by (try simp only [List.map_toArray, List.map_cons, List.map_nil]); first | done | rfl | (simp only [List.length_drop, List.length_take]; rfl)) ?_; (with_reducible refine (impl_ExtInt32.calls a0 t139 t140 _ ?aLD A6.out).mono ?_); (case aLD => exact Ein.LaidE.below HLAID.out (Ein.LaidE.lt HLAID.out) (by repeat (first | (with_reducible first | exact HB.out | apply below_alloc | apply pw_below_drewN | apply below_drew1) | exact HB.out))); rintro e w22 ⟨rfl, hb⟩; refine ⟨_, rfl, ?_⟩; have n0_ := Aside0.mk (below_step (by repeat (first | (with_reducible first | exact HB.out | apply below_alloc | apply pw_below_drewN | apply below_drew1) | exact HB.out)) hb); clear HB; have HB := n0_; clear n0_; (try clear hb); (try clear hb2); (try clear hk); (try clear hi)) | ((with_reducible refine gate_callee (f := 6) rfl ?_); refine goesL_ (some 36) rfl rfl Tryd.func6 (by kernel_rfl) rfl #[.string a0] rfl (by (try simp only [List.map_toArray, List.map_cons, List.map_nil]); first | done | rfl | (simp only [List.length_drop, List.length_take]; rfl)) ?_; (with_reducible refine (impl_ExtInt64.calls a0 t141 t142 _ ?aLD A7.out).mono ?_); (case aLD => exact Ein.LaidE.below HLAID.out (Ein.LaidE.lt HLAID.out) (by repeat (first | (with_reducible first | exact HB.out | apply below_alloc | apply pw_below_drewN | apply below_drew1) | exact HB.out))); rintro e w23 ⟨rfl, hb⟩; refine ⟨_, rfl, ?_⟩; have n0_ := Aside0.mk (below_step (by repeat (first | (with_reducible first | exact HB.out | apply below_alloc | apply pw_below_drewN | apply below_drew1) | exact HB.out)) hb); clear HB; have HB := n0_; clear n0_; (try clear hb); (try clear hb2); (try clear hk); (try clear hi)) | ((with_reducible refine gate_callee (f := 5) rfl ?_); refine goesL_ (some 40) rfl rfl Tryd.func5 (by kernel_rfl) rfl #[.string (⟨#[45, 55]⟩ : ByteArray)] rfl (by (try simp only [List.map_toArray, List.map_cons, List.map_nil]); first | done | rfl | (simp only [List.length_drop, List.length_take]; rfl)) ?_; (with_reducible refine (impl_ExtInt32.calls (⟨#[45, 55]⟩ : ByteArray) t143 true _ ?aLD A8.out).mono ?_); (case aLD => exact Ein.LaidE.below HLAID.out (Ein.LaidE.lt HLAID.out) (by repeat (first | (with_reducible first | exact HB.out | apply below_alloc | apply pw_below_drewN | apply below_drew1) | exact HB.out))); rintro e w24 ⟨rfl, hb⟩; refine ⟨_, rfl, ?_⟩; have n0_ := Aside0.mk (below_step (by repeat (first | (with_reducible first | exact HB.out | apply below_alloc | apply pw_below_drewN | apply below_drew1) | exact HB.out)) hb); clear HB; have HB := n0_; clear n0_; (try clear hb); (try clear hb2); (try clear hk); (try clear hi)))
                    go_ret
                    exact ⟨by first | rfl | (simp [errW_none, errW_some] <;> rfl) | (simp [*, errW_none, errW_some] <;> rfl), by repeat (first | (with_reducible first | exact HB.out | apply below_alloc | apply pw_below_drewN | apply below_drew1) | exact HB.out)⟩
              · replace c13 := Bool.eq_false_iff.mpr c13
                subst c13
                have H1 : (if t138 = true then (some (t141 == t137)) else (some true)) = some r := by rw [if_neg (show ¬ (false = true) by decide)] at H; exact H
                clear H
                have H := H1
                clear H1
                by_cases c25 : t138 = true
                · subst c25
                  have H1 : (some (t141 == t137)) = some r := by rw [if_pos rfl] at H; exact H
                  clear H
                  have H := H1
                  clear H1
                  as_aux_lemma =>
                    obtain rfl := Option.some.inj H
                    go_enter Tryd.func3, Tryd.ntmps3
                    go_wp2_with (first | ((with_reducible refine gate_callee (f := 4) rfl ?_); refine goesL_ (some 21) rfl rfl Tryd.func4 (by kernel_rfl) rfl #[.string a0, .int .i64 32] rfl (by (try simp only [List.map_toArray, List.map_cons, List.map_nil]); first | done | rfl | (simp only [List.length_drop, List.length_take]; rfl)) ?_; (with_reducible refine (spec_ExtInt.calls k a0 32 t135 false _ A4.out).mono ?_); rintro e w' ⟨rfl, ⟨nd, rfl⟩⟩; refine ⟨_, rfl, ?_⟩) | ((with_reducible refine gate_callee (f := 4) rfl ?_); refine goesL_ (some 26) rfl rfl Tryd.func4 (by kernel_rfl) rfl #[.string a0, .int .i64 64] rfl (by (try simp only [List.map_toArray, List.map_cons, List.map_nil]); first | done | rfl | (simp only [List.length_drop, List.length_take]; rfl)) ?_; (with_reducible refine (spec_ExtInt.calls k a0 64 t137 true _ A5.out).mono ?_); rintro e w' ⟨rfl, ⟨nd, rfl⟩⟩; refine ⟨_, rfl, ?_⟩) | ((with_reducible refine gate_callee (f := 5) rfl ?_); refine goesL_ (some 31) rfl rfl Tryd.func5 (by kernel_rfl) rfl #[.string a0] rfl (by (try simp only [List.map_toArray, List.map_cons, List.map_nil]); first | done | rfl | (simp only [List.length_drop, List.length_take]; rfl)) ?_; (with_reducible refine (impl_ExtInt32.calls a0 t139 t140 _ ?aLD A6.out).mono ?_); (case aLD => exact Ein.LaidE.below HLAID.out (Ein.LaidE.lt HLAID.out) (by repeat (first | (with_reducible first | exact HB.out | apply below_alloc | apply pw_below_drewN | apply below_drew1) | exact HB.out))); rintro e w26 ⟨rfl, hb⟩; refine ⟨_, rfl, ?_⟩; have n0_ := Aside0.mk (below_step (by repeat (first | (with_reducible first | exact HB.out | apply below_alloc | apply pw_below_drewN | apply below_drew1) | exact HB.out)) hb); clear HB; have HB := n0_; clear n0_; (try clear hb); (try clear hb2); (try clear hk); (try clear hi)) | ((with_reducible refine gate_callee (f := 6) rfl ?_); refine goesL_ (some 36) rfl rfl Tryd.func6 (by kernel_rfl) rfl #[.string a0] rfl (by (try simp only [List.map_toArray, List.map_cons, List.map_nil]); first | done | rfl | (simp only [List.length_drop, List.length_take]; rfl)) ?_; (with_reducible refine (impl_ExtInt64.calls a0 t141 t142 _ ?aLD A7.out).mono ?_); (case aLD => exact Ein.LaidE.below HLAID.out (Ein.LaidE.lt HLAID.out) (by repeat (first | (with_reducible first | exact HB.out | apply below_alloc | apply pw_below_drewN | apply below_drew1) | exact HB.out))); rintro e w27 ⟨rfl, hb⟩; refine ⟨_, rfl, ?_⟩; have n0_ := Aside0.mk (below_step (by repeat (first | (with_reducible first | exact HB.out | apply below_alloc | apply pw_below_drewN | apply below_drew1) | exact HB.out)) hb); clear HB; have HB := n0_; clear n0_; (try clear hb); (try clear hb2); (try clear hk); (try clear hi)) | ((with_reducible refine gate_callee (f := 5) rfl ?_); refine goesL_ (some 40) rfl rfl Tryd.func5 (by kernel_rfl) rfl #[.string (⟨#[45, 55]⟩ : ByteArray)] rfl (by (try simp only [List.map_toArray, List.map_cons, List.map_nil]); first | done | rfl | (simp only [List.length_drop, List.length_take]; rfl)) ?_; (with_reducible refine (impl_ExtInt32.calls (⟨#[45, 55]⟩ : ByteArray) t143 true _ ?aLD A8.out).mono ?_); (case aLD => exact Ein.LaidE.below HLAID.out (Ein.LaidE.lt HLAID.out) (by repeat (first | (with_reducible first | exact HB.out | apply below_alloc | apply pw_below_drewN | apply below_drew1) | exact HB.out))); rintro e w28 ⟨rfl, hb⟩; refine ⟨_, rfl, ?_⟩; have n0_ := Aside0.mk (below_step (by repeat (first | (with_reducible first | exact HB.out | apply below_alloc | apply pw_below_drewN | apply below_drew1) | exact HB.out)) hb); clear HB; have HB := n0_; clear n0_; (try clear hb); (try clear hb2); (try clear hk); (try clear hi)))
                    go_ret
                    exact ⟨by first | rfl | (simp [errW_none, errW_some] <;> rfl) | (simp [*, errW_none, errW_some] <;> rfl), by repeat (first | (with_reducible first | exact HB.out | apply below_alloc | apply pw_below_drewN | apply below_drew1) | exact HB.out)⟩
                · replace c25 := Bool.eq_false_iff.mpr c25
                  subst c25
                  have H1 : (some true) = some r := by rw [if_neg (show ¬ (false = true) by decide)] at H; exact H
                  clear H
                  have H := H1
                  clear H1
                  as_aux_lemma =>
                    obtain rfl := Option.some.inj H
                    go_enter Tryd.func3, Tryd.ntmps3
                    go_wp2_with (first | ((with_reducible refine gate_callee (f := 4) rfl ?_); refine goesL_ (some 21) rfl rfl Tryd.func4 (by kernel_rfl) rfl #[.string a0, .int .i64 32] rfl (by (try simp only [List.map_toArray, List.map_cons, List.map_nil]); first | done | rfl | (simp only [List.length_drop, List.length_take]; rfl)) ?_; (with_reducible refine (spec_ExtInt.calls k a0 32 t135 false _ A4.out).mono ?_); rintro e w' ⟨rfl, ⟨nd, rfl⟩⟩; refine ⟨_, rfl, ?_⟩) | ((with_reducible refine gate_callee (f := 4) rfl ?_); refine goesL_ (some 26) rfl rfl Tryd.func4 (by kernel_rfl) rfl #[.string a0, .int .i64 64] rfl (by (try simp only [List.map_toArray, List.map_cons, List.map_nil]); first | done | rfl | (simp only [List.length_drop, List.length_take]; rfl)) ?_; (with_reducible refine (spec_ExtInt.calls k a0 64 t137 false _ A5.out).mono ?_); rintro e w' ⟨rfl, ⟨nd, rfl⟩⟩; refine ⟨_, rfl, ?_⟩) | ((with_reducible refine gate_callee (f := 5) rfl ?_); refine goesL_ (some 31) rfl rfl Tryd.func5 (by kernel_rfl) rfl #[.string a0] rfl (by (try simp only [List.map_toArray, List.map_cons, List.map_nil]); first | done | rfl | (simp only [List.length_drop, List.length_take]; rfl)) ?_; (with_reducible refine (impl_ExtInt32.calls a0 t139 t140 _ ?aLD A6.out).mono ?_); (case aLD => exact Ein.LaidE.below HLAID.out (Ein.LaidE.lt HLAID.out) (by repeat (first | (with_reducible first | exact HB.out | apply below_alloc | apply pw_below_drewN | apply below_drew1) | exact HB.out))); rintro e w29 ⟨rfl, hb⟩; refine ⟨_, rfl, ?_⟩; have n0_ := Aside0.mk (below_step (by repeat (first | (with_reducible first | exact HB.out | apply below_alloc | apply pw_below_drewN | apply below_drew1) | exact HB.out)) hb); clear HB; have HB := n0_; clear n0_; (try clear hb); (try clear hb2); (try clear hk); (try clear hi)) | ((with_reducible refine gate_callee (f := 6) rfl ?_); refine goesL_ (some 36) rfl rfl Tryd.func6 (by kernel_rfl) rfl #[.string a0] rfl (by (try simp only [List.map_toArray, List.map_cons, List.map_nil]); first | done | rfl | (simp only [List.length_drop, List.length_take]; rfl)) ?_; (with_reducible refine (impl_ExtInt64.calls a0 t141 t142 _ ?aLD A7.out).mono ?_); (case aLD => exact Ein.LaidE.below HLAID.out (Ein.LaidE.lt HLAID.out) (by repeat (first | (with_reducible first | exact HB.out | apply below_alloc | apply pw_below_drewN | apply below_drew1) | exact HB.out))); rintro e w30 ⟨rfl, hb⟩; refine ⟨_, rfl, ?_⟩; have n0_ := Aside0.mk (below_step (by repeat (first | (with_reducible first | exact HB.out | apply below_alloc | apply pw_below_drewN | apply below_drew1) | exact HB.out)) hb); clear HB; have HB := n0_; clear n0_; (try clear hb); (try clear hb2); (try clear hk); (try clear hi)) | ((with_reducible refine gate_callee (f := 5) rfl ?_); refine goesL_ (some 40) rfl rfl Tryd.func5 (by kernel_rfl) rfl #[.string (⟨#[45, 55]⟩ : ByteArray)] rfl (by (try simp only [List.map_toArray, List.map_cons, List.map_nil]); first | done | rfl | (simp only [List.length_drop, List.length_take]; rfl)) ?_; (with_reducible refine (impl_ExtInt32.calls (⟨#[45, 55]⟩ : ByteArray) t143 true _ ?aLD A8.out).mono ?_); (case aLD => exact Ein.LaidE.below HLAID.out (Ein.LaidE.lt HLAID.out) (by repeat (first | (with_reducible first | exact HB.out | apply below_alloc | apply pw_below_drewN | apply below_drew1) | exact HB.out))); rintro e w31 ⟨rfl, hb⟩; refine ⟨_, rfl, ?_⟩; have n0_ := Aside0.mk (below_step (by repeat (first | (with_reducible first | exact HB.out | apply below_alloc | apply pw_below_drewN | apply below_drew1) | exact HB.out)) hb); clear HB; have HB := n0_; clear n0_; (try clear hb); (try clear hb2); (try clear hk); (try clear hi)))
                    go_ret
                    exact ⟨by first | rfl | (simp [errW_none, errW_some] <;> rfl) | (simp [*, errW_none, errW_some] <;> rfl), by repeat (first | (with_reducible first | exact HB.out | apply below_alloc | apply pw_below_drewN | apply below_drew1) | exact HB.out)⟩
            · rw [if_neg c12] at H
              have c12b0 : (t142 == t138) = false := by simpa using c12
              (try (have c12b1 : decide (t142 = t138) = false := by simpa using c12))
              (try (have c12b2 : (t142 == t138) = false := by simpa using c12))
              (try (have c12b3 : ¬ (t142 = t138) := by simpa using c12))
              clear c12
              as_aux_lemma =>
                obtain rfl := Option.some.inj H
                go_enter Tryd.func3, Tryd.ntmps3
                go_wp2_with (first | ((with_reducible refine gate_callee (f := 4) rfl ?_); refine goesL_ (some 21) rfl rfl Tryd.func4 (by kernel_rfl) rfl #[.string a0, .int .i64 32] rfl (by (try simp only [List.map_toArray, List.map_cons, List.map_nil]); first | done | rfl | (simp only [List.length_drop, List.length_take]; rfl)) ?_; (with_reducible refine (spec_ExtInt.calls k a0 32 t135 t136 _ A4.out).mono ?_); rintro e w' ⟨rfl, ⟨nd, rfl⟩⟩; refine ⟨_, rfl, ?_⟩) | ((with_reducible refine gate_callee (f := 4) rfl ?_); refine goesL_ (some 26) rfl rfl Tryd.func4 (by kernel_rfl) rfl #[.string a0, .int .i64 64] rfl (by (try simp only [List.map_toArray, List.map_cons, List.map_nil]); first | done | rfl | (simp only [List.length_drop, List.length_take]; rfl)) ?_; (with_reducible refine (spec_ExtInt.calls k a0 64 t137 t138 _ A5.out).mono ?_); rintro e w' ⟨rfl, ⟨nd, rfl⟩⟩; refine ⟨_, rfl, ?_⟩) | ((with_reducible refine gate_callee (f := 5) rfl ?_); refine goesL_ (some 31) rfl rfl Tryd.func5 (by kernel_rfl) rfl #[.string a0] rfl (by (try simp only [List.map_toArray, List.map_cons, List.map_nil]); first | done | rfl | (simp only [List.length_drop, List.length_take]; rfl)) ?_; (with_reducible refine (impl_ExtInt32.calls a0 t139 t140 _ ?aLD A6.out).mono ?_); (case aLD => exact Ein.LaidE.below HLAID.out (Ein.LaidE.lt HLAID.out) (by repeat (first | (with_reducible first | exact HB.out | apply below_alloc | apply pw_below_drewN | apply below_drew1) | exact HB.out))); rintro e w32 ⟨rfl, hb⟩; refine ⟨_, rfl, ?_⟩; have n0_ := Aside0.mk (below_step (by repeat (first | (with_reducible first | exact HB.out | apply below_alloc | apply pw_below_drewN | apply below_drew1) | exact HB.out)) hb); clear HB; have HB := n0_; clear n0_; (try clear hb); (try clear hb2); (try clear hk); (try clear hi)) | ((with_reducible refine gate_callee (f := 6) rfl ?_); refine goesL_ (some 36) rfl rfl Tryd.func6 (by kernel_rfl) rfl #[.string a0] rfl (by (try simp only [List.map_toArray, List.map_cons, List.map_nil]); first | done | rfl | (simp only [List.length_drop, List.length_take]; rfl)) ?_; (with_reducible refine (impl_ExtInt64.calls a0 t141 t142 _ ?aLD A7.out).mono ?_); (case aLD => exact Ein.LaidE.below HLAID.out (Ein.LaidE.lt HLAID.out) (by repeat (first | (with_reducible first | exact HB.out | apply below_alloc | apply pw_below_drewN | apply below_drew1) | exact HB.out))); rintro e w33 ⟨rfl, hb⟩; refine ⟨_, rfl, ?_⟩; have n0_ := Aside0.mk (below_step (by repeat (first | (with_reducible first | exact HB.out | apply below_alloc | apply pw_below_drewN | apply below_drew1) | exact HB.out)) hb); clear HB; have HB := n0_; clear n0_; (try clear hb); (try clear hb2); (try clear hk); (try clear hi)) | ((with_reducible refine gate_callee (f := 5) rfl ?_); refine goesL_ (some 40) rfl rfl Tryd.func5 (by kernel_rfl) rfl #[.string (⟨#[45, 55]⟩ : ByteArray)] rfl (by (try simp only [List.map_toArray, List.map_cons, List.map_nil]); first | done | rfl | (simp only [List.length_drop, List.length_take]; rfl)) ?_; (with_reducible refine (impl_ExtInt32.calls (⟨#[45, 55]⟩ : ByteArray) t143 true _ ?aLD A8.out).mono ?_); (case aLD => exact Ein.LaidE.below HLAID.out (Ein.LaidE.lt HLAID.out) (by repeat (first | (with_reducible first | exact HB.out | apply below_alloc | apply pw_below_drewN | apply below_drew1) | exact HB.out))); rintro e w34 ⟨rfl, hb⟩; refine ⟨_, rfl, ?_⟩; have n0_ := Aside0.mk (below_step (by repeat (first | (with_reducible first | exact HB.out | apply below_alloc | apply pw_below_drewN | apply below_drew1) | exact HB.out)) hb); clear HB; have HB := n0_; clear n0_; (try clear hb); (try clear hb2); (try clear hk); (try clear hi)))
                go_ret
                exact ⟨by first | rfl | (simp [errW_none, errW_some] <;> rfl) | (simp [*, errW_none, errW_some] <;> rfl), by repeat (first | (with_reducible first | exact HB.out | apply below_alloc | apply pw_below_drewN | apply below_drew1) | exact HB.out)⟩
          · rw [if_neg c11] at H
            have c11b0 : (t140 == t136) = false := by simpa using c11
            (try (have c11b1 : decide (t140 = t136) = false := by simpa using c11))
            (try (have c11b2 : (t140 == t136) = false := by simpa using c11))
            (try (have c11b3 : ¬ (t140 = t136) := by simpa using c11))
            clear c11
            as_aux_lemma =>
              obtain rfl := Option.some.inj H
              go_enter Tryd.func3, Tryd.ntmps3
              go_wp2_with (first | ((with_reducible refine gate_callee (f := 4) rfl ?_); refine goesL_ (some 21) rfl rfl Tryd.func4 (by kernel_rfl) rfl #[.string a0, .int .i64 32] rfl (by (try simp only [List.map_toArray, List.map_cons, List.map_nil]); first | done | rfl | (simp only [List.length_drop, List.length_take]; rfl)) ?_; (with_reducible refine (spec_ExtInt.calls k a0 32 t135 t136 _ A4.out).mono ?_); rintro e w' ⟨rfl, ⟨nd, rfl⟩⟩; refine ⟨_, rfl, ?_⟩) | ((with_reducible refine gate_callee (f := 4) rfl ?_); refine goesL_ (some 26) rfl rfl Tryd.func4 (by kernel_rfl) rfl #[.string a0, .int .i64 64] rfl (by (try simp only [List.map_toArray, List.map_cons, List.map_nil]); first | done | rfl | (simp only [List.length_drop, List.length_take]; rfl)) ?_; (with_reducible refine (spec_ExtInt.calls k a0 64 t137 t138 _ A5.out).mono ?_); rintro e w' ⟨rfl, ⟨nd, rfl⟩⟩; refine ⟨_, rfl, ?_⟩) | ((with_reducible refine gate_callee (f := 5) rfl ?_); refine goesL_ (some 31) rfl rfl Tryd.func5 (by kernel_rfl) rfl #[.string a0] rfl (by (try simp only [List.map_toArray, List.map_cons, List.map_nil]); first | done | rfl | (simp only [List.length_drop, List.length_take]; rfl)) ?_; (with_reducible refine (impl_ExtInt32.calls a0 t139 t140 _ ?aLD A6.out).mono ?_); (case aLD => exact Ein.LaidE.below HLAID.out (Ein.LaidE.lt HLAID.out) (by repeat (first | (with_reducible first | exact HB.out | apply below_alloc | apply pw_below_drewN | apply below_drew1) | exact HB.out))); rintro e w35 ⟨rfl, hb⟩; refine ⟨_, rfl, ?_⟩; have n0_ := Aside0.mk (below_step (by repeat (first | (with_reducible first | exact HB.out | apply below_alloc | apply pw_below_drewN | apply below_drew1) | exact HB.out)) hb); clear HB; have HB := n0_; clear n0_; (try clear hb); (try clear hb2); (try clear hk); (try clear hi)) | ((with_reducible refine gate_callee (f := 6) rfl ?_); refine goesL_ (some 36) rfl rfl Tryd.func6 (by kernel_rfl) rfl #[.string a0] rfl (by (try simp only [List.map_toArray, List.map_cons, List.map_nil]); first | done | rfl | (simp only [List.length_drop, List.length_take]; rfl)) ?_; (with_reducible refine (impl_ExtInt64.calls a0 t141 t142 _ ?aLD A7.out).mono ?_); (case aLD => exact Ein.LaidE.below HLAID.out (Ein.LaidE.lt HLAID.out) (by repeat (first | (with_reducible first | exact HB.out | apply below_alloc | apply pw_below_drewN | apply below_drew1) | exact HB.out))); rintro e w36 ⟨rfl, hb⟩; refine ⟨_, rfl, ?_⟩; have n0_ := Aside0.mk (below_step (by repeat (first | (with_reducible first | exact HB.out | apply below_alloc | apply pw_below_drewN | apply below_drew1) | exact HB.out)) hb); clear HB; have HB := n0_; clear n0_; (try clear hb); (try clear hb2); (try clear hk); (try clear hi)) | ((with_reducible refine gate_callee (f := 5) rfl ?_); refine goesL_ (some 40) rfl rfl Tryd.func5 (by kernel_rfl) rfl #[.string (⟨#[45, 55]⟩ : ByteArray)] rfl (by (try simp only [List.map_toArray, List.map_cons, List.map_nil]); first | done | rfl | (simp only [List.length_drop, List.length_take]; rfl)) ?_; (with_reducible refine (impl_ExtInt32.calls (⟨#[45, 55]⟩ : ByteArray) t143 true _ ?aLD A8.out).mono ?_); (case aLD => exact Ein.LaidE.below HLAID.out (Ein.LaidE.lt HLAID.out) (by repeat (first | (with_reducible first | exact HB.out | apply below_alloc | apply pw_below_drewN | apply below_drew1) | exact HB.out))); rintro e w37 ⟨rfl, hb⟩; refine ⟨_, rfl, ?_⟩; have n0_ := Aside0.mk (below_step (by repeat (first | (with_reducible first | exact HB.out | apply below_alloc | apply pw_below_drewN | apply below_drew1) | exact HB.out)) hb); clear HB; have HB := n0_; clear n0_; (try clear hb); (try clear hb2); (try clear hk); (try clear hi)))
              go_ret
              exact ⟨by first | rfl | (simp [errW_none, errW_some] <;> rfl) | (simp [*, errW_none, errW_some] <;> rfl), by repeat (first | (with_reducible first | exact HB.out | apply below_alloc | apply pw_below_drewN | apply below_drew1) | exact HB.out)⟩
        · rw [if_neg c10] at H
          have c10b0 : (t143 == (-7)) = false := beq_eq_false_iff_ne.mpr c10
          have c10b1 : (t143 != (-7)) = true := bne_iff_ne.mpr c10
          as_aux_lemma =>
            obtain rfl := Option.some.inj H
            go_enter Tryd.func3, Tryd.ntmps3
            go_wp2_with (first | ((with_reducible refine gate_callee (f := 4) rfl ?_); refine goesL_ (some 21) rfl rfl Tryd.func4 (by kernel_rfl) rfl #[.string a0, .int .i64 32] rfl (by (try simp only [List.map_toArray, List.map_cons, List.map_nil]); first | done | rfl | (simp only [List.length_drop, List.length_take]; rfl)) ?_; (with_reducible refine (spec_ExtInt.calls k a0 32 t135 t136 _ A4.out).mono ?_); rintro e w' ⟨rfl, ⟨nd, rfl⟩⟩; refine ⟨_, rfl, ?_⟩) | ((with_reducible refine gate_callee (f := 4) rfl ?_); refine goesL_ (some 26) rfl rfl Tryd.func4 (by kernel_rfl) rfl #[.string a0, .int .i64 64] rfl (by (try simp only [List.map_toArray, List.map_cons, List.map_nil]); first | done | rfl | (simp only [List.length_drop, List.length_take]; rfl)) ?_; (with_reducible refine (spec_ExtInt.calls k a0 64 t137 t138 _ A5.out).mono ?_); rintro e w' ⟨rfl, ⟨nd, rfl⟩⟩; refine ⟨_, rfl, ?_⟩) | ((with_reducible refine gate_callee (f := 5) rfl ?_); refine goesL_ (some 31) rfl rfl Tryd.func5 (by kernel_rfl) rfl #[.string a0] rfl (by (try simp only [List.map_toArray, List.map_cons, List.map_nil]); first | done | rfl | (simp only [List.length_drop, List.length_take]; rfl)) ?_; (with_reducible refine (impl_ExtInt32.calls a0 t139 t140 _ ?aLD A6.out).mono ?_); (case aLD => exact Ein.LaidE.below HLAID.out (Ein.LaidE.lt HLAID.out) (by repeat (first | (with_reducible first | exact HB.out | apply below_alloc | apply pw_below_drewN | apply below_drew1) | exact HB.out))); rintro e w38 ⟨rfl, hb⟩; refine ⟨_, rfl, ?_⟩; have n0_ := Aside0.mk (below_step (by repeat (first | (with_reducible first | exact HB.out | apply below_alloc | apply pw_below_drewN | apply below_drew1) | exact HB.out)) hb); clear HB; have HB := n0_; clear n0_; (try clear hb); (try clear hb2); (try clear hk); (try clear hi)) | ((with_reducible refine gate_callee (f := 6) rfl ?_); refine goesL_ (some 36) rfl rfl Tryd.func6 (by kernel_rfl) rfl #[.string a0] rfl (by (try simp only [List.map_toArray, List.map_cons, List.map_nil]); first | done | rfl | (simp only [List.length_drop, List.length_take]; rfl)) ?_; (with_reducible refine (impl_ExtInt64.calls a0 t141 t142 _ ?aLD A7.out).mono ?_); (case aLD => exact Ein.LaidE.below HLAID.out (Ein.LaidE.lt HLAID.out) (by repeat (first | (with_reducible first | exact HB.out | apply below_alloc | apply pw_below_drewN | apply below_drew1) | exact HB.out))); rintro e w39 ⟨rfl, hb⟩; refine ⟨_, rfl, ?_⟩; have n0_ := Aside0.mk (below_step (by repeat (first | (with_reducible first | exact HB.out | apply below_alloc | apply pw_below_drewN | apply below_drew1) | exact HB.out)) hb); clear HB; have HB := n0_; clear n0_; (try clear hb); (try clear hb2); (try clear hk); (try clear hi)) | ((with_reducible refine gate_callee (f := 5) rfl ?_); refine goesL_ (some 40) rfl rfl Tryd.func5 (by kernel_rfl) rfl #[.string (⟨#[45, 55]⟩ : ByteArray)] rfl (by (try simp only [List.map_toArray, List.map_cons, List.map_nil]); first | done | rfl | (simp only [List.length_drop, List.length_take]; rfl)) ?_; (with_reducible refine (impl_ExtInt32.calls (⟨#[45, 55]⟩ : ByteArray) t143 true _ ?aLD A8.out).mono ?_); (case aLD => exact Ein.LaidE.below HLAID.out (Ein.LaidE.lt HLAID.out) (by repeat (first | (with_reducible first | exact HB.out | apply below_alloc | apply pw_below_drewN | apply below_drew1) | exact HB.out))); rintro e w40 ⟨rfl, hb⟩; refine ⟨_, rfl, ?_⟩; have n0_ := Aside0.mk (below_step (by repeat (first | (with_reducible first | exact HB.out | apply below_alloc | apply pw_below_drewN | apply below_drew1) | exact HB.out)) hb); clear HB; have HB := n0_; clear n0_; (try clear hb); (try clear hb2); (try clear hk); (try clear hi)))
            go_ret
            exact ⟨by first | rfl | (simp [errW_none, errW_some] <;> rfl) | (simp [*, errW_none, errW_some] <;> rfl), by repeat (first | (with_reducible first | exact HB.out | apply below_alloc | apply pw_below_drewN | apply below_drew1) | exact HB.out)⟩
      · replace c9 := Bool.eq_false_iff.mpr c9
        subst c9
        have H1 : (some false) = some r := by rw [if_neg (show ¬ (false = true) by decide)] at H; exact H
        clear H
        have H := H1
        clear H1
        as_aux_lemma =>
          obtain rfl := Option.some.inj H
          go_enter Tryd.func3, Tryd.ntmps3
          go_wp2_with (first | ((with_reducible refine gate_callee (f := 4) rfl ?_); refine goesL_ (some 21) rfl rfl Tryd.func4 (by kernel_rfl) rfl #[.string a0, .int .i64 32] rfl (by (try simp only [List.map_toArray, List.map_cons, List.map_nil]); first | done | rfl | (simp only [List.length_drop, List.length_take]; rfl)) ?_; (with_reducible refine (spec_ExtInt.calls k a0 32 t135 t136 _ A4.out).mono ?_); rintro e w' ⟨rfl, ⟨nd, rfl⟩⟩; refine ⟨_, rfl, ?_⟩) | ((with_reducible refine gate_callee (f := 4) rfl ?_); refine goesL_ (some 26) rfl rfl Tryd.func4 (by kernel_rfl) rfl #[.string a0, .int .i64 64] rfl (by (try simp only [List.map_toArray, List.map_cons, List.map_nil]); first | done | rfl | (simp only [List.length_drop, List.length_take]; rfl)) ?_; (with_reducible refine (spec_ExtInt.calls k a0 64 t137 t138 _ A5.out).mono ?_); rintro e w' ⟨rfl, ⟨nd, rfl⟩⟩; refine ⟨_, rfl, ?_⟩) | ((with_reducible refine gate_callee (f := 5) rfl ?_); refine goesL_ (some 31) rfl rfl Tryd.func5 (by kernel_rfl) rfl #[.string a0] rfl (by (try simp only [List.map_toArray, List.map_cons, List.map_nil]); first | done | rfl | (simp only [List.length_drop, List.length_take]; rfl)) ?_; (with_reducible refine (impl_ExtInt32.calls a0 t139 t140 _ ?aLD A6.out).mono ?_); (case aLD => exact Ein.LaidE.below HLAID.out (Ein.LaidE.lt HLAID.out) (by repeat (first | (with_reducible first | exact HB.out | apply below_alloc | apply pw_below_drewN | apply below_drew1) | exact HB.out))); rintro e w41 ⟨rfl, hb⟩; refine ⟨_, rfl, ?_⟩; have n0_ := Aside0.mk (below_step (by repeat (first | (with_reducible first | exact HB.out | apply below_alloc | apply pw_below_drewN | apply below_drew1) | exact HB.out)) hb); clear HB; have HB := n0_; clear n0_; (try clear hb); (try clear hb2); (try clear hk); (try clear hi)) | ((with_reducible refine gate_callee (f := 6) rfl ?_); refine goesL_ (some 36) rfl rfl Tryd.func6 (by kernel_rfl) rfl #[.string a0] rfl (by (try simp only [List.map_toArray, List.map_cons, List.map_nil]); first | done | rfl | (simp only [List.length_drop, List.length_take]; rfl)) ?_; (with_reducible refine (impl_ExtInt64.calls a0 t141 t142 _ ?aLD A7.out).mono ?_); (case aLD => exact Ein.LaidE.below HLAID.out (Ein.LaidE.lt HLAID.out) (by repeat (first | (with_reducible first | exact HB.out | apply below_alloc | apply pw_below_drewN | apply below_drew1) | exact HB.out))); rintro e w42 ⟨rfl, hb⟩; refine ⟨_, rfl, ?_⟩; have n0_ := Aside0.mk (below_step (by repeat (first | (with_reducible first | exact HB.out | apply below_alloc | apply pw_below_drewN | apply below_drew1) | exact HB.out)) hb); clear HB; have HB := n0_; clear n0_; (try clear hb); (try clear hb2); (try clear hk); (try clear hi)) | ((with_reducible refine gate_callee (f := 5) rfl ?_); refine goesL_ (some 40) rfl rfl Tryd.func5 (by kernel_rfl) rfl #[.string (⟨#[45, 55]⟩ : ByteArray)] rfl (by (try simp only [List.map_toArray, List.map_cons, List.map_nil]); first | done | rfl | (simp only [List.length_drop, List.length_take]; rfl)) ?_; (with_reducible refine (impl_ExtInt32.calls (⟨#[45, 55]⟩ : ByteArray) t143 false _ ?aLD A8.out).mono ?_); (case aLD => exact Ein.LaidE.below HLAID.out (Ein.LaidE.lt HLAID.out) (by repeat (first | (with_reducible first | exact HB.out | apply below_alloc | apply pw_below_drewN | apply below_drew1) | exact HB.out))); rintro e w43 ⟨rfl, hb⟩; refine ⟨_, rfl, ?_⟩; have n0_ := Aside0.mk (below_step (by repeat (first | (with_reducible first | exact HB.out | apply below_alloc | apply pw_below_drewN | apply below_drew1) | exact HB.out)) hb); clear HB; have HB := n0_; clear n0_; (try clear hb); (try clear hb2); (try clear hk); (try clear hi)))
          go_ret
          exact ⟨by first | rfl | (simp [errW_none, errW_some] <;> rfl) | (simp [*, errW_none, errW_some] <;> rfl), by repeat (first | (with_reducible first | exact HB.out | apply below_alloc | apply pw_below_drewN | apply below_drew1) | exact HB.out)⟩

/-- THE ONE PURE STATEMENT of laws_FnExtInts: yours. -/
def laws_FnExtInts.Pure : Prop := ∀ (a0 : ByteArray), a0.size ≤ 140737488351232 → ∃ k, laws_FnExtInts.f k a0 = some true
theorem laws_FnExtInts.walk (P : laws_FnExtInts.Pure) (a0 : ByteArray) (w : World) (hlaid : Ein.LaidE w) (w0 : a0.size ≤ 140737488351232) :
    Calls Tryd.prog 3 #[.string a0] w fun e w' => e = .returned (.bool true) ∧ Below w.heap.size w w' := by
  obtain ⟨k, h⟩ := P a0 w0
  refine (laws_FnExtInts.calls k a0 true w hlaid h).mono ?_
  rintro e w' ⟨rfl, hd⟩
  exact ⟨rfl, hd⟩

end Go.Proofs.YtdcoingcpkhmiaaDoor.PEi
