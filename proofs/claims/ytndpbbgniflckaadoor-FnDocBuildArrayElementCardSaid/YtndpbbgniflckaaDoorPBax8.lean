/- Printed by a program of this session (a turned copy of the printer of the kit): contracts of functions of the translation, each with the Lean function that it computes. Conditions: as each theorem states them. -/
import Derived.Test.YtndpbbgniflckaaDoorPBax0
namespace Go.Proofs.YtndpbbgniflckaaDoor.PBa
open Go.RowKit Go.Proofs.YtndpbbgniflckaaDoorW.PrintWords Go.Proofs.YtndpbbgniflckaaDoorW.PrintLast Go.Proofs.YtndpbbgniflckaaDoorW.PrintMore
attribute [local go_sem] max2_int min2_int max_two min_two max_three min_three max_four min_four   -- for this text's walks alone
set_option linter.unusedVariables false
set_option linter.unusedSimpArgs false

/-! ### bsoncore_isValidCString: function 56 -/
/-- Has a text no byte 0? -/
def plainText (s : ByteArray) : Bool := (List.range s.size).all fun j => s.get! j != 0
theorem plainText_true {s : ByteArray} : plainText s = true ↔ ∀ j, j < s.size → s.get! j ≠ 0 := by
  simp [plainText]
def bsoncore_isValidCString.f (a0 : ByteArray) : Option (Bool) := some (plainText a0)
def SearchPost (s : ByteArray) (w0 : World) (e : Ending) (w' : World) : Prop := ∃ v : Int, e = .returned (.int .i64 v) ∧ (0 ≤ v ↔ plainText s = false) ∧ Below w0.heap.size w0 w'
set_option maxHeartbeats 2000000 in
set_option maxRecDepth 100000 in
theorem zzIndexRune_zero (s : ByteArray) (w : World) :
    Calls Tryd.prog 64 #[.string s, .int .i32 0] w (SearchPost s w) := by
  go_enter Tryd.func64, Tryd.ntmps64
  go_wp2
  go_loopw [] (fun w' => ∃ (pos : Nat), w' = w.iter s pos ∧ Aside0 (∀ j, j < pos → j < s.size → s.get! j ≠ 0)) (fun w' => s.size - w'.iterPos w.heap.size)
  case atStart => exact ⟨0, rfl, ⟨fun j hj => absurd hj (Nat.not_lt_zero j)⟩⟩
  case round =>
    obtain ⟨pos, rfl, HA⟩ := hrel
    have hbel : Below w.heap.size w (w.iter s pos) := by
      exact (Below.refl _ _).alloc (Nat.le_refl _) _
    have HBEL := Aside0.mk hbel
    clear hbel
    by_cases hp : pos < s.size
    · have hnx : ∀ ty, (Instr.next (.pointer (some ⟨w.heap.size, 0, none⟩)) true ty).run Tryd.prog (w.iter s pos) = _ := fun ty => run_next_any w s pos ty hp
      have HD := Aside0.mk (HW.decode_zero s pos hp)
      by_cases hz : s.get! pos = 0
      · have hb : ((((Utf8.decode s pos).1 : Nat) : Int) == 0) = true := beq_iff_eq.2 (by have := HD.out.2.1.2 hz; omega)
        have HF : Aside0 (plainText s = false) := ⟨by
          cases hpt : plainText s with
          | false => rfl
          | true => exact absurd hz (plainText_true.1 hpt pos hp)⟩
        clear hz
        go_wp2
        go_ret
        exact ⟨(pos : Int), rfl, ⟨fun _ => HF.out, fun _ => by omega⟩, (Below.refl _ _).alloc (Nat.le_refl _) _⟩
      · have hb : ((((Utf8.decode s pos).1 : Nat) : Int) == 0) = false := beq_eq_false_iff_ne.2 (fun h0 => hz (HD.out.2.1.1 (by omega)))
        have HF : Aside0 (∀ j, j < pos + (Utf8.decode s pos).2 → j < s.size → s.get! j ≠ 0) := ⟨by
          intro j hj hjs
          by_cases hjp : j < pos
          · exact HA.out j hjp hjs
          · exact (HD.out.2.2 hz j (by omega) hj).2⟩
        clear hz
        go_wp2
        go_roundw
        case rel => exact ⟨pos + (Utf8.decode s pos).2, rfl, HF⟩
        case measure =>
          have := HD.out.1
          simp
          omega
    · have hnx : ∀ ty, (Instr.next (.pointer (some ⟨w.heap.size, 0, none⟩)) true ty).run Tryd.prog (w.iter s pos) = _ := fun ty => run_next_end w s pos ty hp
      have HF : Aside0 (plainText s = true) := ⟨plainText_true.2 (fun j hj => HA.out j (by omega) hj)⟩
      go_wp2
      go_ret
      exact ⟨-1, rfl, ⟨fun h => by omega, fun h => by rw [HF.out] at h; cases h⟩, (Below.refl _ _).alloc (Nat.le_refl _) _⟩
set_option maxHeartbeats 2000000 in
set_option maxRecDepth 100000 in
theorem bsoncore_isValidCString.calls (a0 : ByteArray) (r : Bool) (w : World) (h : bsoncore_isValidCString.f a0 = some r) :
    Calls Tryd.prog 56 #[.string a0] w fun e w' => e = .returned (.bool r) ∧ Below w.heap.size w w' := by
  obtain rfl := Option.some.inj h
  clear h
  cases hpt : plainText a0 with
  | true =>
    have HP := Aside0.mk hpt
    clear hpt
    go_enter Tryd.func56, Tryd.ntmps56
    go_wp2_with (first | (go_at_call 64; refine (zzIndexRune_zero _ _).mono ?_; rintro e w' ⟨v, rfl, hv, hb⟩; have hv2 : decide (0 ≤ v) = false := decide_eq_false (by rw [hv, HP.out]; simp); have HB := Aside0.mk hb; clear hv hb) | go_in)
    go_ret
    exact ⟨rfl, HB.out⟩
  | false =>
    have HP := Aside0.mk hpt
    clear hpt
    go_enter Tryd.func56, Tryd.ntmps56
    go_wp2_with (first | (go_at_call 64; refine (zzIndexRune_zero _ _).mono ?_; rintro e w' ⟨v, rfl, hv, hb⟩; have hv2 : decide (0 ≤ v) = true := decide_eq_true (by rw [hv, HP.out]); have HB := Aside0.mk hb; clear hv hb) | go_in)
    go_ret
    exact ⟨rfl, HB.out⟩

/-! ### bsoncore_AppendType: function 57 -/
def bsoncore_AppendType.f (l0 : List Int) (a1 : Int) : Option (List Int) := if l0.length < 140737488355328 then (some (l0 ++ [a1])) else (none)
set_option maxHeartbeats 8000000 in
set_option maxRecDepth 100000 in
theorem bsoncore_AppendType.calls (P0_ : Nat → Prop) (u9000_ : Value) (l0 : List Int) (a1 : Int) (r : List Int) (w0 w : World) (hB : Below w0.heap.size w0 w) (ho0 : Kd.R (Kd.int .u8) 5 w w0.heap.size P0_ u9000_ l0) (h : bsoncore_AppendType.f l0 a1 = some r) :
    Calls Tryd.prog 57 #[u9000_, .int .u8 a1] w fun e w' => ∃ v0_ : Value, e = .returned (v0_) ∧ Kd.R (Kd.int .u8) 5 w' w0.heap.size (fun k_ => (P0_ k_ ∨ w.heap.size ≤ k_)) v0_ r ∧ Below w0.heap.size w0 w' ∧ Kept w w' (fun k_ => P0_ k_) := by
  have HO0 := Aside0.mk (show Kd.R (Kd.int .u8) 5 w w0.heap.size (fun k_ => (P0_ k_ ∨ w.heap.size ≤ k_)) u9000_ l0 from Kd.R_mono ho0 (fun k_ hk => (.inl hk)))
  have HK := Aside0.mk (Kept.refl w (fun k_ => P0_ k_))
  have HW0 := Aside0.mk hB.size
  have HB := Aside0.mk hB
  clear hB
  have H : (if l0.length < 140737488355328 then (some (l0 ++ [a1])) else (none)) = some r := h
  clear h
  by_cases c3 : l0.length < 140737488355328
  · rw [if_pos c3] at H
    have LMc3 := Aside0.mk c3
    clear c3
    obtain ⟨y385, hy385⟩ : ∃ y_ : List Int, y_ = (l0 ++ [a1]) := ⟨_, rfl⟩
    replace H : (some y385) = some r := by first | (rw [hy385]; with_reducible exact H) | (have H2_ := (Option.bind_some _ _).symm.trans H; rw [hy385]; with_reducible exact H2_) | (have H2_ := (Option.bind_some _ _).symm.trans H; with_reducible exact H2_) | with_reducible exact H | (rw [hy385]; exact H) | exact H
    have Ny385 := Aside0.mk hy385
    clear hy385
    as_aux_lemma =>
      obtain rfl := Option.some.inj H
      go_enter Tryd.func57, Tryd.ntmps57
      go_wp2_with (first | ((with_reducible refine gate_builtin (b := .append) (xs := #[.tmp 5, .tmp 7]) rfl ?_); at_builtin; refine Kd.R_append (Kd.int .u8) (w0 := w0) w0.heap.size rfl (.tmp 5) (.tmp 7) 23 5 (.int .u8 0) 1 rfl Tryd.underlying23 info5 rfl (by decide) (by omega) u9000_ l0 a1 [.int .u8 a1] (fun k_ => (P0_ k_ ∨ w.heap.size ≤ k_)) (fun _ => False) rfl rfl ?aP (fun _ hk => hk.elim) ?aF ?aO ?aB ?aS ?aL ?_; (case aP => exact rfl); (case aB => exact (by repeat (first | (with_reducible first | exact HB.out | apply below_alloc | apply pw_below_drewN | apply below_drew1) | exact HB.out))); (case aF => exact (fun k_ hk => (.inr (Nat.le_trans (by first | exact HK.out.1 | exact (show Kept w _ (fun k_ => P0_ k_) from by repeat (first | (with_reducible first | exact HK.out | apply Kept.alloc | apply Kept.drewN | apply Kept.drew) | exact HK.out)).1) hk)))); (case aO => exact (by (with_reducible repeat (first | apply Kd.R_alloc | apply Kd.R_drewN | apply Kd.R_drew)); exact HO0.out)); (case aS => exact (below_size (by repeat (first | (with_reducible first | exact HB.out | apply below_alloc | apply pw_below_drewN | apply below_drew1) | exact HB.out)))); (case aL => have := LMc3.out; omega); intro v386 w4 ho hb hg hat; rw [← Ny385.out] at ho; have n0_ := Aside0.mk (hb); have n1_ := Aside0.mk (Kept.of_grown (S := (fun k_ => P0_ k_)) hg (by repeat (first | (with_reducible first | exact HK.out | apply Kept.alloc | apply Kept.drewN | apply Kept.drew) | exact HK.out)) (fun k_ e_ => (HO0.out.1 k_ e_))); have n2_ := Aside0.mk (ho); clear HB; clear HK; clear HO0; have HB := n0_; have HK := n1_; have HO387 := n2_; clear n0_ n1_ n2_; clear ho hb hg hat))
      go_ret
      exact ⟨_, by first | rfl | (simp [errW_none, errW_some] <;> rfl) | (simp [*, errW_none, errW_some] <;> rfl), by (with_reducible repeat (first | apply Kd.R_alloc | apply Kd.R_drewN | apply Kd.R_drew)); exact HO387.out, by repeat (first | (with_reducible first | exact HB.out | apply below_alloc | apply pw_below_drewN | apply below_drew1) | exact HB.out), by repeat (first | (with_reducible first | exact HK.out | apply Kept.alloc | apply Kept.drewN | apply Kept.drew) | exact HK.out)⟩
  · rw [if_neg c3] at H
    exact absurd H (by simp)

/-! ### bsoncore_AppendHeader: function 44 -/
def bsoncore_AppendHeader.f (l0 : List Int) (a1 : Int) (a2 : ByteArray) : Option (List Int) := (bsoncore_isValidCString.f a2).bind fun t388 => (if t388 = true then ((bsoncore_AppendType.f l0 a1).bind fun t389 => (if t389.length + a2.size < 140737488355328 then ((some (t389 ++ bytesOf a2 : List Int)).bind fun y392 => (if y392.length < 140737488355328 then (some (y392 ++ [0])) else (none))) else (none))) else (none))
set_option maxHeartbeats 8000000 in
set_option maxRecDepth 100000 in
theorem bsoncore_AppendHeader.calls (P0_ : Nat → Prop) (u9000_ : Value) (l0 : List Int) (a1 : Int) (a2 : ByteArray) (r : List Int) (w0 w : World) (hB : Below w0.heap.size w0 w) (ho0 : Kd.R (Kd.int .u8) 5 w w0.heap.size P0_ u9000_ l0) (h : bsoncore_AppendHeader.f l0 a1 a2 = some r) :
    Calls Tryd.prog 44 #[u9000_, .int .u8 a1, .string a2] w fun e w' => ∃ v0_ : Value, e = .returned (v0_) ∧ Kd.R (Kd.int .u8) 5 w' w0.heap.size (fun k_ => (P0_ k_ ∨ w.heap.size ≤ k_)) v0_ r ∧ Below w0.heap.size w0 w' ∧ Kept w w' (fun k_ => P0_ k_) := by
  have HO0 := Aside0.mk (show Kd.R (Kd.int .u8) 5 w w0.heap.size (fun k_ => (P0_ k_ ∨ w.heap.size ≤ k_)) u9000_ l0 from Kd.R_mono ho0 (fun k_ hk => (.inl hk)))
  have HK := Aside0.mk (Kept.refl w (fun k_ => P0_ k_))
  have HW0 := Aside0.mk hB.size
  have HB := Aside0.mk hB
  clear hB
  have H : ((bsoncore_isValidCString.f a2).bind fun t388 => (if t388 = true then ((bsoncore_AppendType.f l0 a1).bind fun t389 => (if t389.length + a2.size < 140737488355328 then ((some (t389 ++ bytesOf a2 : List Int)).bind fun y392 => (if y392.length < 140737488355328 then (some (y392 ++ [0])) else (none))) else (none))) else (none))) = some r := h
  clear h
  replace H := Option.bind_eq_some_iff.mp H
  obtain ⟨t388, A40, H⟩ := H
  replace H : (if t388 = true then ((bsoncore_AppendType.f l0 a1).bind fun t389 => (if t389.length + a2.size < 140737488355328 then ((some (t389 ++ bytesOf a2 : List Int)).bind fun y392 => (if y392.length < 140737488355328 then (some (y392 ++ [0])) else (none))) else (none))) else (none)) = some r := H
  have A4 := Aside0.mk A40
  clear A40
  by_cases c5 : t388 = true
  · subst c5
    have H1 : ((bsoncore_AppendType.f l0 a1).bind fun t389 => (if t389.length + a2.size < 140737488355328 then ((some (t389 ++ bytesOf a2 : List Int)).bind fun y392 => (if y392.length < 140737488355328 then (some (y392 ++ [0])) else (none))) else (none))) = some r := by rw [if_pos rfl] at H; exact H
    clear H
    have H := H1
    clear H1
    replace H := Option.bind_eq_some_iff.mp H
    obtain ⟨t389, A60, H⟩ := H
    replace H : (if t389.length + a2.size < 140737488355328 then ((some (t389 ++ bytesOf a2 : List Int)).bind fun y392 => (if y392.length < 140737488355328 then (some (y392 ++ [0])) else (none))) else (none)) = some r := H
    have A6 := Aside0.mk A60
    clear A60
    by_cases c7 : t389.length + a2.size < 140737488355328
    · rw [if_pos c7] at H
      have LMc7 := Aside0.mk c7
      clear c7
      obtain ⟨y392, hy392⟩ : ∃ y_ : List Int, y_ = (t389 ++ bytesOf a2) := ⟨_, rfl⟩
      replace H : (if y392.length < 140737488355328 then (some (y392 ++ [0])) else (none)) = some r := by first | (rw [hy392]; with_reducible exact H) | (have H2_ := (Option.bind_some _ _).symm.trans H; rw [hy392]; with_reducible exact H2_) | (have H2_ := (Option.bind_some _ _).symm.trans H; with_reducible exact H2_) | with_reducible exact H | (rw [hy392]; exact H) | exact H
      have Ny392 := Aside0.mk hy392
      clear hy392
      by_cases c8 : y392.length < 140737488355328
      · rw [if_pos c8] at H
        have LMc8 := Aside0.mk c8
        clear c8
        obtain ⟨y395, hy395⟩ : ∃ y_ : List Int, y_ = (y392 ++ [0]) := ⟨_, rfl⟩
        replace H : (some y395) = some r := by first | (rw [hy395]; with_reducible exact H) | (have H2_ := (Option.bind_some _ _).symm.trans H; rw [hy395]; with_reducible exact H2_) | (have H2_ := (Option.bind_some _ _).symm.trans H; with_reducible exact H2_) | with_reducible exact H | (rw [hy395]; exact H) | exact H
        have Ny395 := Aside0.mk hy395
        clear hy395
        as_aux_lemma =>
          obtain rfl := Option.some.inj H
          go_enter Tryd.func44, Tryd.ntmps44
          go_wp2_with (first | ((with_reducible refine gate_callee (f := 56) rfl ?_); refine goesL_ (some 8) rfl rfl Tryd.func56 (by kernel_rfl) rfl #[.string a2] rfl (by (try simp only [List.map_toArray, List.map_cons, List.map_nil]); first | done | rfl | (simp only [List.length_drop, List.length_take]; rfl)) ?_; (with_reducible refine (bsoncore_isValidCString.calls a2 true _ A4.out).mono ?_); rintro e w9 ⟨rfl, hb⟩; refine ⟨_, rfl, ?_⟩; have n0_ := Aside0.mk (Kd.R_below (by (with_reducible repeat (first | apply Kd.R_alloc | apply Kd.R_drewN | apply Kd.R_drew)); exact HO0.out) hb); have n1_ := Aside0.mk (Kept.below (S := (fun k_ => P0_ k_)) (by repeat (first | (with_reducible first | exact HK.out | apply Kept.alloc | apply Kept.drewN | apply Kept.drew) | exact HK.out)) hb); have n2_ := Aside0.mk (below_step (by repeat (first | (with_reducible first | exact HB.out | apply below_alloc | apply pw_below_drewN | apply below_drew1) | exact HB.out)) hb); clear HO0; clear HK; clear HB; have HO0 := n0_; have HK := n1_; have HB := n2_; clear n0_ n1_ n2_; (try clear hb); (try clear hb2); (try clear hk); (try clear hi); obtain ⟨Ao10, co10, eo10⟩ := Kd.R_slice HO0.out; subst eo10) | ((with_reducible refine gate_callee (f := 57) rfl ?_); refine goesL_ (some 13) rfl rfl Tryd.func57 (by kernel_rfl) rfl #[.slice Ao10 l0.length co10, .int .u8 a1] rfl (by (try simp only [List.map_toArray, List.map_cons, List.map_nil]); first | done | rfl | (simp only [List.length_drop, List.length_take]; rfl)) ?_; (with_reducible refine (bsoncore_AppendType.calls (fun k_ => some k_ = (.slice Ao10 l0.length co10 : Value).ownBlock) (.slice Ao10 l0.length co10) l0 a1 t389 w0 _ ?side1 ?side2 A6.out).mono ?_); (case side1 => repeat (first | (with_reducible first | exact HB.out | apply below_alloc | apply pw_below_drewN | apply below_drew1) | exact HB.out)); (case side2 => exact Kd.R_tight rfl HO0.out); rintro e w11 ⟨v390, rfl, ho0, hb, hkp⟩; refine ⟨_, rfl, ?_⟩; have n0_ := Aside0.mk (Kd.R_mono (ok' := fun k_ => (P0_ k_ ∨ w.heap.size ≤ k_)) ho0 (fun k_ hk_ => Or.elim hk_ (fun hs_ => (HO0.out.1 k_ (hs_).symm)) (fun hn_ => (.inr (Nat.le_trans (by first | exact HK.out.1 | exact (show Kept w _ (fun k_ => P0_ k_) from by repeat (first | (with_reducible first | exact HK.out | apply Kept.alloc | apply Kept.drewN | apply Kept.drew) | exact HK.out)).1) hn_))))); have n1_ := Aside0.mk (Kept.then_ (S := (fun k_ => P0_ k_)) (by repeat (first | (with_reducible first | exact HK.out | apply Kept.alloc | apply Kept.drewN | apply Kept.drew) | exact HK.out)) hkp (fun k_ hs_ => (fun e_ => (HO0.out.1 k_ e_.symm)) hs_)); have n2_ := Aside0.mk (hb); clear HK; clear HB; clear HO0; have HO391 := n0_; have HK := n1_; have HB := n2_; clear n0_ n1_ n2_; (try clear hb); (try clear hkp); (try clear ho0)) | (at_builtin; refine HW.R_append_str (w0 := w0) w0.heap.size rfl (.tmp 14) _ 23 9 5 rfl Tryd.underlying23 Tryd.underlying9 info5 v390 t389 a2 (fun k_ => (P0_ k_ ∨ w.heap.size ≤ k_)) rfl rfl ?aO ?aF ?aB ?aS ?aL ?_; (case aB => exact (by repeat (first | (with_reducible first | exact HB.out | apply below_alloc | apply pw_below_drewN | apply below_drew1) | exact HB.out))); (case aF => exact (fun k_ hk => (.inr (Nat.le_trans (by first | exact HK.out.1 | exact (show Kept w _ (fun k_ => P0_ k_) from by repeat (first | (with_reducible first | exact HK.out | apply Kept.alloc | apply Kept.drewN | apply Kept.drew) | exact HK.out)).1) hk)))); (case aO => exact (by (with_reducible repeat (first | apply Kd.R_alloc | apply Kd.R_drewN | apply Kd.R_drew)); exact HO391.out)); (case aS => exact (below_size (by repeat (first | (with_reducible first | exact HB.out | apply below_alloc | apply pw_below_drewN | apply below_drew1) | exact HB.out)))); (case aL => have := LMc7.out; omega); intro v393 w12 ho hb hg hat; rw [← Ny392.out] at ho; have n0_ := Aside0.mk (hb); have n1_ := Aside0.mk (Kept.of_grown (S := (fun k_ => P0_ k_)) hg (by repeat (first | (with_reducible first | exact HK.out | apply Kept.alloc | apply Kept.drewN | apply Kept.drew) | exact HK.out)) (fun k_ e_ => (HO391.out.1 k_ e_))); have n2_ := Aside0.mk (ho); clear HB; clear HK; clear HO391; have HB := n0_; have HK := n1_; have HO394 := n2_; clear n0_ n1_ n2_; clear ho hb hg hat) | ((with_reducible refine gate_builtin (b := .append) (xs := #[.tmp 17, .tmp 18]) rfl ?_); at_builtin; refine Kd.R_append (Kd.int .u8) (w0 := w0) w0.heap.size rfl (.tmp 17) (.tmp 18) 23 5 (.int .u8 0) 1 rfl Tryd.underlying23 info5 rfl (by decide) (by omega) v393 y392 0 [.int .u8 0] (fun k_ => (P0_ k_ ∨ w.heap.size ≤ k_)) (fun _ => False) rfl rfl ?aP (fun _ hk => hk.elim) ?aF ?aO ?aB ?aS ?aL ?_; (case aP => exact rfl); (case aB => exact (by repeat (first | (with_reducible first | exact HB.out | apply below_alloc | apply pw_below_drewN | apply below_drew1) | exact HB.out))); (case aF => exact (fun k_ hk => (.inr (Nat.le_trans (by first | exact HK.out.1 | exact (show Kept w _ (fun k_ => P0_ k_) from by repeat (first | (with_reducible first | exact HK.out | apply Kept.alloc | apply Kept.drewN | apply Kept.drew) | exact HK.out)).1) hk)))); (case aO => exact (by (with_reducible repeat (first | apply Kd.R_alloc | apply Kd.R_drewN | apply Kd.R_drew)); exact HO394.out)); (case aS => exact (below_size (by repeat (first | (with_reducible first | exact HB.out | apply below_alloc | apply pw_below_drewN | apply below_drew1) | exact HB.out)))); (case aL => have := LMc8.out; omega); intro v396 w13 ho hb hg hat; rw [← Ny395.out] at ho; have n0_ := Aside0.mk (hb); have n1_ := Aside0.mk (Kept.of_grown (S := (fun k_ => P0_ k_)) hg (by repeat (first | (with_reducible first | exact HK.out | apply Kept.alloc | apply Kept.drewN | apply Kept.drew) | exact HK.out)) (fun k_ e_ => (HO394.out.1 k_ e_))); have n2_ := Aside0.mk (ho); clear HB; clear HK; clear HO394; have HB := n0_; have HK := n1_; have HO397 := n2_; clear n0_ n1_ n2_; clear ho hb hg hat))
          go_ret
          exact ⟨_, by first | rfl | (simp [errW_none, errW_some] <;> rfl) | (simp [*, errW_none, errW_some] <;> rfl), by (with_reducible repeat (first | apply Kd.R_alloc | apply Kd.R_drewN | apply Kd.R_drew)); exact HO397.out, by repeat (first | (with_reducible first | exact HB.out | apply below_alloc | apply pw_below_drewN | apply below_drew1) | exact HB.out), by repeat (first | (with_reducible first | exact HK.out | apply Kept.alloc | apply Kept.drewN | apply Kept.drew) | exact HK.out)⟩
      · rw [if_neg c8] at H
        exact absurd H (by simp)
    · rw [if_neg c7] at H
      exact absurd H (by simp)
  · replace c5 := Bool.eq_false_iff.mpr c5
    subst c5
    have H1 : (none) = some r := by rw [if_neg (show ¬ (false = true) by decide)] at H; exact H
    clear H
    have H := H1
    clear H1
    exact absurd H (by simp)

/-! ### bsoncore_AppendValueElement: function 53 -/
def bsoncore_AppendValueElement.f (l0 : List Int) (a1 : ByteArray) (a2_0 : Int) (l2_1 : List Int) : Option (List Int) := (bsoncore_AppendHeader.f l0 a2_0 a1).bind fun t399 => (if t399.length + l2_1.length < 140737488355328 then (some (t399 ++ l2_1)) else (none))
set_option maxHeartbeats 8000000 in
set_option maxRecDepth 100000 in
theorem bsoncore_AppendValueElement.calls (P0_ : Nat → Prop) (u9000_ : Value) (l0 : List Int) (a1 : ByteArray) (a2_0 : Int) (A2_1 : Option Addr) (c2_1 : Nat) (l2_1 : List Int) (r : List Int) (w0 w : World) (hB : Below w0.heap.size w0 w) (ho0 : Kd.R (Kd.int .u8) 5 w w0.heap.size P0_ u9000_ l0) (hr2_1 : ∀ W_, Kept w W_ (fun k_ => P0_ k_) → Kd.C (Kd.int .u8) W_ A2_1 l2_1.length l2_1) (hc2_1 : l2_1.length ≤ c2_1) (h : bsoncore_AppendValueElement.f l0 a1 a2_0 l2_1 = some r) :
    Calls Tryd.prog 53 #[u9000_, .string a1, .agg #[.int .u8 a2_0, .slice A2_1 l2_1.length c2_1]] w fun e w' => ∃ v0_ : Value, e = .returned (v0_) ∧ Kd.R (Kd.int .u8) 5 w' w0.heap.size (fun k_ => (P0_ k_ ∨ w.heap.size ≤ k_)) v0_ r ∧ Below w0.heap.size w0 w' ∧ Kept w w' (fun k_ => P0_ k_) := by
  have hu64 := Tryd.underlying64
  have HO0 := Aside0.mk (show Kd.R (Kd.int .u8) 5 w w0.heap.size (fun k_ => (P0_ k_ ∨ w.heap.size ≤ k_)) u9000_ l0 from Kd.R_mono ho0 (fun k_ hk => (.inl hk)))
  have HR2_1 := Aside0.mk hr2_1
  have HC2_1 := Aside0.mk hc2_1
  clear hr2_1 hc2_1
  have HK := Aside0.mk (Kept.refl w (fun k_ => P0_ k_))
  have HW0 := Aside0.mk hB.size
  have HB := Aside0.mk hB
  clear hB
  have H : ((bsoncore_AppendHeader.f l0 a2_0 a1).bind fun t399 => (if t399.length + l2_1.length < 140737488355328 then (some (t399 ++ l2_1)) else (none))) = some r := h
  clear h
  replace H := Option.bind_eq_some_iff.mp H
  obtain ⟨t399, A40, H⟩ := H
  replace H : (if t399.length + l2_1.length < 140737488355328 then (some (t399 ++ l2_1)) else (none)) = some r := H
  have A4 := Aside0.mk A40
  clear A40
  by_cases c5 : t399.length + l2_1.length < 140737488355328
  · rw [if_pos c5] at H
    have LMc5 := Aside0.mk c5
    clear c5
    obtain ⟨y402, hy402⟩ : ∃ y_ : List Int, y_ = (t399 ++ l2_1) := ⟨_, rfl⟩
    replace H : (some y402) = some r := by first | (rw [hy402]; with_reducible exact H) | (have H2_ := (Option.bind_some _ _).symm.trans H; rw [hy402]; with_reducible exact H2_) | (have H2_ := (Option.bind_some _ _).symm.trans H; with_reducible exact H2_) | with_reducible exact H | (rw [hy402]; exact H) | exact H
    have Ny402 := Aside0.mk hy402
    clear hy402
    as_aux_lemma =>
      obtain rfl := Option.some.inj H
      go_enter Tryd.func53, Tryd.ntmps53
      go_wp2_with (first | ((with_reducible refine gate_dst (N := 5) rfl ?_); refine box_event ?hg (N := 5) ?hd (cs := #[.int .u8 a2_0, .slice A2_1 l2_1.length c2_1]) (t := 64) ?hr ?_; (case hd => rfl); (case hg => rfl); (case hr => first | (go_simp; done) | (go_simp; rfl)); intro gb398 hg w6 hbox hb; have n0_ := Aside0.mk (Kd.R_below (by (with_reducible repeat (first | apply Kd.R_alloc | apply Kd.R_drewN | apply Kd.R_drew)); exact HO0.out) hb); have n1_ := Aside0.mk (Kept.below (S := (fun k_ => P0_ k_)) (by repeat (first | (with_reducible first | exact HK.out | apply Kept.alloc | apply Kept.drewN | apply Kept.drew) | exact HK.out)) hb); have n2_ := Aside0.mk (below_step (by repeat (first | (with_reducible first | exact HB.out | apply below_alloc | apply pw_below_drewN | apply below_drew1) | exact HB.out)) hb); have n3_ := Aside0.mk (hbox); have n4_ := Aside0.mk ((by rw [hg]; exact (by first | exact HK.out.1 | exact (show Kept w _ (fun k_ => P0_ k_) from by repeat (first | (with_reducible first | exact HK.out | apply Kept.alloc | apply Kept.drewN | apply Kept.drew) | exact HK.out)).1) : w.heap.size ≤ gb398)); have n5_ := Aside0.mk ((by rw [hg]; exact (below_size (by repeat (first | (with_reducible first | exact HB.out | apply below_alloc | apply pw_below_drewN | apply below_drew1) | exact HB.out))) : w0.heap.size ≤ gb398)); clear HO0; clear HK; clear HB; have HO0 := n0_; have HK := n1_; have HB := n2_; have BK398 := n3_; have GW398 := n4_; have GE398 := n5_; clear n0_ n1_ n2_ n3_ n4_ n5_; clear hb hbox hg; have hcz7_0 : w6.cell? ⟨gb398, 0, none⟩ = some (.int .u8 a2_0) := (blk_cell BK398.out 0).trans rfl; have hcz7_1 : w6.cell? ⟨gb398, 1, none⟩ = some (.slice A2_1 l2_1.length c2_1) := (blk_cell BK398.out 1).trans rfl; have hfz7_0 := blk_frozen BK398.out 0; have hfz7_1 := blk_frozen BK398.out 1; obtain ⟨Ao8, co8, eo8⟩ := Kd.R_slice HO0.out; subst eo8) | ((with_reducible refine gate_callee (f := 44) rfl ?_); refine goesL_ (some 11) rfl rfl Tryd.func44 (by kernel_rfl) rfl #[.slice Ao8 l0.length co8, .int .u8 a2_0, .string a1] rfl (by (try simp only [List.map_toArray, List.map_cons, List.map_nil]); first | done | rfl | (simp only [List.length_drop, List.length_take]; rfl)) ?_; (with_reducible refine (bsoncore_AppendHeader.calls (fun k_ => some k_ = (.slice Ao8 l0.length co8 : Value).ownBlock) (.slice Ao8 l0.length co8) l0 a2_0 a1 t399 w0 _ ?side1 ?side2 A4.out).mono ?_); (case side1 => repeat (first | (with_reducible first | exact HB.out | apply below_alloc | apply pw_below_drewN | apply below_drew1 | refine below_set ?_ GE398.out) | exact HB.out)); (case side2 => exact Kd.R_tight rfl HO0.out); rintro e w9 ⟨v400, rfl, ho0, hb, hkp⟩; refine ⟨_, rfl, ?_⟩; have n0_ := Aside0.mk (blk_kept (by (with_reducible repeat (first | refine blk_drewN ?_ _ | refine blk_drew ?_ | refine blk_alloc ?_ _)); exact BK398.out) hkp (fun hs_ => (fun e_ => (Kd.R_ne HO0.out BK398.out (by decide)) e_) hs_)); have n1_ := Aside0.mk (Kd.R_mono (ok' := fun k_ => (P0_ k_ ∨ w.heap.size ≤ k_)) ho0 (fun k_ hk_ => Or.elim hk_ (fun hs_ => (HO0.out.1 k_ (hs_).symm)) (fun hn_ => (.inr (Nat.le_trans (by first | exact HK.out.1 | exact (show Kept w _ (fun k_ => P0_ k_) from by repeat (first | (with_reducible first | exact HK.out | apply Kept.alloc | apply Kept.drewN | apply Kept.drew | refine Kept.setCell ?_ (.inr GW398.out) _) | exact HK.out)).1) hn_))))); have n2_ := Aside0.mk (Kept.then_ (S := (fun k_ => P0_ k_)) (by repeat (first | (with_reducible first | exact HK.out | apply Kept.alloc | apply Kept.drewN | apply Kept.drew | refine Kept.setCell ?_ (.inr GW398.out) _) | exact HK.out)) hkp (fun k_ hs_ => (fun e_ => (HO0.out.1 k_ e_.symm)) hs_)); have n3_ := Aside0.mk (hb); clear BK398; clear HK; clear HB; clear HO0; have BK398 := n0_; have HO401 := n1_; have HK := n2_; have HB := n3_; clear n0_ n1_ n2_ n3_; (try clear hb); (try clear hkp); (try clear ho0); have hcz10_0 : w9.cell? ⟨gb398, 0, none⟩ = some (.int .u8 a2_0) := (blk_cell BK398.out 0).trans rfl; have hcz10_1 : w9.cell? ⟨gb398, 1, none⟩ = some (.slice A2_1 l2_1.length c2_1) := (blk_cell BK398.out 1).trans rfl; have hfz10_0 := blk_frozen BK398.out 0; have hfz10_1 := blk_frozen BK398.out 1) | ((with_reducible refine gate_builtin (b := .append) (xs := #[.tmp 12, .tmp 14]) rfl ?_); at_builtin; refine Kd.R_append_rows (Kd.int .u8) (w0 := w0) w0.heap.size rfl (.tmp 12) (.tmp 14) 23 5 (.int .u8 0) 1 rfl Tryd.underlying23 info5 rfl (by decide) (by omega) v400 t399 l2_1 _ _ _ (fun k_ => (P0_ k_ ∨ w.heap.size ≤ k_)) (fun _ => False) rfl rfl ?aO ?aR (fun _ _ h => h) (fun _ h => h.elim) ?aF ?aB ?aS ?aL ?_; (case aR => exact Kd.C_kept_now HR2_1.out (by repeat (first | (with_reducible first | exact HK.out | apply Kept.alloc | apply Kept.drewN | apply Kept.drew | refine Kept.setCell ?_ (.inr GW398.out) _) | exact HK.out))); (case aB => exact (by repeat (first | (with_reducible first | exact HB.out | apply below_alloc | apply pw_below_drewN | apply below_drew1 | refine below_set ?_ GE398.out) | exact HB.out))); (case aF => exact (fun k_ hk => (.inr (Nat.le_trans (by first | exact HK.out.1 | exact (show Kept w _ (fun k_ => P0_ k_) from by repeat (first | (with_reducible first | exact HK.out | apply Kept.alloc | apply Kept.drewN | apply Kept.drew | refine Kept.setCell ?_ (.inr GW398.out) _) | exact HK.out)).1) hk)))); (case aO => exact (by (with_reducible repeat (first | apply Kd.R_alloc | apply Kd.R_drewN | apply Kd.R_drew)); exact HO401.out)); (case aS => exact (below_size (by repeat (first | (with_reducible first | exact HB.out | apply below_alloc | apply pw_below_drewN | apply below_drew1 | refine below_set ?_ GE398.out) | exact HB.out)))); (case aL => have := LMc5.out; omega); intro v403 w11 ho hb hg hat; rw [← Ny402.out] at ho; have n0_ := Aside0.mk (blk_grown (g := gb398) (o := .cells #[.int .u8 a2_0, .slice A2_1 l2_1.length c2_1] 64 (0, 0)) (by (with_reducible repeat (first | refine blk_drewN ?_ _ | refine blk_drew ?_ | refine blk_alloc ?_ _)); exact BK398.out) hg (Kd.R_ne HO401.out BK398.out (by decide))); have n1_ := Aside0.mk (hb); have n2_ := Aside0.mk (Kept.of_grown (S := (fun k_ => P0_ k_)) hg (by repeat (first | (with_reducible first | exact HK.out | apply Kept.alloc | apply Kept.drewN | apply Kept.drew | refine Kept.setCell ?_ (.inr GW398.out) _) | exact HK.out)) (fun k_ e_ => (HO401.out.1 k_ e_))); have n3_ := Aside0.mk (ho); clear BK398; clear HB; clear HK; clear HO401; have BK398 := n0_; have HB := n1_; have HK := n2_; have HO404 := n3_; clear n0_ n1_ n2_ n3_; clear ho hb hg hat))
      go_ret
      exact ⟨_, by first | rfl | (simp [errW_none, errW_some] <;> rfl) | (simp [*, errW_none, errW_some] <;> rfl), by (with_reducible repeat (first | apply Kd.R_alloc | apply Kd.R_drewN | apply Kd.R_drew)); exact HO404.out, by repeat (first | (with_reducible first | exact HB.out | apply below_alloc | apply pw_below_drewN | apply below_drew1 | refine below_set ?_ GE398.out) | exact HB.out), by repeat (first | (with_reducible first | exact HK.out | apply Kept.alloc | apply Kept.drewN | apply Kept.drew | refine Kept.setCell ?_ (.inr GW398.out) _) | exact HK.out)⟩
  · rw [if_neg c5] at H
    exact absurd H (by simp)

/-! ### strconv_Itoa_54: function 54 -/
def strconv_Itoa_54.f (a0 : Int) : Option ByteArray := if 0 ≤ a0 ∧ a0 ≤ 9223372036854775807 then some ⟨(Lib.decDigits a0.toNat).toArray⟩ else none
theorem strconv_Itoa_54.calls (a0 : Int) (r : ByteArray) (w : World) (hlaid : Ito.LaidT w) (h : strconv_Itoa_54.f a0 = some r) :
    Calls Tryd.prog 54 #[.int .i64 a0] w fun e w' => e = .returned (.string r) ∧ Below w.heap.size w w' := by
  unfold strconv_Itoa_54.f at h
  by_cases hs : 0 ≤ a0 ∧ a0 ≤ 9223372036854775807
  · rw [if_pos hs] at h
    obtain rfl := Option.some.inj h
    refine (Tryd.strconv_Itoa a0 (by omega) hs.2 w hlaid).mono ?_
    rintro e w' ⟨rfl, k, os, rfl⟩
    refine ⟨?_, Lib.below_grow _ w (Nat.le_refl _) k os⟩
    rw [show Lib.itoa a0 = Lib.decDigits a0.toNat by unfold Lib.itoa; rw [if_neg (by omega)]]
  · rw [if_neg hs] at h; cases h

-- NOT PRINTED: function 60 (binary_littleEndian_PutUint32)

/-! ### bsoncore_UpdateLength: function 55 -/
/-- Four cells, the lowest byte first. -/
def put4 (l : List Int) (i : Nat) (v : Int) : List Int := (((l.set i (v % 256)).set (i + 1) (v / 256 % 256)).set (i + 2) (v / 65536 % 256)).set (i + 3) (v / 16777216)
def bsoncore_UpdateLength.f (l0 : List Int) (a1 : Int) (a2 : Int) : Option (List Int) := if 0 ≤ a1 then (if a1 + 4 ≤ (l0.length : Int) then (some (put4 l0 a1.toNat (a2 % 4294967296))) else none) else none
set_option maxHeartbeats 1000000 in
set_option maxRecDepth 100000 in
theorem put32_calls (g o n c : Nat) (v x0 x1 x2 x3 : Int) (w : World) (hn : 4 ≤ n) (hv0 : 0 ≤ v) (hv1 : v ≤ 4294967295)
    (c0 : w.cell? ⟨g, o, none⟩ = some (.int .u8 x0)) (c1 : w.cell? ⟨g, o + 1, none⟩ = some (.int .u8 x1)) (c2 : w.cell? ⟨g, o + 2, none⟩ = some (.int .u8 x2)) (c3 : w.cell? ⟨g, o + 3, none⟩ = some (.int .u8 x3))
    (f0 : w.frozen? ⟨g, o, none⟩ = false) (f1 : w.frozen? ⟨g, o + 1, none⟩ = false) (f2 : w.frozen? ⟨g, o + 2, none⟩ = false) (f3 : w.frozen? ⟨g, o + 3, none⟩ = false) :
    Calls Tryd.prog 60 #[.agg #[], .slice (some ⟨g, o, none⟩) n c, .int .u32 v] w fun e w' => e = .returned (.tuple #[]) ∧
      w' = ((((w.alloc (.cells #[] 121)).setCell ⟨g, o, none⟩ (.int .u8 (v % 256))).setCell ⟨g, o + 1, none⟩ (.int .u8 (v / 256 % 256))).setCell ⟨g, o + 2, none⟩ (.int .u8 (v / 65536 % 256))).setCell ⟨g, o + 3, none⟩ (.int .u8 (v / 16777216)) := by
  have q0 : (0 < n) = True := eq_true (by omega)
  have q1 : (1 < n) = True := eq_true (by omega)
  have q2 : (2 < n) = True := eq_true (by omega)
  have q3 : (3 < n) = True := eq_true (by omega)
  have r1 : ((1 : Int) < (n : Int)) = True := eq_true (by omega)
  have r2 : ((2 : Int) < (n : Int)) = True := eq_true (by omega)
  have r3 : ((3 : Int) < (n : Int)) = True := eq_true (by omega)
  have d0 : (w.alloc (.cells #[] 121)).cell? ⟨g, o, none⟩ = some (.int .u8 x0) := pw_cell_below (below_alloc (Below.refl _ _) _) c0
  have e0 : (w.alloc (.cells #[] 121)).frozen? ⟨g, o, none⟩ = false := ((below_alloc (Below.refl _ _) _).frozen (p := ⟨g, o, none⟩) (World.block_lt_of_cell? w _ c0)).trans f0
  have d1 : (w.alloc (.cells #[] 121)).cell? ⟨g, o + 1, none⟩ = some (.int .u8 x1) := pw_cell_below (below_alloc (Below.refl _ _) _) c1
  have e1 : (w.alloc (.cells #[] 121)).frozen? ⟨g, o + 1, none⟩ = false := ((below_alloc (Below.refl _ _) _).frozen (p := ⟨g, o + 1, none⟩) (World.block_lt_of_cell? w _ c1)).trans f1
  have d2 : (w.alloc (.cells #[] 121)).cell? ⟨g, o + 2, none⟩ = some (.int .u8 x2) := pw_cell_below (below_alloc (Below.refl _ _) _) c2
  have e2 : (w.alloc (.cells #[] 121)).frozen? ⟨g, o + 2, none⟩ = false := ((below_alloc (Below.refl _ _) _).frozen (p := ⟨g, o + 2, none⟩) (World.block_lt_of_cell? w _ c2)).trans f2
  have d3 : (w.alloc (.cells #[] 121)).cell? ⟨g, o + 3, none⟩ = some (.int .u8 x3) := pw_cell_below (below_alloc (Below.refl _ _) _) c3
  have e3 : (w.alloc (.cells #[] 121)).frozen? ⟨g, o + 3, none⟩ = false := ((below_alloc (Below.refl _ _) _).frozen (p := ⟨g, o + 3, none⟩) (World.block_lt_of_cell? w _ c3)).trans f3
  go_enter Tryd.func60, Tryd.ntmps60
  go_wp2
  go_end0
  exact ⟨rfl, rfl⟩
theorem put4_world {w0 w : World} {e : Nat} {ok S : Nat → Prop} {g n cap j : Nat} {xs : List Int} (o : Obj) (b0 b1 b2 b3 : Int) (h : (Kd.int .u8).R e w w0.heap.size ok (.slice (some ⟨g, 0, none⟩) n cap) xs) (hB : Below w0.heap.size w0 w) (hg : w0.heap.size ≤ g) (hS : S g) :
    (Kd.int .u8).R e (((((w.alloc o).setCell ⟨g, j, none⟩ (.int .u8 b0)).setCell ⟨g, j + 1, none⟩ (.int .u8 b1)).setCell ⟨g, j + 2, none⟩ (.int .u8 b2)).setCell ⟨g, j + 3, none⟩ (.int .u8 b3)).drew w0.heap.size ok (.slice (some ⟨g, 0, none⟩) n cap) ((((xs.set j b0).set (j + 1) b1).set (j + 2) b2).set (j + 3) b3) ∧
    Below w0.heap.size w0 (((((w.alloc o).setCell ⟨g, j, none⟩ (.int .u8 b0)).setCell ⟨g, j + 1, none⟩ (.int .u8 b1)).setCell ⟨g, j + 2, none⟩ (.int .u8 b2)).setCell ⟨g, j + 3, none⟩ (.int .u8 b3)).drew ∧
    Kept w (((((w.alloc o).setCell ⟨g, j, none⟩ (.int .u8 b0)).setCell ⟨g, j + 1, none⟩ (.int .u8 b1)).setCell ⟨g, j + 2, none⟩ (.int .u8 b2)).setCell ⟨g, j + 3, none⟩ (.int .u8 b3)).drew S := by
  refine ⟨?_, ?_, ?_⟩
  · refine Kd.R_drew ?_
    have p0 := Kd.R_putn (enc := Value.int .u8) (h1 := fun _ => rfl) (Kd.R_alloc h o) (j : Int) b0
    have p1 := Kd.R_putn (enc := Value.int .u8) (h1 := fun _ => rfl) p0 ((j + 1 : Nat) : Int) b1
    have p2 := Kd.R_putn (enc := Value.int .u8) (h1 := fun _ => rfl) p1 ((j + 2 : Nat) : Int) b2
    exact Kd.R_putn (enc := Value.int .u8) (h1 := fun _ => rfl) p2 ((j + 3 : Nat) : Int) b3
  · exact below_drew (below_set (below_set (below_set (below_set (hB.alloc hB.size o) hg) hg) hg) hg)
  · exact Kept.drew (Kept.setCell (Kept.setCell (Kept.setCell (Kept.setCell (Kept.alloc (Kept.refl _ _) o) (p := ⟨g, j, none⟩) (.inl hS) _) (p := ⟨g, j + 1, none⟩) (.inl hS) _) (p := ⟨g, j + 2, none⟩) (.inl hS) _) (p := ⟨g, j + 3, none⟩) (.inl hS) _)
set_option maxHeartbeats 1000000 in
set_option maxRecDepth 100000 in
theorem bsoncore_UpdateLength.calls (P0_ : Nat → Prop) (u9000_ : Value) (l0 : List Int) (a1 : Int) (a2 : Int) (r : List Int) (w0 w : World) (hB : Below w0.heap.size w0 w) (ho0 : Kd.R (Kd.int .u8) 5 w w0.heap.size P0_ u9000_ l0) (h : bsoncore_UpdateLength.f l0 a1 a2 = some r) :
    Calls Tryd.prog 55 #[u9000_, .int .i32 a1, .int .i32 a2] w fun e w' => ∃ v0_ : Value, e = .returned (v0_) ∧ Kd.R (Kd.int .u8) 5 w' w0.heap.size (fun k_ => (P0_ k_ ∨ w.heap.size ≤ k_)) v0_ r ∧ Below w0.heap.size w0 w' ∧ Kept w w' (fun k_ => P0_ k_) := by
  have hh : (0 ≤ a1 ∧ a1 + 4 ≤ (l0.length : Int)) ∧ r = put4 l0 a1.toNat (a2 % 4294967296) := by
    unfold bsoncore_UpdateLength.f at h
    by_cases h0 : 0 ≤ a1
    · rw [if_pos h0] at h
      by_cases h1 : a1 + 4 ≤ (l0.length : Int)
      · rw [if_pos h1] at h
        exact ⟨⟨h0, h1⟩, (Option.some.inj h).symm⟩
      · rw [if_neg h1] at h; cases h
    · rw [if_neg h0] at h; cases h
  obtain ⟨⟨h0, h1⟩, rfl⟩ := hh
  clear h
  have hown := Kd.own_of_R (enc := Value.int .u8) (h1 := fun _ => rfl) ho0
  have hform : ∃ g cap, u9000_ = .slice (some ⟨g, 0, none⟩) l0.length cap ∧ l0.length ≤ cap := by
    rcases hown.2 with ⟨_, hz⟩ | ⟨g, cap, cur, hv, _, _, hc, _⟩
    · omega
    · exact ⟨g, cap, hv, hc⟩
  obtain ⟨g, cap, rfl, hcap⟩ := hform
  obtain ⟨j, rfl⟩ : ∃ j : Nat, a1 = (j : Int) := ⟨a1.toNat, by omega⟩
  obtain ⟨i0, hi0, hz0⟩ := Option.map_eq_some_iff.1 info5
  simp only [Prod.mk.injEq] at hz0
  have hcut := cut_from (P := Tryd.prog) 23 5 .i32 Tryd.underlying23 hi0 1 hz0.2.1 (some ⟨g, 0, none⟩) l0.length cap (j : Int) (by omega) (by omega)
  have hne : ¬ (cap = (j : Int).toNat) := by omega
  rw [if_neg hne] at hcut
  have hadd : ((some ⟨g, 0, none⟩ : Option Addr).map (·.add ((j : Int).toNat * 1))) = some ⟨g, j, none⟩ := by
    show some ((⟨g, 0, none⟩ : Addr).add ((j : Int).toNat * 1)) = _
    rw [add_plain]
    simp
  rw [hadd] at hcut
  simp only [Int.toNat_natCast] at hcut
  have hat : ∀ i : Nat, i < 4 → w.cell? ⟨g, j + i, none⟩ = some (.int .u8 (rd l0 ((j + i : Nat) : Int))) ∧ w.frozen? ⟨g, j + i, none⟩ = false := by
    intro i hi
    have := own_at (k := .u8) (xs := l0) hown ((j + i : Nat) : Int) (by omega) (by omega)
    rw [Int.toNat_natCast] at this
    exact this
  have c0 := (hat 0 (by omega)).1
  have f0 := (hat 0 (by omega)).2
  have c1 := (hat 1 (by omega)).1
  have f1 := (hat 1 (by omega)).2
  have c2 := (hat 2 (by omega)).1
  have f2 := (hat 2 (by omega)).2
  have c3 := (hat 3 (by omega)).1
  have f3 := (hat 3 (by omega)).2
  have HO := Aside0.mk ho0
  have HB := Aside0.mk hB
  have HG := Aside0.mk (own_base hown g rfl)
  clear hat hne hadd hown hz0 ho0 hB
  go_enter Tryd.func55, Tryd.ntmps55
  go_wp2
  go_still_tail 6, (by kernel_rfl)
  change wpList _ _ _ _ _ w.drew
  have hwr : IntKind.u32.wrap a2 = a2 % 4294967296 := by simp [IntKind.wrap, IntKind.bits, IntKind.signed]
  rw [hwr]
  go_wp2_with (go_at_call 60; refine (put32_calls g j (l0.length - j) (cap - j) (a2 % 4294967296) _ _ _ _ w.drew (by omega) (by omega) (by omega) c0 c1 c2 c3 f0 f1 f2 f3).mono ?_; rintro e w' ⟨rfl, rfl⟩)
  go_ret
  have hmm : a2 % 256 = a2 % 4294967296 % 256 := by omega
  rw [hmm]
  obtain ⟨pR, pB, pK⟩ := put4_world (j := j) (S := fun k_ => P0_ k_) (.cells #[] 121) (a2 % 4294967296 % 256) (a2 % 4294967296 / 256 % 256) (a2 % 4294967296 / 65536 % 256) (a2 % 4294967296 / 16777216) HO.out HB.out HG.out (HO.out.1 g rfl)
  exact ⟨_, rfl, Kd.R_mono pR (fun _ h => .inl h), pB, pK⟩

end Go.Proofs.YtndpbbgniflckaaDoor.PBa
