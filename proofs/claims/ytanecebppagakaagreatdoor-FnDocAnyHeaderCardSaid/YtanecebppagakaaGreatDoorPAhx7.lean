/- Printed by a program of this session (a turned copy of the printer of the kit): contracts of functions of the translation, each with the Lean function that it computes. Conditions: as each theorem states them. -/
import Derived.Test.YtanecebppagakaaGreatDoorPAhx0
import Derived.Test.YtanecebppagakaaGreatDoorPAhx1
import Derived.Test.YtanecebppagakaaGreatDoorPAhx2
import Derived.Test.YtanecebppagakaaGreatDoorPAhx6
namespace Go.Proofs.YtanecebppagakaaGreatDoor.PAh
open Go.RowKit Go.Proofs.YtanecebppagakaaGreatDoorW.PrintWords Go.Proofs.YtanecebppagakaaGreatDoorW.PrintLast Go.Proofs.YtanecebppagakaaGreatDoorW.PrintMore
attribute [local go_sem] max2_int min2_int max_two min_two max_three min_three max_four min_four   -- for this text's walks alone
set_option linter.unusedVariables false
set_option linter.unusedSimpArgs false

/-! ### bsoncore_AppendHeader: function 175 -/
def bsoncore_AppendHeader.f (l0 : List Int) (a1 : Int) (a2 : ByteArray) : Option (List Int) := (bsoncore_isValidCString.f a2).bind fun t452 => (if t452 = true then ((bsoncore_AppendType.f l0 a1).bind fun t453 => (if t453.length + a2.size < 140737488355328 then ((some (t453 ++ bytesOf a2 : List Int)).bind fun y456 => (if y456.length < 140737488355328 then (some (y456 ++ [0])) else (none))) else (none))) else (none))
set_option maxHeartbeats 8000000 in
set_option maxRecDepth 100000 in
theorem bsoncore_AppendHeader.calls (P0_ : Nat → Prop) (u9000_ : Value) (l0 : List Int) (a1 : Int) (a2 : ByteArray) (r : List Int) (w0 w : World) (hB : Below w0.heap.size w0 w) (ho0 : Kd.R (Kd.int .u8) 5 w w0.heap.size P0_ u9000_ l0) (h : bsoncore_AppendHeader.f l0 a1 a2 = some r) :
    Calls Tryz.prog 175 #[u9000_, .int .u8 a1, .string a2] w fun e w' => ∃ v0_ : Value, e = .returned (v0_) ∧ Kd.R (Kd.int .u8) 5 w' w0.heap.size (fun k_ => (P0_ k_ ∨ w.heap.size ≤ k_)) v0_ r ∧ Below w0.heap.size w0 w' ∧ Kept w w' (fun k_ => P0_ k_) := by
  have HO0 := Aside0.mk (show Kd.R (Kd.int .u8) 5 w w0.heap.size (fun k_ => (P0_ k_ ∨ w.heap.size ≤ k_)) u9000_ l0 from Kd.R_mono ho0 (fun k_ hk => (.inl hk)))
  have HK := Aside0.mk (Kept.refl w (fun k_ => P0_ k_))
  have HW0 := Aside0.mk hB.size
  have HB := Aside0.mk hB
  clear hB
  have H : ((bsoncore_isValidCString.f a2).bind fun t452 => (if t452 = true then ((bsoncore_AppendType.f l0 a1).bind fun t453 => (if t453.length + a2.size < 140737488355328 then ((some (t453 ++ bytesOf a2 : List Int)).bind fun y456 => (if y456.length < 140737488355328 then (some (y456 ++ [0])) else (none))) else (none))) else (none))) = some r := h
  clear h
  replace H := Option.bind_eq_some_iff.mp H
  obtain ⟨t452, A40, H⟩ := H
  replace H : (if t452 = true then ((bsoncore_AppendType.f l0 a1).bind fun t453 => (if t453.length + a2.size < 140737488355328 then ((some (t453 ++ bytesOf a2 : List Int)).bind fun y456 => (if y456.length < 140737488355328 then (some (y456 ++ [0])) else (none))) else (none))) else (none)) = some r := H
  have A4 := Aside0.mk A40
  clear A40
  by_cases c5 : t452 = true
  rotate_left
  · replace c5 := Bool.eq_false_iff.mpr c5
    subst c5
    have H1 : (none) = some r := by rw [if_neg (show ¬ (false = true) by decide)] at H; exact H
    clear H
    have H := H1
    clear H1
    exact absurd H (by simp)
  subst c5
  have H1 : ((bsoncore_AppendType.f l0 a1).bind fun t453 => (if t453.length + a2.size < 140737488355328 then ((some (t453 ++ bytesOf a2 : List Int)).bind fun y456 => (if y456.length < 140737488355328 then (some (y456 ++ [0])) else (none))) else (none))) = some r := by rw [if_pos rfl] at H; exact H
  clear H
  have H := H1
  clear H1
  replace H := Option.bind_eq_some_iff.mp H
  obtain ⟨t453, A60, H⟩ := H
  replace H : (if t453.length + a2.size < 140737488355328 then ((some (t453 ++ bytesOf a2 : List Int)).bind fun y456 => (if y456.length < 140737488355328 then (some (y456 ++ [0])) else (none))) else (none)) = some r := H
  have A6 := Aside0.mk A60
  clear A60
  by_cases c7 : t453.length + a2.size < 140737488355328
  rotate_left
  · rw [if_neg c7] at H
    exact absurd H (by simp)
  rw [if_pos c7] at H
  have LMc7 := Aside0.mk c7
  clear c7
  obtain ⟨y456, hy456⟩ : ∃ y_ : List Int, y_ = (t453 ++ bytesOf a2) := ⟨_, rfl⟩
  replace H : (if y456.length < 140737488355328 then (some (y456 ++ [0])) else (none)) = some r := by first | (rw [hy456]; with_reducible exact H) | (have H2_ := (Option.bind_some _ _).symm.trans H; rw [hy456]; with_reducible exact H2_) | (have H2_ := (Option.bind_some _ _).symm.trans H; with_reducible exact H2_) | with_reducible exact H | (rw [hy456]; exact H) | exact H
  have Ny456 := Aside0.mk hy456
  clear hy456
  by_cases c8 : y456.length < 140737488355328
  rotate_left
  · rw [if_neg c8] at H
    exact absurd H (by simp)
  rw [if_pos c8] at H
  have LMc8 := Aside0.mk c8
  clear c8
  obtain ⟨y459, hy459⟩ : ∃ y_ : List Int, y_ = (y456 ++ [0]) := ⟨_, rfl⟩
  replace H : (some y459) = some r := by first | (rw [hy459]; with_reducible exact H) | (have H2_ := (Option.bind_some _ _).symm.trans H; rw [hy459]; with_reducible exact H2_) | (have H2_ := (Option.bind_some _ _).symm.trans H; with_reducible exact H2_) | with_reducible exact H | (rw [hy459]; exact H) | exact H
  have Ny459 := Aside0.mk hy459
  clear hy459
  as_aux_lemma =>
    obtain rfl := Option.some.inj H
    go_enter Tryz.func175, Tryz.ntmps175
    go_wp2_with (first | ((with_reducible refine gate_callee (f := 203) rfl ?_); refine HW.gz (some 8) rfl rfl Tryz.func203 (by kernel_rfl) rfl #[.string a2] rfl ?_; (with_reducible refine (bsoncore_isValidCString.calls a2 true _ A4.out).mono ?_); rintro e w9 ⟨rfl, hb⟩; refine ⟨_, rfl, ?_⟩; have n0_ := Aside0.mk (Kd.R_below (HW.zR HO0.out) hb); have n1_ := Aside0.mk (Kept.below (S := (fun k_ => P0_ k_)) HW.zk hb); have n2_ := Aside0.mk (below_step HW.zb hb); clear HO0; clear HK; clear HB; have HO0 := n0_; have HK := n1_; have HB := n2_; clear n0_ n1_ n2_; (try clear hb); (try clear hb2); (try clear hk); (try clear hi); obtain ⟨Ao10, co10, eo10⟩ := Kd.R_slice HO0.out; subst eo10) | ((with_reducible refine gate_callee (f := 204) rfl ?_); refine HW.gz (some 13) rfl rfl Tryz.func204 (by kernel_rfl) rfl #[.slice Ao10 l0.length co10, .int .u8 a1] rfl ?_; (with_reducible refine (bsoncore_AppendType.calls (fun k_ => some k_ = (.slice Ao10 l0.length co10 : Value).ownBlock) (.slice Ao10 l0.length co10) l0 a1 t453 w0 _ ?side1 ?side2 A6.out).mono ?_); (case side1 => exact HW.zb); (case side2 => exact Kd.R_tight rfl HO0.out); rintro e w11 ⟨v454, rfl, ho0, hb, hkp⟩; refine ⟨_, rfl, ?_⟩; have n0_ := Aside0.mk (Kd.R_mono (ok' := fun k_ => (P0_ k_ ∨ w.heap.size ≤ k_)) ho0 (fun k_ hk_ => Or.elim hk_ (fun hs_ => (HO0.out.1 k_ (hs_).symm)) (fun hn_ => (.inr (Nat.le_trans (HW.zk1 (w := w) (fun k_ => P0_ k_)) hn_))))); have n1_ := Aside0.mk (Kept.then_ (S := (fun k_ => P0_ k_)) HW.zk hkp (fun k_ hs_ => (fun e_ => (HO0.out.1 k_ e_.symm)) hs_)); have n2_ := Aside0.mk (hb); clear HK; clear HB; clear HO0; have HO455 := n0_; have HK := n1_; have HB := n2_; clear n0_ n1_ n2_; (try clear hb); (try clear hkp); (try clear ho0)) | (at_builtin; refine HW.R_append_str (w0 := w0) w0.heap.size rfl (.tmp 14) _ 22 9 5 rfl Tryz.underlying22 Tryz.underlying9 info5 v454 t453 a2 (fun k_ => (P0_ k_ ∨ w.heap.size ≤ k_)) rfl rfl ?aO ?aF ?aB ?aS ?aL ?_; (case aB => exact HW.zb); (case aF => exact (fun k_ hk => (.inr (Nat.le_trans (HW.zk1 (w := w) (fun k_ => P0_ k_)) hk)))); (case aO => exact (HW.zR HO455.out)); (case aS => exact (below_size HW.zb)); (case aL => have := LMc7.out; omega); intro v457 w12 ho hb hg hat; rw [← Ny456.out] at ho; have n0_ := Aside0.mk (hb); have n1_ := Aside0.mk (Kept.of_grown (S := (fun k_ => P0_ k_)) hg HW.zk (fun k_ e_ => (HO455.out.1 k_ e_))); have n2_ := Aside0.mk (ho); clear HB; clear HK; clear HO455; have HB := n0_; have HK := n1_; have HO458 := n2_; clear n0_ n1_ n2_; clear ho hb hg hat) | ((with_reducible refine gate_builtin (b := .append) (xs := #[.tmp 17, .tmp 18]) rfl ?_); at_builtin; refine Kd.R_append (Kd.int .u8) (w0 := w0) w0.heap.size rfl (.tmp 17) (.tmp 18) 22 5 (.int .u8 0) 1 rfl Tryz.underlying22 info5 rfl (by decide) (by omega) v457 y456 0 [.int .u8 0] (fun k_ => (P0_ k_ ∨ w.heap.size ≤ k_)) (fun _ => False) rfl rfl ?aP (fun _ hk => hk.elim) ?aF ?aO ?aB ?aS ?aL ?_; (case aP => exact rfl); (case aB => exact HW.zb); (case aF => exact (fun k_ hk => (.inr (Nat.le_trans (HW.zk1 (w := w) (fun k_ => P0_ k_)) hk)))); (case aO => exact (HW.zR HO458.out)); (case aS => exact (below_size HW.zb)); (case aL => have := LMc8.out; omega); intro v460 w13 ho hb hg hat; rw [← Ny459.out] at ho; have n0_ := Aside0.mk (hb); have n1_ := Aside0.mk (Kept.of_grown (S := (fun k_ => P0_ k_)) hg HW.zk (fun k_ e_ => (HO458.out.1 k_ e_))); have n2_ := Aside0.mk (ho); clear HB; clear HK; clear HO458; have HB := n0_; have HK := n1_; have HO461 := n2_; clear n0_ n1_ n2_; clear ho hb hg hat))
    go_ret
    exact ⟨_, by first | rfl | (simp [errW_none, errW_some] <;> rfl) | (simp [*, errW_none, errW_some] <;> rfl), HW.zR HO461.out, HW.zb, HW.zk⟩

/-! ### binaryutil_Append32_int32: function 252 -/
def binaryutil_Append32_int32.f (l0 : List Int) (a1 : Int) : Option (List Int) := (some (([(a1) % 256, (a1 / 256) % 256, (a1 / 65536) % 256, (a1 / 16777216) % 256] : List Int) : List Int)).bind fun y462 => (if l0.length + y462.length < 140737488355328 then (some (l0 ++ y462)) else (none))
set_option maxHeartbeats 8000000 in
set_option maxRecDepth 100000 in
theorem binaryutil_Append32_int32.calls (P0_ : Nat → Prop) (u9000_ : Value) (l0 : List Int) (a1 : Int) (r : List Int) (w0 w : World) (hB : Below w0.heap.size w0 w) (ho0 : Kd.R (Kd.int .u8) 5 w w0.heap.size P0_ u9000_ l0) (h : binaryutil_Append32_int32.f l0 a1 = some r) :
    Calls Tryz.prog 252 #[u9000_, .int .i32 a1] w fun e w' => ∃ v0_ : Value, e = .returned (v0_) ∧ Kd.R (Kd.int .u8) 5 w' w0.heap.size (fun k_ => (P0_ k_ ∨ w.heap.size ≤ k_)) v0_ r ∧ Below w0.heap.size w0 w' ∧ Kept w w' (fun k_ => P0_ k_) := by
  have HO0 := Aside0.mk (show Kd.R (Kd.int .u8) 5 w w0.heap.size (fun k_ => (P0_ k_ ∨ w.heap.size ≤ k_)) u9000_ l0 from Kd.R_mono ho0 (fun k_ hk => (.inl hk)))
  have HK := Aside0.mk (Kept.refl w (fun k_ => P0_ k_))
  have HW0 := Aside0.mk hB.size
  have HB := Aside0.mk hB
  clear hB
  have H : ((some (([(a1) % 256, (a1 / 256) % 256, (a1 / 65536) % 256, (a1 / 16777216) % 256] : List Int) : List Int)).bind fun y462 => (if l0.length + y462.length < 140737488355328 then (some (l0 ++ y462)) else (none))) = some r := h
  clear h
  obtain ⟨y462, hy462⟩ : ∃ y_ : List Int, y_ = (([(a1) % 256, (a1 / 256) % 256, (a1 / 65536) % 256, (a1 / 16777216) % 256] : List Int)) := ⟨_, rfl⟩
  replace H : (if l0.length + y462.length < 140737488355328 then (some (l0 ++ y462)) else (none)) = some r := by first | (rw [hy462]; with_reducible exact H) | (have H2_ := (Option.bind_some _ _).symm.trans H; rw [hy462]; with_reducible exact H2_) | (have H2_ := (Option.bind_some _ _).symm.trans H; with_reducible exact H2_) | with_reducible exact H | (rw [hy462]; exact H) | exact H
  have Ny462 := Aside0.mk hy462
  clear hy462
  by_cases c3 : l0.length + y462.length < 140737488355328
  rotate_left
  · rw [if_neg c3] at H
    exact absurd H (by simp)
  rw [if_pos c3] at H
  have LMc3 := Aside0.mk c3
  clear c3
  obtain ⟨y465, hy465⟩ : ∃ y_ : List Int, y_ = (l0 ++ y462) := ⟨_, rfl⟩
  replace H : (some y465) = some r := by first | (rw [hy465]; with_reducible exact H) | (have H2_ := (Option.bind_some _ _).symm.trans H; rw [hy465]; with_reducible exact H2_) | (have H2_ := (Option.bind_some _ _).symm.trans H; with_reducible exact H2_) | with_reducible exact H | (rw [hy465]; exact H) | exact H
  have Ny465 := Aside0.mk hy465
  clear hy465
  as_aux_lemma =>
    obtain rfl := Option.some.inj H
    go_enter Tryz.func252, Tryz.ntmps252
    go_wp2_with (first | ((with_reducible refine gate_dst (N := 17) rfl ?_); refine Kd.R_lit (Kd.int .u8) _ 5 ?hg (N := 17) ?hd (xs := ([(a1) % 256, (a1 / 256) % 256, (a1 / 65536) % 256, (a1 / 16777216) % 256] : List Int)) (inner := [.int .u8 ((a1) % 256), .int .u8 ((a1 / 256) % 256), .int .u8 ((a1 / 65536) % 256), .int .u8 ((a1 / 16777216) % 256)]) (ok := fun _ => True) (okp := fun _ => True) ?hr ?hp (fun _ hk => hk) trivial (Below.refl _ _) (Nat.le_refl _) (by simp) ?_; (case hd => rfl); (case hg => rfl); (case hr => first | (go_simp; done) | (go_simp; rfl)); (case hp => exact (Reps.one (show Kd.M (Kd.int .u8) _ _ _ ((a1) % 256) [.int .u8 ((a1) % 256)] from rfl) (Reps.one (show Kd.M (Kd.int .u8) _ _ _ ((a1 / 256) % 256) [.int .u8 ((a1 / 256) % 256)] from rfl) (Reps.one (show Kd.M (Kd.int .u8) _ _ _ ((a1 / 65536) % 256) [.int .u8 ((a1 / 65536) % 256)] from rfl) (Reps.one (show Kd.M (Kd.int .u8) _ _ _ ((a1 / 16777216) % 256) [.int .u8 ((a1 / 16777216) % 256)] from rfl) (Reps.none _ _)))))); intro v463 w4 ho5 hb hg_ hnew_; clear hg_ hnew_; (first | rw [← Ny462.out] at ho5 | (simp only [Int.reduceToNat] at ho5; rw [← Ny462.out] at ho5)); have n0_ := Aside0.mk (Kd.R_elder' (HW.zR HO0.out) (Kd.R_base ho5) hb); have n1_ := Aside0.mk (Kd.R_lower (Kd.R_new' (Kd.R_newM (M := fun k_ => (P0_ k_ ∨ w.heap.size ≤ k_)) ho5 (HW.zk1 (w := w) (fun k_ => P0_ k_)) (fun k_ h_ => .inr h_)) (Kd.R_lt (HW.zR HO0.out))) (below_size HW.zb)); have n2_ := Aside0.mk (Kept.below (S := (fun k_ => P0_ k_)) HW.zk hb); have n3_ := Aside0.mk (below_step HW.zb hb); clear HO0; clear HK; clear HB; have HO0 := n0_; have HO464 := n1_; have HK := n2_; have HB := n3_; clear n0_ n1_ n2_ n3_; clear hb ho5; obtain ⟨Ao7, co7, eo7⟩ := Kd.R_slice HO464.out; subst eo7) | ((with_reducible refine gate_builtin (b := .append) (xs := #[.tmp 5, .tmp 17]) rfl ?_); at_builtin; refine Kd.R_append_rows (Kd.int .u8) (w0 := w0) w0.heap.size rfl (.tmp 5) (.tmp 17) 22 5 (.int .u8 0) 1 rfl Tryz.underlying22 info5 rfl (by decide) (by omega) u9000_ l0 y462 _ _ _ (fun k_ => (P0_ k_ ∨ w.heap.size ≤ k_) ∧ some k_ ≠ (.slice Ao7 y462.length co7 : Value).ownBlock) (fun _ => False) rfl rfl ?aO ?aR (fun _ _ h => h) (fun _ h => h.elim) ?aF ?aB ?aS ?aL ?_; (case aR => repeat (first | exact (Kd.R_reads' HO464.out).2.2 | (with_reducible refine Kd.C_alloc ?_ _) | (with_reducible refine Kd.C_drewN ?_ _) | (with_reducible refine Kd.C_drew ?_))); (case aB => exact HW.zb); (case aF => exact (fun k_ hk => ⟨(.inr (Nat.le_trans (HW.zk1 (w := w) (fun k_ => P0_ k_)) hk)), Kd.fresh' (Kd.R_lt (HW.zR HO464.out)) k_ hk⟩)); (case aO => exact (HW.zR HO0.out)); (case aS => exact (below_size HW.zb)); (case aL => have := LMc3.out; omega); intro v466 w6 ho hb hg hat; rw [← Ny465.out] at ho; have n1_ := Aside0.mk (hb); have n2_ := Aside0.mk (Kept.of_grown (S := (fun k_ => P0_ k_)) hg HW.zk (fun k_ e_ => (HO0.out.1 k_ e_).1)); have n3_ := Aside0.mk (ho); clear HB; clear HK; clear HO0; have HB := n1_; have HK := n2_; have HO467 := n3_; clear n1_ n2_ n3_; clear ho hb hg hat))
    go_ret
    exact ⟨_, by first | rfl | (simp [errW_none, errW_some] <;> rfl) | (simp [*, errW_none, errW_some] <;> rfl), by (with_reducible repeat (first | apply Kd.R_alloc | apply Kd.R_drewN | apply Kd.R_drew)); exact Kd.R_mono HO467.out (fun _ hk => hk.1), HW.zb, HW.zk⟩

/-! ### bsoncore_AppendInt32: function 238 -/
def bsoncore_AppendInt32.f (l0 : List Int) (a1 : Int) : Option (List Int) := (binaryutil_Append32_int32.f l0 a1).bind fun t468 => (some t468)
set_option maxHeartbeats 8000000 in
set_option maxRecDepth 100000 in
theorem bsoncore_AppendInt32.calls (P0_ : Nat → Prop) (u9000_ : Value) (l0 : List Int) (a1 : Int) (r : List Int) (w0 w : World) (hB : Below w0.heap.size w0 w) (ho0 : Kd.R (Kd.int .u8) 5 w w0.heap.size P0_ u9000_ l0) (h : bsoncore_AppendInt32.f l0 a1 = some r) :
    Calls Tryz.prog 238 #[u9000_, .int .i32 a1] w fun e w' => ∃ v0_ : Value, e = .returned (v0_) ∧ Kd.R (Kd.int .u8) 5 w' w0.heap.size (fun k_ => (P0_ k_ ∨ w.heap.size ≤ k_)) v0_ r ∧ Below w0.heap.size w0 w' ∧ Kept w w' (fun k_ => P0_ k_) := by
  have HO0 := Aside0.mk (show Kd.R (Kd.int .u8) 5 w w0.heap.size (fun k_ => (P0_ k_ ∨ w.heap.size ≤ k_)) u9000_ l0 from Kd.R_mono ho0 (fun k_ hk => (.inl hk)))
  have HK := Aside0.mk (Kept.refl w (fun k_ => P0_ k_))
  have HW0 := Aside0.mk hB.size
  have HB := Aside0.mk hB
  clear hB
  have H : ((binaryutil_Append32_int32.f l0 a1).bind fun t468 => (some t468)) = some r := h
  clear h
  replace H := Option.bind_eq_some_iff.mp H
  obtain ⟨t468, A30, H⟩ := H
  replace H : (some t468) = some r := H
  have A3 := Aside0.mk A30
  clear A30
  as_aux_lemma =>
    obtain rfl := Option.some.inj H
    obtain ⟨Ao4, co4, eo4⟩ := Kd.R_slice HO0.out
    subst eo4
    go_enter Tryz.func238, Tryz.ntmps238
    go_wp2_with (first | ((with_reducible refine gate_callee (f := 252) rfl ?_); refine HW.gz (some 7) rfl rfl Tryz.func252 (by kernel_rfl) rfl #[.slice Ao4 l0.length co4, .int .i32 a1] rfl ?_; (with_reducible refine (binaryutil_Append32_int32.calls (fun k_ => some k_ = (.slice Ao4 l0.length co4 : Value).ownBlock) (.slice Ao4 l0.length co4) l0 a1 t468 w0 _ ?side1 ?side2 A3.out).mono ?_); (case side1 => exact HW.zb); (case side2 => exact Kd.R_tight rfl HO0.out); rintro e w5 ⟨v469, rfl, ho0, hb, hkp⟩; refine ⟨_, rfl, ?_⟩; have n0_ := Aside0.mk (Kd.R_mono (ok' := fun k_ => (P0_ k_ ∨ w.heap.size ≤ k_)) ho0 (fun k_ hk_ => Or.elim hk_ (fun hs_ => (HO0.out.1 k_ (hs_).symm)) (fun hn_ => (.inr (Nat.le_trans (HW.zk1 (w := w) (fun k_ => P0_ k_)) hn_))))); have n1_ := Aside0.mk (Kept.then_ (S := (fun k_ => P0_ k_)) HW.zk hkp (fun k_ hs_ => (fun e_ => (HO0.out.1 k_ e_.symm)) hs_)); have n2_ := Aside0.mk (hb); clear HK; clear HB; clear HO0; have HO470 := n0_; have HK := n1_; have HB := n2_; clear n0_ n1_ n2_; (try clear hb); (try clear hkp); (try clear ho0)))
    go_ret
    exact ⟨_, by first | rfl | (simp [errW_none, errW_some] <;> rfl) | (simp [*, errW_none, errW_some] <;> rfl), HW.zR HO470.out, HW.zb, HW.zk⟩

/-! ### bsoncore_AppendInt32Element: function 191 -/
def bsoncore_AppendInt32Element.f (l0 : List Int) (a1 : ByteArray) (a2 : Int) : Option (List Int) := (bsoncore_AppendHeader.f l0 16 a1).bind fun t471 => ((bsoncore_AppendInt32.f t471 a2).bind fun t474 => (some t474))
set_option maxHeartbeats 8000000 in
set_option maxRecDepth 100000 in
theorem bsoncore_AppendInt32Element.calls (P0_ : Nat → Prop) (u9000_ : Value) (l0 : List Int) (a1 : ByteArray) (a2 : Int) (r : List Int) (w0 w : World) (hB : Below w0.heap.size w0 w) (ho0 : Kd.R (Kd.int .u8) 5 w w0.heap.size P0_ u9000_ l0) (h : bsoncore_AppendInt32Element.f l0 a1 a2 = some r) :
    Calls Tryz.prog 191 #[u9000_, .string a1, .int .i32 a2] w fun e w' => ∃ v0_ : Value, e = .returned (v0_) ∧ Kd.R (Kd.int .u8) 5 w' w0.heap.size (fun k_ => (P0_ k_ ∨ w.heap.size ≤ k_)) v0_ r ∧ Below w0.heap.size w0 w' ∧ Kept w w' (fun k_ => P0_ k_) := by
  have HO0 := Aside0.mk (show Kd.R (Kd.int .u8) 5 w w0.heap.size (fun k_ => (P0_ k_ ∨ w.heap.size ≤ k_)) u9000_ l0 from Kd.R_mono ho0 (fun k_ hk => (.inl hk)))
  have HK := Aside0.mk (Kept.refl w (fun k_ => P0_ k_))
  have HW0 := Aside0.mk hB.size
  have HB := Aside0.mk hB
  clear hB
  have H : ((bsoncore_AppendHeader.f l0 16 a1).bind fun t471 => ((bsoncore_AppendInt32.f t471 a2).bind fun t474 => (some t474))) = some r := h
  clear h
  replace H := Option.bind_eq_some_iff.mp H
  obtain ⟨t471, A40, H⟩ := H
  replace H : ((bsoncore_AppendInt32.f t471 a2).bind fun t474 => (some t474)) = some r := H
  have A4 := Aside0.mk A40
  clear A40
  replace H := Option.bind_eq_some_iff.mp H
  obtain ⟨t474, A50, H⟩ := H
  replace H : (some t474) = some r := H
  have A5 := Aside0.mk A50
  clear A50
  as_aux_lemma =>
    obtain rfl := Option.some.inj H
    obtain ⟨Ao6, co6, eo6⟩ := Kd.R_slice HO0.out
    subst eo6
    go_enter Tryz.func191, Tryz.ntmps191
    go_wp2_with (first | ((with_reducible refine gate_callee (f := 175) rfl ?_); refine HW.gz (some 9) rfl rfl Tryz.func175 (by kernel_rfl) rfl #[.slice Ao6 l0.length co6, .int .u8 16, .string a1] rfl ?_; (with_reducible refine (bsoncore_AppendHeader.calls (fun k_ => some k_ = (.slice Ao6 l0.length co6 : Value).ownBlock) (.slice Ao6 l0.length co6) l0 16 a1 t471 w0 _ ?side1 ?side2 A4.out).mono ?_); (case side1 => exact HW.zb); (case side2 => exact Kd.R_tight rfl HO0.out); rintro e w7 ⟨v472, rfl, ho0, hb, hkp⟩; refine ⟨_, rfl, ?_⟩; have n0_ := Aside0.mk (Kd.R_mono (ok' := fun k_ => (P0_ k_ ∨ w.heap.size ≤ k_)) ho0 (fun k_ hk_ => Or.elim hk_ (fun hs_ => (HO0.out.1 k_ (hs_).symm)) (fun hn_ => (.inr (Nat.le_trans (HW.zk1 (w := w) (fun k_ => P0_ k_)) hn_))))); have n1_ := Aside0.mk (Kept.then_ (S := (fun k_ => P0_ k_)) HW.zk hkp (fun k_ hs_ => (fun e_ => (HO0.out.1 k_ e_.symm)) hs_)); have n2_ := Aside0.mk (hb); clear HK; clear HB; clear HO0; have HO473 := n0_; have HK := n1_; have HB := n2_; clear n0_ n1_ n2_; (try clear hb); (try clear hkp); (try clear ho0); obtain ⟨Ao8, co8, eo8⟩ := Kd.R_slice HO473.out; subst eo8) | ((with_reducible refine gate_callee (f := 238) rfl ?_); refine HW.gz (some 11) rfl rfl Tryz.func238 (by kernel_rfl) rfl #[.slice Ao8 t471.length co8, .int .i32 a2] rfl ?_; (with_reducible refine (bsoncore_AppendInt32.calls (fun k_ => some k_ = (.slice Ao8 t471.length co8 : Value).ownBlock) (.slice Ao8 t471.length co8) t471 a2 t474 w0 _ ?side1 ?side2 A5.out).mono ?_); (case side1 => exact HW.zb); (case side2 => exact Kd.R_tight rfl HO473.out); rintro e w9 ⟨v475, rfl, ho0, hb, hkp⟩; refine ⟨_, rfl, ?_⟩; have n0_ := Aside0.mk (Kd.R_mono (ok' := fun k_ => (P0_ k_ ∨ w.heap.size ≤ k_)) ho0 (fun k_ hk_ => Or.elim hk_ (fun hs_ => (HO473.out.1 k_ (hs_).symm)) (fun hn_ => (.inr (Nat.le_trans (HW.zk1 (w := w) (fun k_ => P0_ k_)) hn_))))); have n1_ := Aside0.mk (Kept.then_ (S := (fun k_ => P0_ k_)) HW.zk hkp (fun k_ hs_ => (fun e_ => (HO473.out.1 k_ e_.symm)) hs_)); have n2_ := Aside0.mk (hb); clear HK; clear HB; clear HO473; have HO476 := n0_; have HK := n1_; have HB := n2_; clear n0_ n1_ n2_; (try clear hb); (try clear hkp); (try clear ho0)))
    go_ret
    exact ⟨_, by first | rfl | (simp [errW_none, errW_some] <;> rfl) | (simp [*, errW_none, errW_some] <;> rfl), HW.zR HO476.out, HW.zb, HW.zk⟩

/-! ### impl_Built: function 56 -/
theorem info_i32 : (Tryz.prog.info? 21).map (fun i => (i.zero, i.size, i.bytes)) = some (some (.int .i32 0), 1, 4) := by kernel_rfl
/-- A builder of documents in block g: its bytes and its indexes, both of the call's own. -/
structure DB (w0 w : World) (g : Nat) (l ix : List Int) : Prop where
  ex : ∃ v0 v1, w.heap[g]? = some (.cells #[v0, v1] 194 (0, 0)) ∧ Kd.R (Kd.int .u8) 5 w w0.heap.size (fun k => v0.ownBlock = some k) v0 l ∧ Kd.R (Kd.int .i32) 21 w w0.heap.size (fun k => v1.ownBlock = some k) v1 ix
  hg : w0.heap.size ≤ g
  hB : Below w0.heap.size w0 w
theorem own_self {α : Type} {enc : α → Value} {h1 : ∀ x, (enc x).oneCell' = true} {e base : Nat} {w : World} {ok : Nat → Prop} {v : Value} {xs : List α} (h : (Kd.scalar enc h1).R e w base ok v xs) : (Kd.scalar enc h1).R e w base (fun k => v.ownBlock = some k) v xs := Kd.R_of_own (Kd.own_of_R h) (fun _ hk => hk)
theorem own_type {α : Type} {d : Kd α} {e base : Nat} {w : World} {ok : Nat → Prop} {v : Value} {xs : List α} (h : d.R e w base ok v xs) {k t : Nat} {cells : Array Value} (hk : v.ownBlock = some k) (hb : w.heap[k]? = some (.cells cells t (0, 0))) : e = t := by
  obtain ⟨inner, ho⟩ := Kd.R_own h
  obtain ⟨cells', hc⟩ := own_typed ho k hk
  rw [hb] at hc
  injection hc with hc
  injection hc with _ hc
  exact hc.symm
theorem own_apart {α β : Type} {d : Kd α} {d' : Kd β} {e e' base base' : Nat} {w : World} {ok ok' : Nat → Prop} {v v' : Value} {xs : List α} {ys : List β} (h : d.R e w base ok v xs) (h' : d'.R e' w base' ok' v' ys) (hne : e ≠ e') {k : Nat} (hk : v.ownBlock = some k) (hk' : v'.ownBlock = some k) : False := by
  obtain ⟨inner, ho⟩ := Kd.R_own h'
  obtain ⟨cells', hc⟩ := own_typed ho k hk'
  exact hne (own_type h hk hc)
/-- Behind a call that was handed the bytes. -/
theorem DB.handed {w0 w w1 : World} {g : Nat} {v0 v1 v0' : Value} {l ix r : List Int} (hz : w.heap[g]? = some (.cells #[v0, v1] 194 (0, 0))) (hR0 : Kd.R (Kd.int .u8) 5 w w0.heap.size (fun k => v0.ownBlock = some k) v0 l) (hR1 : Kd.R (Kd.int .i32) 21 w w0.heap.size (fun k => v1.ownBlock = some k) v1 ix) (hg : w0.heap.size ≤ g)
    (hR : Kd.R (Kd.int .u8) 5 w1 w0.heap.size (fun k => v0.ownBlock = some k ∨ w.heap.size ≤ k) v0' r) (hB : Below w0.heap.size w0 w1) (hK : Kept w w1 (fun k => v0.ownBlock = some k)) :
    w1.heap[g]? = some (.cells #[v0, v1] 194 (0, 0)) ∧ Kd.R (Kd.int .i32) 21 w1 w0.heap.size (fun k => v1.ownBlock = some k) v1 ix ∧ Kd.R (Kd.int .u8) 5 w1 w0.heap.size (fun k => v0'.ownBlock = some k) v0' r := by
  have hlt : g < w.heap.size := (Array.getElem?_eq_some_iff.1 hz).1
  refine ⟨(hK.2 g hlt (fun hk => ?_)).trans hz, Kd.R_step hR1 (fun k hk hl => hK.2 k hl (fun hk' => own_apart hR0 hR1 (by decide) hk' hk)), own_self hR⟩
  have := own_type hR0 hk hz
  exact absurd this (by decide)
/-- The bytes are put back. -/
theorem DB.put {w0 w1 : World} {g : Nat} {v0 v1 v0' : Value} {ix r : List Int} (hz : w1.heap[g]? = some (.cells #[v0, v1] 194 (0, 0))) (hR1 : Kd.R (Kd.int .i32) 21 w1 w0.heap.size (fun k => v1.ownBlock = some k) v1 ix) (hR : Kd.R (Kd.int .u8) 5 w1 w0.heap.size (fun k => v0'.ownBlock = some k) v0' r) (hg : w0.heap.size ≤ g) (hB : Below w0.heap.size w0 w1) :
    (w1.setCell ⟨g, 0, none⟩ v0').heap[g]? = some (.cells #[v0', v1] 194 (0, 0)) ∧ Kd.R (Kd.int .u8) 5 (w1.setCell ⟨g, 0, none⟩ v0') w0.heap.size (fun k => v0'.ownBlock = some k) v0' r ∧ Kd.R (Kd.int .i32) 21 (w1.setCell ⟨g, 0, none⟩ v0') w0.heap.size (fun k => v1.ownBlock = some k) v1 ix ∧ Below w0.heap.size w0 (w1.setCell ⟨g, 0, none⟩ v0') := by
  refine ⟨blk_put hz 0 v0' rfl, Kd.R_far hR (fun k hk => ?_) v0', Kd.R_far hR1 (fun k hk => ?_) v0', below_set hB hg⟩
  · rintro rfl
    exact absurd (own_type hR hk hz) (by decide)
  rintro rfl
  exact absurd (own_type hR1 hk hz) (by decide)
theorem DB.mk' {w0 w1 : World} {g : Nat} {v0 v1 : Value} {ix r : List Int} (hz : w1.heap[g]? = some (.cells #[v0, v1] 194 (0, 0)) ∧ Kd.R (Kd.int .u8) 5 w1 w0.heap.size (fun k => v0.ownBlock = some k) v0 r ∧ Kd.R (Kd.int .i32) 21 w1 w0.heap.size (fun k => v1.ownBlock = some k) v1 ix ∧ Below w0.heap.size w0 w1) (hg : w0.heap.size ≤ g) : DB w0 w1 g r ix := ⟨⟨v0, v1, hz.1, hz.2.1, hz.2.2.1⟩, hg, hz.2.2.2⟩
set_option maxRecDepth 100000 in
theorem db_start {w0 w : World} {g : Nat} {l ix r : List Int} {i : Int} (h : DB w0 w g l ix) (hf : bsoncore_AppendDocumentStart.f l = some (i, r)) (hix : ix.length ≤ 1000000) :
    Calls Tryz.prog 130 #[.pointer (some ⟨g, 0, none⟩)] w fun e w' => e = .returned (.pointer (some ⟨g, 0, none⟩)) ∧ DB w0 w' g r (ix ++ [i]) := by
  obtain ⟨⟨v0, v1, hz, hR0, hR1⟩, hg, hB⟩ := h
  have c0 := (blk_cell hz 0).trans rfl
  go_enter Tryz.func130, Tryz.ntmps130
  go_wp2_with (first
    | (go_at_call 172; refine (bsoncore_AppendDocumentStart.calls (fun k => v0.ownBlock = some k) v0 l i r w0 w hB hR0 hf).mono ?_; rintro e w1 ⟨v0', rfl, hR, hB1, hK1⟩; obtain ⟨A2, c2, hv2⟩ := Kd.R_slice hR; subst hv2; obtain ⟨hz1, hR1a, hRa⟩ := DB.handed hz hR0 hR1 hg hR hB1 hK1; clear c0; have c0 := (blk_cell hz1 0).trans rfl; have f0 := blk_frozen hz1 0; have P1 := DB.put hz1 hR1a hRa hg hB1; have d1 := (blk_cell P1.1 1).trans rfl)
    | (at_builtin; refine Kd.R_append (Kd.int .i32) (w0 := w0) w0.heap.size rfl (.tmp 19) (.tmp 21) 192 21 (.int .i32 0) 4 rfl Tryz.underlying192 info_i32 rfl (by decide) (by omega) v1 ix i [.int .i32 i] (fun k => v1.ownBlock = some k ∨ (w1.setCell ⟨g, 0, none⟩ (.slice A2 r.length c2)).heap.size ≤ k) (fun _ => False) rfl (by rw [World.size_setCell]; rfl) ?aP (fun _ hk => hk.elim) ?aF ?aO ?aB ?aS ?aL ?_; (case aP => exact rfl); (case aF => exact fun k hk => .inr hk); (case aO => exact Kd.R_mono P1.2.2.1 (fun k hk => .inl hk)); (case aB => exact P1.2.2.2); (case aS => exact P1.2.2.2.size); (case aL => omega); intro v1' w2 ho hb2 hg2 hat2; obtain ⟨A3, c3, hv3⟩ := Kd.R_slice ho; subst hv3; have hne : some g ≠ v1.ownBlock := (fun he => absurd (own_type P1.2.2.1 he.symm P1.1) (by decide)); have hz2 := (hg2.block g (Array.getElem?_eq_some_iff.1 P1.1).1 hne).trans P1.1; have hRb := Kd.R_grown P1.2.1 hg2 (fun k hk he => own_apart P1.2.1 P1.2.2.1 (by decide) hk he.symm); have e1 := (blk_cell hz2 1).trans rfl; have f1 := blk_frozen hz2 1))
  go_ret
  rw [show (ix ++ [i]).length = ix.length + 1 by simp] at ho
  refine ⟨rfl, ⟨_, _, blk_put hz2 1 _ rfl, Kd.R_far hRb (fun k hk => ?_) _, Kd.R_far (own_self ho) (fun k hk => ?_) _⟩, hg, below_set hb2 hg⟩
  · rintro rfl
    exact absurd (own_type hRb hk hz2) (by decide)
  rintro rfl
  exact absurd (own_type ho hk hz2) (by decide)
set_option maxRecDepth 100000 in
theorem db_int32 {w0 w : World} {g : Nat} {l ix r : List Int} {s : ByteArray} {n : Int} (h : DB w0 w g l ix) (hf : bsoncore_AppendInt32Element.f l s n = some r) :
    Calls Tryz.prog 150 #[.pointer (some ⟨g, 0, none⟩), .string s, .int .i32 n] w fun e w' => e = .returned (.pointer (some ⟨g, 0, none⟩)) ∧ DB w0 w' g r ix := by
  obtain ⟨⟨v0, v1, hz, hR0, hR1⟩, hg, hB⟩ := h
  have c0 := (blk_cell hz 0).trans rfl
  go_enter Tryz.func150, Tryz.ntmps150
  go_wp2_with (go_at_call 191; refine (bsoncore_AppendInt32Element.calls (fun k => v0.ownBlock = some k) v0 l s n r w0 w hB hR0 hf).mono ?_; rintro e w1 ⟨v0', rfl, hR, hB1, hK1⟩; obtain ⟨A2, c2, hv2⟩ := Kd.R_slice hR; subst hv2; obtain ⟨hz1, hR1a, hRa⟩ := DB.handed hz hR0 hR1 hg hR hB1 hK1; clear c0; have c0 := (blk_cell hz1 0).trans rfl; have f0 := blk_frozen hz1 0)
  go_ret
  exact ⟨rfl, DB.mk' (DB.put hz1 hR1a hRa hg hB1) hg⟩
/-- A new builder. -/
theorem DB.new_ {w0 w : World} (hB : Below w0.heap.size w0 w) : DB w0 (w.alloc (.cells #[.slice none 0 0, .slice none 0 0] 194)) w.heap.size [] [] :=
  ⟨⟨_, _, blk_new w _, Kd.R_nil _ _ _ _ _, Kd.R_nil _ _ _ _ _⟩, hB.size, hB.alloc hB.size _⟩
set_option maxRecDepth 100000 in
theorem db_new {w0 w : World} {r : List Int} {i : Int} (hB : Below w0.heap.size w0 w) (hf : bsoncore_AppendDocumentStart.f [] = some (i, r)) :
    Calls Tryz.prog 103 #[] w fun e w' => ∃ g, e = .returned (.pointer (some ⟨g, 0, none⟩)) ∧ DB w0 w' g r [i] := by
  go_enter Tryz.func103, Tryz.ntmps103
  go_wp2_with (go_at_call 130; refine (db_start (DB.new_ hB) hf (by simp)).mono ?_; rintro e w1 ⟨rfl, hD⟩)
  go_ret
  exact ⟨_, rfl, hD⟩
set_option maxHeartbeats 2000000 in
set_option maxRecDepth 100000 in
theorem db_build {w0 w : World} {g : Nat} {l r : List Int} {i : Int} (h : DB w0 w g l [i]) (hf : bsoncore_AppendDocumentEnd.f l i = some (r, none)) :
    Calls Tryz.prog 105 #[.pointer (some ⟨g, 0, none⟩)] w fun e w' => ∃ v, e = .returned v ∧ Kd.R (Kd.int .u8) 5 w' w0.heap.size (fun _ => True) v r ∧ Below w0.heap.size w0 w' := by
  obtain ⟨⟨v0, v1, hz, hR0, hR1⟩, hg, hB⟩ := h
  obtain ⟨A0, k0, hv0⟩ := Kd.R_slice hR0
  subst hv0
  obtain ⟨A1, k1, hv1, hk1, hC1⟩ := Kd.R_reads hR1
  subst hv1
  obtain ⟨a1, rfl, hx1⟩ := Kd.at_int hC1 0 (by omega) (by simp)
  rw [show (0 : Int).toNat = 0 from rfl, Addr.add_zero', show rd [i] 0 = i from rfl] at hx1
  obtain ⟨i0, hi0, hz0⟩ := Option.map_eq_some_iff.1 info_i32
  have hcut := cut_to (P := Tryz.prog) 192 21 .i64 Tryz.underlying192 hi0 (some a1) 1 k1 0 (by omega) (by omega) hk1
  change ∀ W, _ = Result.ok (Value.slice (some a1) 0 k1) W at hcut
  have c0 := (blk_cell hz 0).trans rfl
  have c1 := (blk_cell hz 1).trans rfl
  go_enter Tryz.func105, Tryz.ntmps105
  go_wp2
  go_region_with (go_at_call 156; refine (bsoncore_AppendDocumentEnd.calls (fun k => (Value.slice A0 l.length k0).ownBlock = some k) (.slice A0 l.length k0) l i r none w0 _ (below_drew hB) hR0 hf).mono ?_; rintro e w1 ⟨v0', rfl, hR, hB1, hK1⟩; obtain ⟨A2, c2, hv2⟩ := Kd.R_slice hR; subst hv2; obtain ⟨hz1, hR1a, hRa⟩ := DB.handed hz hR0 hR1 hg hR hB1 hK1; clear c0 c1; have c0 := (blk_cell hz1 0).trans rfl; have f0 := blk_frozen hz1 0; have c1 := (blk_cell hz1 1).trans rfl; have f1 := blk_frozen hz1 1)
  all_goals
    go_wp2
    go_ret
    have P1 := DB.put hz1 hR1a hRa hg hB1
    refine ⟨_, rfl, Kd.R_mono (Kd.R_far P1.2.1 (fun k hk => ?_) _) (fun _ _ => trivial), below_set P1.2.2.2 hg⟩
    rintro rfl
    exact absurd (own_type P1.2.1 hk P1.1) (by decide)
set_option maxHeartbeats 4000000 in
set_option maxRecDepth 100000 in
theorem build_one {w0 w : World} {g : Nat} {l ix r : List Int} {A : Option Addr} {c : Nat} {e : S95} (hD : DB w0 w g l ix) (hC : Kd.C k95 w A [e].length [e]) (hc : 1 ≤ c) (hk : e.f1.f0 = 16) (hf : bsoncore_AppendInt32Element.f l e.f0 (wrap32 e.f1.f3) = some r) :
    Calls Tryz.prog 104 #[.pointer (some ⟨g, 0, none⟩), .slice A 1 c] w fun en w' => en = .returned (.tuple #[]) ∧ DB w0 w' g r ix := by
  obtain ⟨ad, A7, c7, A8, c8, rfl, e0, e1, e2, e3, e4, e5, e6, e7, e8, l7, g7, l8, g8⟩ := at_T95 hC 0 (by omega) (by simp)
  have hrd : rd_T95 [e] 0 = e := rfl
  rw [hrd] at e0 e1 e2 e3 e4 e5 e6 e7 e8
  obtain ⟨s, ek, et, em, en, eb, eh, eB, eK⟩ := e
  simp only at e0 e1 e2 e3 e4 e5 e6 e7 e8 hf hk
  subst hk
  rw [show (0 : Int).toNat * 9 = 0 from rfl, Addr.add_zero'] at e0 e1 e2 e3 e4 e5 e6 e7 e8
  clear l7 g7 l8 g8 hC hrd
  have al : ∀ {w1 : World} (o : Obj), DB w0 w1 g l ix → DB w0 (w1.alloc o) g l ix := fun o h => by
    obtain ⟨⟨v0, v1, hz, hR0, hR1⟩, hg, hB⟩ := h
    exact ⟨⟨v0, v1, blk_alloc hz o, Kd.R_alloc hR0 o, Kd.R_alloc hR1 o⟩, hg, hB.alloc hB.size _⟩
  go_enter Tryz.func104, Tryz.ntmps104
  go_wp2
  refine wp_loop_rounds 2 ?_
  rw [rounds_succ]
  go_wp2_with (go_at_call 150; refine (db_int32 (al _ (al _ hD)) hf).mono ?_; rintro e w1 ⟨rfl, hD1⟩)
  rw [rounds_succ]
  go_wp2
  go_end0
  exact ⟨rfl, hD1⟩
def impl_Built.f (l0 : List S95) : Option (List Int) := match l0 with
  | [e] => if e.f1.f0 = 16 then (bsoncore_AppendDocumentStart.f []).bind fun x => (bsoncore_AppendInt32Element.f x.2 e.f0 (wrap32 e.f1.f3)).bind fun y => (bsoncore_AppendDocumentEnd.f y x.1).bind fun z => (if z.2 = none then some z.1 else none) else none
  | _ => none
set_option maxRecDepth 100000 in
theorem impl_Built.calls (A0 : Option Addr) (c0 : Nat) (l0 : List S95) (r : List Int) (w : World) (hr0 : Kd.C k95 w A0 l0.length l0) (hc0 : l0.length ≤ c0) (h : impl_Built.f l0 = some r) :
    Calls Tryz.prog 56 #[.slice A0 l0.length c0] w fun e w' => ∃ v0_ : Value, e = .returned (v0_) ∧ Kd.R (Kd.int .u8) 5 w' w.heap.size (fun _ => True) v0_ r ∧ Below w.heap.size w w' := by
  unfold impl_Built.f at h
  split at h
  next e =>
    split at h
    next hk =>
      obtain ⟨⟨i, y⟩, h1, h⟩ := Option.bind_eq_some_iff.1 h
      obtain ⟨z, h2, h⟩ := Option.bind_eq_some_iff.1 h
      obtain ⟨⟨x, er⟩, h3, h⟩ := Option.bind_eq_some_iff.1 h
      cases er with
      | some _ => cases h
      | none =>
        obtain rfl := Option.some.inj h
        go_enter Tryz.func56, Tryz.ntmps56
        go_wp2_with (first
          | (go_at_call 103; refine (db_new (Below.refl _ _) h1).mono ?_; rintro e w1 ⟨g, rfl, hD1⟩)
          | (go_at_call 104; refine (build_one hD1 (Kd.C_below hr0 hD1.hB) hc0 hk h2).mono ?_; rintro e w2 ⟨rfl, hD2⟩)
          | (go_at_call 105; refine (db_build hD2 h3).mono ?_; rintro e w3 ⟨v, rfl, hR, hB⟩))
        go_ret
        exact ⟨v, rfl, hR, hB⟩
    next => cases h
  next => cases h

/-! ### impl_Validate: function 57 -/
set_option maxRecDepth 100000 in
theorem code_text (s : ByteArray) (w : World) (h1 : (s.toList == ([100, 111, 99, 117, 109, 101, 110, 116, 32, 111, 114, 32, 97, 114, 114, 97, 121, 32, 108, 101, 110, 103, 116, 104, 32, 105, 115, 32, 105, 110, 118, 97, 108, 105, 100] : List UInt8)) = false) (h2 : (s.toList == ([100, 111, 99, 117, 109, 101, 110, 116, 32, 111, 114, 32, 97, 114, 114, 97, 121, 32, 101, 110, 100, 32, 105, 115, 32, 109, 105, 115, 115, 105, 110, 103, 32, 110, 117, 108, 108, 32, 98, 121, 116, 101] : List UInt8)) = false) :
    Calls Tryz.prog 92 #[.iface 178 (.string s)] w fun e w' => e = .returned (.int .i64 4) ∧ Below w.heap.size w w' := by
  have t1 : ∀ W : World, (Instr.typeAssert (.iface 178 (.string s)) 150 177 true).run Tryz.prog W = .ok (.tuple #[.agg #[.slice none 0 0, .slice none 0 0], .bool false]) W := fun W => by rfl
  have t2 : ∀ W : World, (Instr.typeAssert (.iface 178 (.string s)) 150 178 true).run Tryz.prog W = .ok (.tuple #[.string s, .bool true]) W := fun W => by rfl
  go_enter Tryz.func92, Tryz.ntmps92
  go_wp2
  go_ret
  exact ⟨rfl, Below.refl _ _⟩
set_option maxRecDepth 100000 in
theorem length_error (a b : Int) (w : World) : Calls Tryz.prog 157 #[.int .i64 a, .int .i64 b] w fun e w' => ∃ s, e = .returned (.iface 178 (.string s)) ∧ s = (⟨#[100, 111, 99, 117, 109, 101, 110, 116]⟩ : ByteArray) ++ ⟨#[32, 108, 101, 110, 103, 116, 104, 32, 101, 120, 99, 101, 101, 100, 115, 32, 97, 118, 97, 105, 108, 97, 98, 108, 101, 32, 98, 121, 116, 101, 115]⟩ ∧ Below w.heap.size w w' := by
  go_enter Tryz.func157, Tryz.ntmps157
  go_wp2
  go_ret
  exact ⟨_, rfl, rfl, Below.refl _ _⟩
theorem dv_long (A : Option Addr) (c : Nat) (l rest : List Int) (n : Int) (w : World) (hC : Kd.C (Kd.int .u8) w A l.length l) (hc : l.length ≤ c) (hl : l.length ≤ 1000000) (hf : bsoncore_ReadLength.f l = some (n, rest, true)) (hn : (l.length : Int) < n) (hn2 : n ≤ 2147483647) :
    Calls Tryz.prog 106 #[.slice A l.length c] w fun e w' => ∃ s, e = .returned (.iface 178 (.string s)) ∧ s = (⟨#[100, 111, 99, 117, 109, 101, 110, 116]⟩ : ByteArray) ++ ⟨#[32, 108, 101, 110, 103, 116, 104, 32, 101, 120, 99, 101, 101, 100, 115, 32, 97, 118, 97, 105, 108, 97, 98, 108, 101, 32, 98, 121, 116, 101, 115]⟩ ∧ Below w.heap.size w w' := by
  have hV : Kd.V (Kd.int .u8) 5 w w.heap.size (fun _ => True) (.slice A l.length c) l := Kd.V_mk hc (Kd.F_mono (Kd.C_F (Kd.heap_int _) hC) (fun _ _ => trivial))
  have hw : wrap64 n = n := by unfold wrap64; omega
  have d0 : decide ((l.length : Int) < n) = true := decide_eq_true hn
  clear hC hc
  go_enter Tryz.func106, Tryz.ntmps106
  go_wp2_with (first | (go_at_call 113; refine (bsoncore_ReadLength.calls (fun _ => True) A c l n rest true w hV hf).mono ?_; rintro e w1 ⟨v1, rfl, _, hb1⟩) | (go_at_call 157; refine (length_error _ _ _).mono ?_; rintro e w2 ⟨s, rfl, hs, hb2⟩))
  go_ret
  exact ⟨_, rfl, rfl, below_step hb1 hb2⟩
def impl_Validate.f (l0 : List Int) : Option (Int) := match bsoncore_ReadLength.f l0 with
  | some (n, _, true) => if (l0.length : Int) < n ∧ l0.length ≤ 1000000 ∧ n ≤ 2147483647 then some 4 else none
  | _ => none
theorem impl_Validate.calls (A0 : Option Addr) (c0 : Nat) (l0 : List Int) (r : Int) (w : World) (hr0 : Kd.C (Kd.int .u8) w A0 l0.length l0) (hc0 : l0.length ≤ c0) (h : impl_Validate.f l0 = some r) :
    Calls Tryz.prog 57 #[.slice A0 l0.length c0] w fun e w' => e = .returned (.int .i64 r) ∧ Below w.heap.size w w' := by
  unfold impl_Validate.f at h
  split at h
  next n rest hf =>
    split at h
    next hc =>
      obtain rfl := Option.some.inj h
      go_enter Tryz.func57, Tryz.ntmps57
      go_wp2_with (first | (go_at_call 106; refine (dv_long A0 c0 l0 rest n w hr0 hc0 hc.2.1 hf hc.1 hc.2.2).mono ?_; rintro e w1 ⟨s, rfl, hs, hb1⟩; subst hs) | (go_at_call 92; refine (code_text _ _ (by decide +kernel) (by decide +kernel)).mono ?_; rintro e w2 ⟨rfl, hb2⟩))
      go_ret
      exact ⟨rfl, below_step hb1 hb2⟩
    next => cases h
  next => cases h

/-! ### laws_docAwake: function 15 -/
def laws_docAwake.f (k : Nat)  : Option (Bool) := (impl_Built.f (([(⟨(⟨#[97]⟩ : ByteArray), (⟨16, (⟨#[]⟩ : ByteArray), (⟨#[]⟩ : ByteArray), 7, 0, 0, ([] : List Int), ([] : List (S95))⟩ : S44)⟩ : S95)] : List (S95)))).bind fun t480 => ((impl_Read.f 16 (([7, 0, 0, 0, 9] : List Int))).bind fun bt486 => ((impl_Lookup.f k t480 (([(⟨#[97]⟩ : ByteArray)] : List ByteArray))).bind fun bt506 => (if (strOfNums t480).toList = ([12, 0, 0, 0, 16, 97, 0, 7, 0, 0, 0, 0] : List UInt8) then (if bt486.2.2.2.2.2.2.2.2.2 = true then (if bt486.2.2.2.1 = 7 then (if (bt486.2.2.2.2.2.2.2.2.1.length : Int) = 1 then (if bt506.2.2 = 0 then (if bt506.1 = 16 then (if (bt506.2.1.length : Int) = 4 then (if 11 ≤ (t480.length : Int) then ((impl_Validate.f (t480.take 11)).bind fun t516 => (some (t516 != 0))) else (none)) else (none)) else (none)) else (none)) else (none)) else (none)) else (none)) else (none))))
theorem laws_docAwake.mono : ∀ k, LeO (laws_docAwake.f k ) (laws_docAwake.f (k + 1) ) := by
  intro  k
  unfold laws_docAwake.f
  repeat' first
      | (with_reducible exact impl_Lookup.mono _ _ _)
      | (with_reducible exact LeO.refl _)
      | (with_reducible exact LeO.none _)
      | (with_reducible refine LeO.ite ?_ ?_)
      | (with_reducible refine LeO.bind ?_ (fun _ => ?_))
      | exact impl_Lookup.mono _ _ _
      | exact LeO.none _
      | refine LeO.ite ?_ ?_
      | refine LeO.bind ?_ (fun _ => ?_)
set_option maxHeartbeats 8000000 in
set_option maxRecDepth 100000 in
theorem laws_docAwake.calls (k : Nat)  (r : Bool) (w : World) (h : laws_docAwake.f k  = some r) :
    Calls Tryz.prog 15 #[] w fun e w' => e = .returned (.bool r) ∧ Below w.heap.size w w' := by
  have hu44 := Tryz.underlying44
  have hu95 := Tryz.underlying95
  have hu38 := Tryz.underlying38
  have HB := Aside0.mk (Below.refl w.heap.size w)
  have H : ((impl_Built.f (([(⟨(⟨#[97]⟩ : ByteArray), (⟨16, (⟨#[]⟩ : ByteArray), (⟨#[]⟩ : ByteArray), 7, 0, 0, ([] : List Int), ([] : List (S95))⟩ : S44)⟩ : S95)] : List (S95)))).bind fun t480 => ((impl_Read.f 16 (([7, 0, 0, 0, 9] : List Int))).bind fun bt486 => ((impl_Lookup.f k t480 (([(⟨#[97]⟩ : ByteArray)] : List ByteArray))).bind fun bt506 => (if (strOfNums t480).toList = ([12, 0, 0, 0, 16, 97, 0, 7, 0, 0, 0, 0] : List UInt8) then (if bt486.2.2.2.2.2.2.2.2.2 = true then (if bt486.2.2.2.1 = 7 then (if (bt486.2.2.2.2.2.2.2.2.1.length : Int) = 1 then (if bt506.2.2 = 0 then (if bt506.1 = 16 then (if (bt506.2.1.length : Int) = 4 then (if 11 ≤ (t480.length : Int) then ((impl_Validate.f (t480.take 11)).bind fun t516 => (some (t516 != 0))) else (none)) else (none)) else (none)) else (none)) else (none)) else (none)) else (none)) else (none))))) = some r := h
  clear h
  obtain ⟨y477, hy477⟩ : ∃ y_ : List (S95), y_ = (([(⟨(⟨#[97]⟩ : ByteArray), (⟨16, (⟨#[]⟩ : ByteArray), (⟨#[]⟩ : ByteArray), 7, 0, 0, ([] : List Int), ([] : List (S95))⟩ : S44)⟩ : S95)] : List (S95))) := ⟨_, rfl⟩
  replace H : ((impl_Built.f y477).bind fun t480 => ((impl_Read.f 16 (([7, 0, 0, 0, 9] : List Int))).bind fun bt486 => ((impl_Lookup.f k t480 (([(⟨#[97]⟩ : ByteArray)] : List ByteArray))).bind fun bt506 => (if (strOfNums t480).toList = ([12, 0, 0, 0, 16, 97, 0, 7, 0, 0, 0, 0] : List UInt8) then (if bt486.2.2.2.2.2.2.2.2.2 = true then (if bt486.2.2.2.1 = 7 then (if (bt486.2.2.2.2.2.2.2.2.1.length : Int) = 1 then (if bt506.2.2 = 0 then (if bt506.1 = 16 then (if (bt506.2.1.length : Int) = 4 then (if 11 ≤ (t480.length : Int) then ((impl_Validate.f (t480.take 11)).bind fun t516 => (some (t516 != 0))) else (none)) else (none)) else (none)) else (none)) else (none)) else (none)) else (none)) else (none))))) = some r := by first | (rw [hy477]; with_reducible exact H) | (have H2_ := (Option.bind_some _ _).symm.trans H; rw [hy477]; with_reducible exact H2_) | (have H2_ := (Option.bind_some _ _).symm.trans H; with_reducible exact H2_) | with_reducible exact H | (rw [hy477]; exact H) | exact H
  have Ny477 := Aside0.mk hy477
  clear hy477
  replace H := Option.bind_eq_some_iff.mp H
  obtain ⟨t480, A10, H⟩ := H
  replace H : ((impl_Read.f 16 (([7, 0, 0, 0, 9] : List Int))).bind fun bt486 => ((impl_Lookup.f k t480 (([(⟨#[97]⟩ : ByteArray)] : List ByteArray))).bind fun bt506 => (if (strOfNums t480).toList = ([12, 0, 0, 0, 16, 97, 0, 7, 0, 0, 0, 0] : List UInt8) then (if bt486.2.2.2.2.2.2.2.2.2 = true then (if bt486.2.2.2.1 = 7 then (if (bt486.2.2.2.2.2.2.2.2.1.length : Int) = 1 then (if bt506.2.2 = 0 then (if bt506.1 = 16 then (if (bt506.2.1.length : Int) = 4 then (if 11 ≤ (t480.length : Int) then ((impl_Validate.f (t480.take 11)).bind fun t516 => (some (t516 != 0))) else (none)) else (none)) else (none)) else (none)) else (none)) else (none)) else (none)) else (none)))) = some r := H
  have A1 := Aside0.mk A10
  clear A10
  obtain ⟨y483, hy483⟩ : ∃ y_ : List Int, y_ = (([7, 0, 0, 0, 9] : List Int)) := ⟨_, rfl⟩
  replace H : ((impl_Read.f 16 y483).bind fun bt486 => ((impl_Lookup.f k t480 (([(⟨#[97]⟩ : ByteArray)] : List ByteArray))).bind fun bt506 => (if (strOfNums t480).toList = ([12, 0, 0, 0, 16, 97, 0, 7, 0, 0, 0, 0] : List UInt8) then (if bt486.2.2.2.2.2.2.2.2.2 = true then (if bt486.2.2.2.1 = 7 then (if (bt486.2.2.2.2.2.2.2.2.1.length : Int) = 1 then (if bt506.2.2 = 0 then (if bt506.1 = 16 then (if (bt506.2.1.length : Int) = 4 then (if 11 ≤ (t480.length : Int) then ((impl_Validate.f (t480.take 11)).bind fun t516 => (some (t516 != 0))) else (none)) else (none)) else (none)) else (none)) else (none)) else (none)) else (none)) else (none)))) = some r := by first | (rw [hy483]; with_reducible exact H) | (have H2_ := (Option.bind_some _ _).symm.trans H; rw [hy483]; with_reducible exact H2_) | (have H2_ := (Option.bind_some _ _).symm.trans H; with_reducible exact H2_) | with_reducible exact H | (rw [hy483]; exact H) | exact H
  have Ny483 := Aside0.mk hy483
  clear hy483
  replace H := Option.bind_eq_some_iff.mp H
  obtain ⟨⟨t486, t487, t488, t489, t490, t491, t492, t495, t498, t501⟩, A20, H⟩ := H
  replace H : ((impl_Lookup.f k t480 (([(⟨#[97]⟩ : ByteArray)] : List ByteArray))).bind fun bt506 => (if (strOfNums t480).toList = ([12, 0, 0, 0, 16, 97, 0, 7, 0, 0, 0, 0] : List UInt8) then (if t501 = true then (if t489 = 7 then (if (t498.length : Int) = 1 then (if bt506.2.2 = 0 then (if bt506.1 = 16 then (if (bt506.2.1.length : Int) = 4 then (if 11 ≤ (t480.length : Int) then ((impl_Validate.f (t480.take 11)).bind fun t516 => (some (t516 != 0))) else (none)) else (none)) else (none)) else (none)) else (none)) else (none)) else (none)) else (none))) = some r := H
  have A2 := Aside0.mk A20
  clear A20
  obtain ⟨y503, hy503⟩ : ∃ y_ : List ByteArray, y_ = (([(⟨#[97]⟩ : ByteArray)] : List ByteArray)) := ⟨_, rfl⟩
  replace H : ((impl_Lookup.f k t480 y503).bind fun bt506 => (if (strOfNums t480).toList = ([12, 0, 0, 0, 16, 97, 0, 7, 0, 0, 0, 0] : List UInt8) then (if t501 = true then (if t489 = 7 then (if (t498.length : Int) = 1 then (if bt506.2.2 = 0 then (if bt506.1 = 16 then (if (bt506.2.1.length : Int) = 4 then (if 11 ≤ (t480.length : Int) then ((impl_Validate.f (t480.take 11)).bind fun t516 => (some (t516 != 0))) else (none)) else (none)) else (none)) else (none)) else (none)) else (none)) else (none)) else (none))) = some r := by first | (rw [hy503]; with_reducible exact H) | (have H2_ := (Option.bind_some _ _).symm.trans H; rw [hy503]; with_reducible exact H2_) | (have H2_ := (Option.bind_some _ _).symm.trans H; with_reducible exact H2_) | with_reducible exact H | (rw [hy503]; exact H) | exact H
  have Ny503 := Aside0.mk hy503
  clear hy503
  replace H := Option.bind_eq_some_iff.mp H
  obtain ⟨⟨t506, t507, t510⟩, A30, H⟩ := H
  replace H : (if (strOfNums t480).toList = ([12, 0, 0, 0, 16, 97, 0, 7, 0, 0, 0, 0] : List UInt8) then (if t501 = true then (if t489 = 7 then (if (t498.length : Int) = 1 then (if t510 = 0 then (if t506 = 16 then (if (t507.length : Int) = 4 then (if 11 ≤ (t480.length : Int) then ((impl_Validate.f (t480.take 11)).bind fun t516 => (some (t516 != 0))) else (none)) else (none)) else (none)) else (none)) else (none)) else (none)) else (none)) else (none)) = some r := H
  have A3 := Aside0.mk A30
  clear A30
  by_cases c4 : (strOfNums t480).toList = ([12, 0, 0, 0, 16, 97, 0, 7, 0, 0, 0, 0] : List UInt8)
  rotate_left
  · rw [if_neg c4] at H
    exact absurd H (by simp)
  rw [if_pos c4] at H
  have c4b0 : ((strOfNums t480).toList == ([12, 0, 0, 0, 16, 97, 0, 7, 0, 0, 0, 0] : List UInt8)) = true := beq_iff_eq.mpr c4
  have c4b1 : ((strOfNums t480).toList != ([12, 0, 0, 0, 16, 97, 0, 7, 0, 0, 0, 0] : List UInt8)) = false := bne_eq_false_iff_eq.mpr c4
  clear c4
  by_cases c5 : t501 = true
  rotate_left
  · replace c5 := Bool.eq_false_iff.mpr c5
    subst c5
    have H1 : (none) = some r := by rw [if_neg (show ¬ (false = true) by decide)] at H; exact H
    clear H
    have H := H1
    clear H1
    exact absurd H (by simp)
  subst c5
  have H1 : (if t489 = 7 then (if (t498.length : Int) = 1 then (if t510 = 0 then (if t506 = 16 then (if (t507.length : Int) = 4 then (if 11 ≤ (t480.length : Int) then ((impl_Validate.f (t480.take 11)).bind fun t516 => (some (t516 != 0))) else (none)) else (none)) else (none)) else (none)) else (none)) else (none)) = some r := by rw [if_pos rfl] at H; exact H
  clear H
  have H := H1
  clear H1
  by_cases c6 : t489 = 7
  rotate_left
  · rw [if_neg c6] at H
    exact absurd H (by simp)
  rw [if_pos c6] at H
  have c6b0 : (t489 == 7) = true := beq_iff_eq.mpr c6
  have c6b1 : (t489 != 7) = false := bne_eq_false_iff_eq.mpr c6
  clear c6
  by_cases c7 : (t498.length : Int) = 1
  rotate_left
  · rw [if_neg c7] at H
    exact absurd H (by simp)
  rw [if_pos c7] at H
  have c7b0 : ((t498.length : Int) == 1) = true := beq_iff_eq.mpr c7
  have c7b1 : ((t498.length : Int) != 1) = false := bne_eq_false_iff_eq.mpr c7
  clear c7
  by_cases c8 : t510 = 0
  rotate_left
  · rw [if_neg c8] at H
    exact absurd H (by simp)
  rw [if_pos c8] at H
  have c8b0 : (t510 == 0) = true := beq_iff_eq.mpr c8
  have c8b1 : (t510 != 0) = false := bne_eq_false_iff_eq.mpr c8
  clear c8
  by_cases c9 : t506 = 16
  rotate_left
  · rw [if_neg c9] at H
    exact absurd H (by simp)
  rw [if_pos c9] at H
  have c9b0 : (t506 == 16) = true := beq_iff_eq.mpr c9
  have c9b1 : (t506 != 16) = false := bne_eq_false_iff_eq.mpr c9
  clear c9
  by_cases c10 : (t507.length : Int) = 4
  rotate_left
  · rw [if_neg c10] at H
    exact absurd H (by simp)
  rw [if_pos c10] at H
  have c10b0 : ((t507.length : Int) == 4) = true := beq_iff_eq.mpr c10
  have c10b1 : ((t507.length : Int) != 4) = false := bne_eq_false_iff_eq.mpr c10
  clear c10
  by_cases c11 : 11 ≤ (t480.length : Int)
  rotate_left
  · rw [if_neg c11] at H
    exact absurd H (by simp)
  rw [if_pos c11] at H
  have c11b0 := eq_true c11
  have c11b1 : decide (11 ≤ (t480.length : Int)) = true := decide_eq_true c11
  clear c11
  obtain ⟨y512, hy512⟩ : ∃ y_ : List Int, y_ = (t480.take 11) := ⟨_, rfl⟩
  replace H : ((impl_Validate.f y512).bind fun t516 => (some (t516 != 0))) = some r := by first | (rw [hy512]; with_reducible exact H) | (have H2_ := (Option.bind_some _ _).symm.trans H; rw [hy512]; with_reducible exact H2_) | (have H2_ := (Option.bind_some _ _).symm.trans H; with_reducible exact H2_) | with_reducible exact H | (rw [hy512]; exact H) | exact H
  have Ny512 := Aside0.mk hy512
  clear hy512
  replace H := Option.bind_eq_some_iff.mp H
  obtain ⟨t516, A120, H⟩ := H
  replace H : (some (t516 != 0)) = some r := H
  have A12 := Aside0.mk A120
  clear A120
  focus
    obtain rfl := Option.some.inj H
    go_enter Tryz.func15, Tryz.ntmps15
    go_wp2_with (first | ((with_reducible refine gate_dst (N := 9) rfl ?_); (try (refine gate_guard (by rfl) ?_; dsimp only)); refine Kd.R_lit k95 _ 95 ?hg (N := 9) ?hd (xs := ([(⟨(⟨#[97]⟩ : ByteArray), (⟨16, (⟨#[]⟩ : ByteArray), (⟨#[]⟩ : ByteArray), 7, 0, 0, ([] : List Int), ([] : List (S95))⟩ : S44)⟩ : S95)] : List (S95))) (inner := [.string (⟨#[97]⟩ : ByteArray), .int .i64 16, .string (⟨#[]⟩ : ByteArray), .string (⟨#[]⟩ : ByteArray), .int .i64 7, .int .u64 0, .int .u64 0, .slice none 0 0, .slice none 0 0]) (ok := fun _ => True) (okp := fun _ => True) ?hr ?hp (fun _ hk => hk) trivial (Below.refl _ _) (Nat.le_refl _) (by simp) ?_; (case hd => rfl); (case hg => rfl); (case hr => first | (go_simp; done) | (go_simp; rfl)); (case hp => exact (Reps.c9 (show Kd.M k95 _ _ _ (⟨(⟨#[97]⟩ : ByteArray), (⟨16, (⟨#[]⟩ : ByteArray), (⟨#[]⟩ : ByteArray), 7, 0, 0, ([] : List Int), ([] : List (S95))⟩ : S44)⟩ : S95) [.string (⟨#[97]⟩ : ByteArray), .int .i64 16, .string (⟨#[]⟩ : ByteArray), .string (⟨#[]⟩ : ByteArray), .int .i64 7, .int .u64 0, .int .u64 0, .slice none 0 0, .slice none 0 0] from (k95_mkM _ _ _ (⟨(⟨#[97]⟩ : ByteArray), (⟨16, (⟨#[]⟩ : ByteArray), (⟨#[]⟩ : ByteArray), 7, 0, 0, ([] : List Int), ([] : List (S95))⟩ : S44)⟩ : S95) (Kd.R_nil _ _ _ _ _) (Kd.R_nil _ _ _ _ _))) (Reps.none _ _))); intro v478 w13 ho14 hb hg_ hnew_; clear hg_ hnew_; (first | rw [← Ny477.out] at ho14 | (simp only [Int.reduceToNat] at ho14; rw [← Ny477.out] at ho14)); have n0_ := Aside0.mk (Kd.R_lower ho14 (below_size HW.zb)); have n1_ := Aside0.mk (below_step HW.zb hb); clear HB; have HO479 := n0_; have HB := n1_; clear n0_ n1_; clear hb ho14; obtain ⟨Ao15, co15, eo15⟩ := Kd.R_slice HO479.out; subst eo15) | ((with_reducible refine gate_callee (f := 56) rfl ?_); refine HW.gz (some 10) rfl rfl Tryz.func56 (by kernel_rfl) rfl #[.slice Ao15 y477.length co15] rfl ?_; (with_reducible refine (impl_Built.calls _ _ y477 t480 _ ?side1 ?side2 A1.out).mono ?_); (case side1 => repeat (first | exact (Kd.R_reads' HO479.out).2.2 | (with_reducible refine Kd.C_alloc ?_ _) | (with_reducible refine Kd.C_drewN ?_ _) | (with_reducible refine Kd.C_drew ?_))); (case side2 => exact (Kd.R_reads' HO479.out).2.1); rintro e w16 ⟨v481, rfl, ho0, hb⟩; refine ⟨_, rfl, ?_⟩; have n0_ := Aside0.mk (Kd.R_elder' (HW.zR HO479.out) (Kd.R_base ho0) hb); have n1_ := Aside0.mk (Kd.R_lower ho0 (below_size HW.zb)); have n2_ := Aside0.mk (below_step HW.zb hb); clear HO479; clear HB; have HO479 := n0_; have HO482 := n1_; have HB := n2_; clear n0_ n1_ n2_; (try clear hb); (try clear hb2); (try clear hk); (try clear hi); (try clear ho0)) | ((with_reducible refine gate_dst (N := 12) rfl ?_); (try (refine gate_guard (by rfl) ?_; dsimp only)); refine Kd.R_lit (Kd.int .u8) _ 5 ?hg (N := 12) ?hd (xs := ([7, 0, 0, 0, 9] : List Int)) (inner := [.int .u8 7, .int .u8 0, .int .u8 0, .int .u8 0, .int .u8 9]) (ok := fun _ => True) (okp := fun _ => True) ?hr ?hp (fun _ hk => hk) trivial (Below.refl _ _) (Nat.le_refl _) (by simp) ?_; (case hd => rfl); (case hg => rfl); (case hr => first | (go_simp; done) | (go_simp; rfl)); (case hp => exact (Reps.one (show Kd.M (Kd.int .u8) _ _ _ 7 [.int .u8 7] from rfl) (Reps.one (show Kd.M (Kd.int .u8) _ _ _ 0 [.int .u8 0] from rfl) (Reps.one (show Kd.M (Kd.int .u8) _ _ _ 0 [.int .u8 0] from rfl) (Reps.one (show Kd.M (Kd.int .u8) _ _ _ 0 [.int .u8 0] from rfl) (Reps.one (show Kd.M (Kd.int .u8) _ _ _ 9 [.int .u8 9] from rfl) (Reps.none _ _))))))); intro v484 w17 ho18 hb hg_ hnew_; clear hg_ hnew_; (first | rw [← Ny483.out] at ho18 | (simp only [Int.reduceToNat] at ho18; rw [← Ny483.out] at ho18)); have n0_ := Aside0.mk (Kd.R_elder' (HW.zR HO479.out) (Kd.R_base ho18) hb); have n1_ := Aside0.mk (Kd.R_elder' (HW.zR HO482.out) (Kd.R_base ho18) hb); have n2_ := Aside0.mk (Kd.R_lower (Kd.R_new' ho18 (Kd.R_lt (HW.zR HO482.out))) (below_size HW.zb)); have n3_ := Aside0.mk (below_step HW.zb hb); clear HO479; clear HO482; clear HB; have HO479 := n0_; have HO482 := n1_; have HO485 := n2_; have HB := n3_; clear n0_ n1_ n2_ n3_; clear hb ho18; obtain ⟨Ao19, co19, eo19⟩ := Kd.R_slice HO485.out; subst eo19) | ((with_reducible refine gate_callee (f := 34) rfl ?_); refine HW.gz (some 13) rfl rfl Tryz.func34 (by kernel_rfl) rfl #[.int .i64 16, .slice Ao19 y483.length co19] rfl ?_; (with_reducible refine (impl_Read.calls 16 _ _ y483 t486 t487 t488 t489 t490 t491 t492 t495 t498 true _ ?side1 ?side2 A2.out).mono ?_); (case side1 => repeat (first | exact (Kd.R_reads' HO485.out).2.2 | (with_reducible refine Kd.C_alloc ?_ _) | (with_reducible refine Kd.C_drewN ?_ _) | (with_reducible refine Kd.C_drew ?_))); (case side2 => exact (Kd.R_reads' HO485.out).2.1); rintro e w20 ⟨v493, v496, v499, rfl, ho0, ho1, ho2, hb⟩; refine ⟨_, rfl, ?_⟩; have n0_ := Aside0.mk (Kd.R_mono (Kd.R_told (Kd.R_told (Kd.R_told (Kd.R_old (HW.zR HO479.out) hb) (Kd.R_base ho0)) (Kd.R_base ho1)) (Kd.R_base ho2)) (fun _ h_ => h_.1)); have n1_ := Aside0.mk (Kd.R_mono (Kd.R_told (Kd.R_told (Kd.R_old (HW.zR HO482.out) hb) (Kd.R_base ho0)) (Kd.R_base ho2)) (fun _ h_ => h_.1)); have n2_ := Aside0.mk (Kd.R_mono (Kd.R_told (Kd.R_told (Kd.R_old (HW.zR HO485.out) hb) (Kd.R_base ho0)) (Kd.R_base ho2)) (fun _ h_ => h_.1)); have n3_ := Aside0.mk (Kd.R_lower (Kd.R_new' (Kd.R_new' ho0 (Kd.R_lt (HW.zR HO482.out))) (Kd.R_lt (HW.zR HO485.out))) (below_size HW.zb)); have n4_ := Aside0.mk (Kd.R_lower (Kd.R_new' (Kd.R_new' (Kd.R_new' ho1 (Kd.R_lt (HW.zR HO479.out))) (Kd.R_lt (HW.zR HO482.out))) (Kd.R_lt (HW.zR HO485.out))) (below_size HW.zb)); have n5_ := Aside0.mk (Kd.R_lower (Kd.R_new' (Kd.R_new' ho2 (Kd.R_lt (HW.zR HO482.out))) (Kd.R_lt (HW.zR HO485.out))) (below_size HW.zb)); have n6_ := Aside0.mk (below_step HW.zb hb); clear HO479; clear HO482; clear HO485; clear HB; have HO479 := n0_; have HO482 := n1_; have HO485 := n2_; have HO494 := n3_; have HO497 := n4_; have HO500 := n5_; have HB := n6_; clear n0_ n1_ n2_ n3_ n4_ n5_ n6_; (try clear hb); (try clear hb2); (try clear hk); (try clear hi); (try clear ho0); (try clear ho1); (try clear ho2)) | ((with_reducible refine gate_dst (N := 2) rfl ?_); (try (refine gate_guard (by rfl) ?_; dsimp only)); refine box_event ?hg (N := 2) ?hd (cs := #[.int .i64 0, .string (⟨#[]⟩ : ByteArray), .string (⟨#[]⟩ : ByteArray), .int .i64 0, .int .u64 0, .int .u64 0, .slice none 0 0, .slice none 0 0]) (t := 44) ?hr ?_; (case hd => rfl); (case hg => rfl); (case hr => first | (go_simp; done) | (go_simp; rfl)); intro gb502 hg w21 hbox hb; have n0_ := Aside0.mk (Kd.R_below (HW.zR HO479.out) hb); have n1_ := Aside0.mk (Kd.R_below (HW.zR HO482.out) hb); have n2_ := Aside0.mk (Kd.R_below (HW.zR HO485.out) hb); have n3_ := Aside0.mk (Kd.R_below (HW.zR HO494.out) hb); have n4_ := Aside0.mk (Kd.R_below (HW.zR HO497.out) hb); have n5_ := Aside0.mk (Kd.R_below (HW.zR HO500.out) hb); have n6_ := Aside0.mk (below_step HW.zb hb); have n7_ := Aside0.mk (hbox); have n9_ := Aside0.mk ((by rw [hg]; exact (below_size HW.zb) : w.heap.size ≤ gb502)); clear HO479; clear HO482; clear HO485; clear HO494; clear HO497; clear HO500; clear HB; have HO479 := n0_; have HO482 := n1_; have HO485 := n2_; have HO494 := n3_; have HO497 := n4_; have HO500 := n5_; have HB := n6_; have BK502 := n7_; have GE502 := n9_; clear n0_ n1_ n2_ n3_ n4_ n5_ n6_ n7_ n9_; clear hb hbox hg; have hcz22_0 := HW.zc BK502.out 0 (.int .i64 0); have hcz22_1 := HW.zc BK502.out 1 (.string (⟨#[]⟩ : ByteArray)); have hcz22_2 := HW.zc BK502.out 2 (.string (⟨#[]⟩ : ByteArray)); have hcz22_3 := HW.zc BK502.out 3 (.int .i64 0); have hcz22_4 := HW.zc BK502.out 4 (.int .u64 0); have hcz22_5 := HW.zc BK502.out 5 (.int .u64 0); have hcz22_6 := HW.zc BK502.out 6 (.slice none 0 0); have hcz22_7 := HW.zc BK502.out 7 (.slice none 0 0); have hfz23_0 := blk_frozen BK502.out 0; have hfz23_1 := blk_frozen BK502.out 1; have hfz23_2 := blk_frozen BK502.out 2; have hfz23_3 := blk_frozen BK502.out 3; have hfz23_4 := blk_frozen BK502.out 4; have hfz23_5 := blk_frozen BK502.out 5; have hfz23_6 := blk_frozen BK502.out 6; have hfz23_7 := blk_frozen BK502.out 7; obtain ⟨Ao24, co24, eo24⟩ := Kd.R_slice HO494.out; subst eo24; obtain ⟨Ao25, co25, eo25⟩ := Kd.R_slice HO497.out; subst eo25) | ((with_reducible refine gate_dst (N := 19) rfl ?_); (try (refine gate_guard (by rfl) ?_; dsimp only)); refine Kd.R_lit Kd.string _ 9 ?hg (N := 19) ?hd (xs := ([(⟨#[97]⟩ : ByteArray)] : List ByteArray)) (inner := [.string (⟨#[97]⟩ : ByteArray)]) (ok := fun _ => True) (okp := fun _ => True) ?hr ?hp (fun _ hk => hk) trivial (Below.refl _ _) (Nat.le_refl _) (by simp) ?_; (case hd => rfl); (case hg => rfl); (case hr => first | (go_simp; done) | (go_simp; rfl)); (case hp => exact (Reps.one (show Kd.M Kd.string _ _ _ (⟨#[97]⟩ : ByteArray) [.string (⟨#[97]⟩ : ByteArray)] from rfl) (Reps.none _ _))); intro v504 w26 ho27 hb hg_ hnew_; clear hg_ hnew_; (first | rw [← Ny503.out] at ho27 | (simp only [Int.reduceToNat] at ho27; rw [← Ny503.out] at ho27)); have n0_ := Aside0.mk (Kd.R_below (by (with_reducible repeat (first | apply Kd.R_alloc | apply Kd.R_drewN | apply Kd.R_drew)); exact (Kd.R_mono (Kd.R_far (p := ⟨gb502, 7, none⟩) (Kd.R_far (p := ⟨gb502, 6, none⟩) (Kd.R_far (p := ⟨gb502, 5, none⟩) (Kd.R_far (p := ⟨gb502, 4, none⟩) (Kd.R_far (p := ⟨gb502, 3, none⟩) (Kd.R_far (p := ⟨gb502, 2, none⟩) (Kd.R_far (p := ⟨gb502, 1, none⟩) (Kd.R_far (p := ⟨gb502, 0, none⟩) (Kd.R_types HO479.out BK502.out (by decide)) (fun _ hk => hk.2) (.int .i64 t486)) (fun _ hk => hk.2) (.string t487)) (fun _ hk => hk.2) (.string t488)) (fun _ hk => hk.2) (.int .i64 t489)) (fun _ hk => hk.2) (.int .u64 t490)) (fun _ hk => hk.2) (.int .u64 t491)) (fun _ hk => hk.2) (.slice Ao24 t492.length co24)) (fun _ hk => hk.2) (.slice Ao25 t495.length co25)) (fun _ h_ => h_.1))) hb); have n1_ := Aside0.mk (Kd.R_below (by (with_reducible repeat (first | apply Kd.R_alloc | apply Kd.R_drewN | apply Kd.R_drew)); exact (Kd.R_mono (Kd.R_far (p := ⟨gb502, 7, none⟩) (Kd.R_far (p := ⟨gb502, 6, none⟩) (Kd.R_far (p := ⟨gb502, 5, none⟩) (Kd.R_far (p := ⟨gb502, 4, none⟩) (Kd.R_far (p := ⟨gb502, 3, none⟩) (Kd.R_far (p := ⟨gb502, 2, none⟩) (Kd.R_far (p := ⟨gb502, 1, none⟩) (Kd.R_far (p := ⟨gb502, 0, none⟩) (Kd.R_types HO482.out BK502.out (by decide)) (fun _ hk => hk.2) (.int .i64 t486)) (fun _ hk => hk.2) (.string t487)) (fun _ hk => hk.2) (.string t488)) (fun _ hk => hk.2) (.int .i64 t489)) (fun _ hk => hk.2) (.int .u64 t490)) (fun _ hk => hk.2) (.int .u64 t491)) (fun _ hk => hk.2) (.slice Ao24 t492.length co24)) (fun _ hk => hk.2) (.slice Ao25 t495.length co25)) (fun _ h_ => h_.1))) hb); have n2_ := Aside0.mk (Kd.R_below (by (with_reducible repeat (first | apply Kd.R_alloc | apply Kd.R_drewN | apply Kd.R_drew)); exact (Kd.R_mono (Kd.R_far (p := ⟨gb502, 7, none⟩) (Kd.R_far (p := ⟨gb502, 6, none⟩) (Kd.R_far (p := ⟨gb502, 5, none⟩) (Kd.R_far (p := ⟨gb502, 4, none⟩) (Kd.R_far (p := ⟨gb502, 3, none⟩) (Kd.R_far (p := ⟨gb502, 2, none⟩) (Kd.R_far (p := ⟨gb502, 1, none⟩) (Kd.R_far (p := ⟨gb502, 0, none⟩) (Kd.R_types HO485.out BK502.out (by decide)) (fun _ hk => hk.2) (.int .i64 t486)) (fun _ hk => hk.2) (.string t487)) (fun _ hk => hk.2) (.string t488)) (fun _ hk => hk.2) (.int .i64 t489)) (fun _ hk => hk.2) (.int .u64 t490)) (fun _ hk => hk.2) (.int .u64 t491)) (fun _ hk => hk.2) (.slice Ao24 t492.length co24)) (fun _ hk => hk.2) (.slice Ao25 t495.length co25)) (fun _ h_ => h_.1))) hb); have n3_ := Aside0.mk (Kd.R_below (by (with_reducible repeat (first | apply Kd.R_alloc | apply Kd.R_drewN | apply Kd.R_drew)); exact (Kd.R_mono (Kd.R_far (p := ⟨gb502, 7, none⟩) (Kd.R_far (p := ⟨gb502, 6, none⟩) (Kd.R_far (p := ⟨gb502, 5, none⟩) (Kd.R_far (p := ⟨gb502, 4, none⟩) (Kd.R_far (p := ⟨gb502, 3, none⟩) (Kd.R_far (p := ⟨gb502, 2, none⟩) (Kd.R_far (p := ⟨gb502, 1, none⟩) (Kd.R_far (p := ⟨gb502, 0, none⟩) (Kd.R_types HO494.out BK502.out (by decide)) (fun _ hk => hk.2) (.int .i64 t486)) (fun _ hk => hk.2) (.string t487)) (fun _ hk => hk.2) (.string t488)) (fun _ hk => hk.2) (.int .i64 t489)) (fun _ hk => hk.2) (.int .u64 t490)) (fun _ hk => hk.2) (.int .u64 t491)) (fun _ hk => hk.2) (.slice Ao24 t492.length co24)) (fun _ hk => hk.2) (.slice Ao25 t495.length co25)) (fun _ h_ => h_.1))) hb); have n4_ := Aside0.mk (Kd.R_below (by (with_reducible repeat (first | apply Kd.R_alloc | apply Kd.R_drewN | apply Kd.R_drew)); exact (Kd.R_mono (Kd.R_far (p := ⟨gb502, 7, none⟩) (Kd.R_far (p := ⟨gb502, 6, none⟩) (Kd.R_far (p := ⟨gb502, 5, none⟩) (Kd.R_far (p := ⟨gb502, 4, none⟩) (Kd.R_far (p := ⟨gb502, 3, none⟩) (Kd.R_far (p := ⟨gb502, 2, none⟩) (Kd.R_far (p := ⟨gb502, 1, none⟩) (Kd.R_far (p := ⟨gb502, 0, none⟩) (Kd.R_types HO497.out BK502.out (by decide)) (fun _ hk => hk.2) (.int .i64 t486)) (fun _ hk => hk.2) (.string t487)) (fun _ hk => hk.2) (.string t488)) (fun _ hk => hk.2) (.int .i64 t489)) (fun _ hk => hk.2) (.int .u64 t490)) (fun _ hk => hk.2) (.int .u64 t491)) (fun _ hk => hk.2) (.slice Ao24 t492.length co24)) (fun _ hk => hk.2) (.slice Ao25 t495.length co25)) (fun _ h_ => h_.1))) hb); have n5_ := Aside0.mk (Kd.R_below (by (with_reducible repeat (first | apply Kd.R_alloc | apply Kd.R_drewN | apply Kd.R_drew)); exact (Kd.R_mono (Kd.R_far (p := ⟨gb502, 7, none⟩) (Kd.R_far (p := ⟨gb502, 6, none⟩) (Kd.R_far (p := ⟨gb502, 5, none⟩) (Kd.R_far (p := ⟨gb502, 4, none⟩) (Kd.R_far (p := ⟨gb502, 3, none⟩) (Kd.R_far (p := ⟨gb502, 2, none⟩) (Kd.R_far (p := ⟨gb502, 1, none⟩) (Kd.R_far (p := ⟨gb502, 0, none⟩) (Kd.R_types HO500.out BK502.out (by decide)) (fun _ hk => hk.2) (.int .i64 t486)) (fun _ hk => hk.2) (.string t487)) (fun _ hk => hk.2) (.string t488)) (fun _ hk => hk.2) (.int .i64 t489)) (fun _ hk => hk.2) (.int .u64 t490)) (fun _ hk => hk.2) (.int .u64 t491)) (fun _ hk => hk.2) (.slice Ao24 t492.length co24)) (fun _ hk => hk.2) (.slice Ao25 t495.length co25)) (fun _ h_ => h_.1))) hb); have n6_ := Aside0.mk (Kd.R_lower ho27 (below_size HW.zb)); have n7_ := Aside0.mk (blk_below (g := gb502) (o := .cells #[.int .i64 t486, .string t487, .string t488, .int .i64 t489, .int .u64 t490, .int .u64 t491, .slice Ao24 t492.length co24, .slice Ao25 t495.length co25] 44 (0, 0)) (by (with_reducible repeat (first | refine blk_drewN ?_ _ | refine blk_drew ?_ | refine blk_alloc ?_ _)); refine blk_put (cs := #[.int .i64 t486, .string t487, .string t488, .int .i64 t489, .int .u64 t490, .int .u64 t491, .slice Ao24 t492.length co24, .slice none 0 0]) ?_ 7 _ rfl; (with_reducible repeat (first | refine blk_drewN ?_ _ | refine blk_drew ?_ | refine blk_alloc ?_ _)); refine blk_put (cs := #[.int .i64 t486, .string t487, .string t488, .int .i64 t489, .int .u64 t490, .int .u64 t491, .slice none 0 0, .slice none 0 0]) ?_ 6 _ rfl; (with_reducible repeat (first | refine blk_drewN ?_ _ | refine blk_drew ?_ | refine blk_alloc ?_ _)); refine blk_put (cs := #[.int .i64 t486, .string t487, .string t488, .int .i64 t489, .int .u64 t490, .int .u64 0, .slice none 0 0, .slice none 0 0]) ?_ 5 _ rfl; (with_reducible repeat (first | refine blk_drewN ?_ _ | refine blk_drew ?_ | refine blk_alloc ?_ _)); refine blk_put (cs := #[.int .i64 t486, .string t487, .string t488, .int .i64 t489, .int .u64 0, .int .u64 0, .slice none 0 0, .slice none 0 0]) ?_ 4 _ rfl; (with_reducible repeat (first | refine blk_drewN ?_ _ | refine blk_drew ?_ | refine blk_alloc ?_ _)); refine blk_put (cs := #[.int .i64 t486, .string t487, .string t488, .int .i64 0, .int .u64 0, .int .u64 0, .slice none 0 0, .slice none 0 0]) ?_ 3 _ rfl; (with_reducible repeat (first | refine blk_drewN ?_ _ | refine blk_drew ?_ | refine blk_alloc ?_ _)); refine blk_put (cs := #[.int .i64 t486, .string t487, .string (⟨#[]⟩ : ByteArray), .int .i64 0, .int .u64 0, .int .u64 0, .slice none 0 0, .slice none 0 0]) ?_ 2 _ rfl; (with_reducible repeat (first | refine blk_drewN ?_ _ | refine blk_drew ?_ | refine blk_alloc ?_ _)); refine blk_put (cs := #[.int .i64 t486, .string (⟨#[]⟩ : ByteArray), .string (⟨#[]⟩ : ByteArray), .int .i64 0, .int .u64 0, .int .u64 0, .slice none 0 0, .slice none 0 0]) ?_ 1 _ rfl; (with_reducible repeat (first | refine blk_drewN ?_ _ | refine blk_drew ?_ | refine blk_alloc ?_ _)); refine blk_put (cs := #[.int .i64 0, .string (⟨#[]⟩ : ByteArray), .string (⟨#[]⟩ : ByteArray), .int .i64 0, .int .u64 0, .int .u64 0, .slice none 0 0, .slice none 0 0]) ?_ 0 _ rfl; (with_reducible repeat (first | refine blk_drewN ?_ _ | refine blk_drew ?_ | refine blk_alloc ?_ _)); exact BK502.out) hb); have n8_ := Aside0.mk (below_step HW.zb hb); clear HO479; clear HO482; clear HO485; clear HO494; clear HO497; clear HO500; clear BK502; clear HB; have HO479 := n0_; have HO482 := n1_; have HO485 := n2_; have HO494 := n3_; have HO497 := n4_; have HO500 := n5_; have HO505 := n6_; have BK502 := n7_; have HB := n8_; clear n0_ n1_ n2_ n3_ n4_ n5_ n6_ n7_ n8_; clear hb ho27; obtain ⟨Ao28, co28, eo28⟩ := Kd.R_slice HO482.out; subst eo28; obtain ⟨Ao29, co29, eo29⟩ := Kd.R_slice HO505.out; subst eo29) | ((with_reducible refine gate_callee (f := 45) rfl ?_); refine HW.gz (some 20) rfl rfl Tryz.func45 (by kernel_rfl) rfl #[.slice Ao28 t480.length co28, .slice Ao29 y503.length co29] rfl ?_; (with_reducible refine (impl_Lookup.calls k _ _ t480 _ _ y503 t506 t507 t510 _ ?side1 ?side2 ?side3 ?side4 A3.out).mono ?_); (case side1 => repeat (first | exact (Kd.R_reads' HO482.out).2.2 | (with_reducible refine Kd.C_alloc ?_ _) | (with_reducible refine Kd.C_drewN ?_ _) | (with_reducible refine Kd.C_drew ?_))); (case side2 => exact (Kd.R_reads' HO482.out).2.1); (case side3 => repeat (first | exact (Kd.R_reads' HO505.out).2.2 | (with_reducible refine Kd.C_alloc ?_ _) | (with_reducible refine Kd.C_drewN ?_ _) | (with_reducible refine Kd.C_drew ?_))); (case side4 => exact (Kd.R_reads' HO505.out).2.1); rintro e w30 ⟨v508, rfl, ho0, hb⟩; refine ⟨_, rfl, ?_⟩; have n0_ := Aside0.mk (Kd.R_elder' (HW.zR HO479.out) (Kd.R_base ho0) hb); have n1_ := Aside0.mk (Kd.R_elder' (HW.zR HO482.out) (Kd.R_base ho0) hb); have n2_ := Aside0.mk (Kd.R_elder' (HW.zR HO485.out) (Kd.R_base ho0) hb); have n3_ := Aside0.mk (Kd.R_elder' (HW.zR HO494.out) (Kd.R_base ho0) hb); have n4_ := Aside0.mk (Kd.R_elder' (HW.zR HO497.out) (Kd.R_base ho0) hb); have n5_ := Aside0.mk (Kd.R_elder' (HW.zR HO500.out) (Kd.R_base ho0) hb); have n6_ := Aside0.mk (Kd.R_below (HW.zR HO505.out) hb); have n7_ := Aside0.mk (Kd.R_lower (Kd.R_new' (Kd.R_new' (Kd.R_new' (Kd.R_new' ho0 (Kd.R_lt (HW.zR HO482.out))) (Kd.R_lt (HW.zR HO485.out))) (Kd.R_lt (HW.zR HO494.out))) (Kd.R_lt (HW.zR HO500.out))) (below_size HW.zb)); have n8_ := Aside0.mk (blk_below (g := gb502) (o := .cells #[.int .i64 t486, .string t487, .string t488, .int .i64 t489, .int .u64 t490, .int .u64 t491, .slice Ao24 t492.length co24, .slice Ao25 t495.length co25] 44 (0, 0)) (HW.zB BK502.out) hb); have n9_ := Aside0.mk (below_step HW.zb hb); clear HO479; clear HO482; clear HO485; clear HO494; clear HO497; clear HO500; clear HO505; clear BK502; clear HB; have HO479 := n0_; have HO482 := n1_; have HO485 := n2_; have HO494 := n3_; have HO497 := n4_; have HO500 := n5_; have HO505 := n6_; have HO509 := n7_; have BK502 := n8_; have HB := n9_; clear n0_ n1_ n2_ n3_ n4_ n5_ n6_ n7_ n8_ n9_; (try clear hb); (try clear hb2); (try clear hk); (try clear hi); (try clear ho0)) | ((with_reducible refine gate_dst (N := 5) rfl ?_); (try (refine gate_guard (by rfl) ?_; dsimp only)); refine box_event ?hg (N := 5) ?hd (cs := #[.int .i64 0, .slice none 0 0]) (t := 38) ?hr ?_; (case hd => rfl); (case hg => rfl); (case hr => first | (go_simp; done) | (go_simp; rfl)); intro gb511 hg w31 hbox hb; have n0_ := Aside0.mk (Kd.R_below (HW.zR HO479.out) hb); have n1_ := Aside0.mk (Kd.R_below (HW.zR HO482.out) hb); have n2_ := Aside0.mk (Kd.R_below (HW.zR HO485.out) hb); have n3_ := Aside0.mk (Kd.R_below (HW.zR HO494.out) hb); have n4_ := Aside0.mk (Kd.R_below (HW.zR HO497.out) hb); have n5_ := Aside0.mk (Kd.R_below (HW.zR HO500.out) hb); have n6_ := Aside0.mk (Kd.R_below (HW.zR HO505.out) hb); have n7_ := Aside0.mk (Kd.R_below (HW.zR HO509.out) hb); have n8_ := Aside0.mk (blk_below (g := gb502) (o := .cells #[.int .i64 t486, .string t487, .string t488, .int .i64 t489, .int .u64 t490, .int .u64 t491, .slice Ao24 t492.length co24, .slice Ao25 t495.length co25] 44 (0, 0)) (HW.zB BK502.out) hb); have n9_ := Aside0.mk (below_step HW.zb hb); have n10_ := Aside0.mk (hbox); have n12_ := Aside0.mk ((by rw [hg]; exact (below_size HW.zb) : w.heap.size ≤ gb511)); have n13_ := Aside0.mk ((by rw [hg]; exact Nat.ne_of_lt (blk_lt (g := gb502) (o := .cells #[.int .i64 t486, .string t487, .string t488, .int .i64 t489, .int .u64 t490, .int .u64 t491, .slice Ao24 t492.length co24, .slice Ao25 t495.length co25] 44 (0, 0)) (HW.zB BK502.out)) : gb502 ≠ gb511)); have n14_ := Aside0.mk ((by rw [hg]; exact Nat.ne_of_gt (blk_lt (g := gb502) (o := .cells #[.int .i64 t486, .string t487, .string t488, .int .i64 t489, .int .u64 t490, .int .u64 t491, .slice Ao24 t492.length co24, .slice Ao25 t495.length co25] 44 (0, 0)) (HW.zB BK502.out)) : gb511 ≠ gb502)); clear HO479; clear HO482; clear HO485; clear HO494; clear HO497; clear HO500; clear HO505; clear HO509; clear BK502; clear HB; have HO479 := n0_; have HO482 := n1_; have HO485 := n2_; have HO494 := n3_; have HO497 := n4_; have HO500 := n5_; have HO505 := n6_; have HO509 := n7_; have BK502 := n8_; have HB := n9_; have BK511 := n10_; have GE511 := n12_; have NB502_511 := n13_; have NB511_502 := n14_; clear n0_ n1_ n2_ n3_ n4_ n5_ n6_ n7_ n8_ n9_ n10_ n12_ n13_ n14_; clear hb hbox hg; have hnb32 := NB511_502.out; have hnc32 := NB502_511.out; have hcz33_0 := HW.zc BK511.out 0 (.int .i64 0); have hcz33_1 := HW.zc BK511.out 1 (.slice none 0 0); have hfz34_0 := blk_frozen BK511.out 0; have hfz34_1 := blk_frozen BK511.out 1; obtain ⟨Ao35, co35, eo35⟩ := Kd.R_slice HO509.out; subst eo35) | ((with_reducible refine gate_store (t := 38) (p := 5) rfl ?_); refine store_event (t := 38) (p := 5) (v := ?vo_w36) (w1 := ((w31.setCell ⟨gb511, 0, none⟩ (.int .i64 t506)).setCell ⟨gb511, 1, none⟩ (.slice Ao35 t507.length co35))) ?hg ?ho ?hn ?hr ?_; (case ho => rfl); (case hg => rfl); (case hn => rfl); (case hr => first | (go_simp; done) | (go_simp; rfl)); intro w36 hw; have n0_ : Aside0 (Kd.R k95 95 w36 w.heap.size (fun k_ => some k_ ≠ (.slice Ao28 t480.length co28 : Value).ownBlock ∧ some k_ ≠ (.slice Ao19 y483.length co19 : Value).ownBlock ∧ some k_ ≠ (.slice Ao24 t492.length co24 : Value).ownBlock ∧ some k_ ≠ (.slice Ao25 t495.length co25 : Value).ownBlock ∧ some k_ ≠ (v499 : Value).ownBlock ∧ some k_ ≠ (.slice Ao35 t507.length co35 : Value).ownBlock) (.slice Ao15 y477.length co15) y477) := ⟨(by rw [hw]; exact (by (with_reducible repeat (first | apply Kd.R_alloc | apply Kd.R_drewN | apply Kd.R_drew)); exact Kd.R_mono (Kd.R_far (p := ⟨gb511, 1, none⟩) (Kd.R_far (p := ⟨gb511, 0, none⟩) (Kd.R_types HO479.out BK511.out (by decide)) (fun _ hk => hk.2) (.int .i64 t506)) (fun _ hk => hk.2) (.slice Ao35 t507.length co35)) (fun _ hk => ⟨hk.1.1.1.1.1.1.2, ⟨hk.1.1.1.1.1.2, ⟨hk.1.1.1.1.2, ⟨hk.1.1.1.2, ⟨hk.1.1.2, hk.1.2⟩⟩⟩⟩⟩)))⟩; have n1_ : Aside0 (Kd.R (Kd.int .u8) 5 w36 w.heap.size (fun k_ => some k_ ≠ (.slice Ao19 y483.length co19 : Value).ownBlock ∧ some k_ ≠ (.slice Ao24 t492.length co24 : Value).ownBlock ∧ some k_ ≠ (v499 : Value).ownBlock ∧ some k_ ≠ (.slice Ao35 t507.length co35 : Value).ownBlock) (.slice Ao28 t480.length co28) t480) := ⟨(by rw [hw]; exact (by (with_reducible repeat (first | apply Kd.R_alloc | apply Kd.R_drewN | apply Kd.R_drew)); exact Kd.R_mono (Kd.R_far (p := ⟨gb511, 1, none⟩) (Kd.R_far (p := ⟨gb511, 0, none⟩) (Kd.R_types HO482.out BK511.out (by decide)) (fun _ hk => hk.2) (.int .i64 t506)) (fun _ hk => hk.2) (.slice Ao35 t507.length co35)) (fun _ hk => ⟨hk.1.1.1.1.2, ⟨hk.1.1.1.2, ⟨hk.1.1.2, hk.1.2⟩⟩⟩)))⟩; have n2_ : Aside0 (Kd.R (Kd.int .u8) 5 w36 w.heap.size (fun k_ => some k_ ≠ (.slice Ao28 t480.length co28 : Value).ownBlock ∧ some k_ ≠ (.slice Ao24 t492.length co24 : Value).ownBlock ∧ some k_ ≠ (v499 : Value).ownBlock ∧ some k_ ≠ (.slice Ao35 t507.length co35 : Value).ownBlock) (.slice Ao19 y483.length co19) y483) := ⟨(by rw [hw]; exact (by (with_reducible repeat (first | apply Kd.R_alloc | apply Kd.R_drewN | apply Kd.R_drew)); exact Kd.R_mono (Kd.R_far (p := ⟨gb511, 1, none⟩) (Kd.R_far (p := ⟨gb511, 0, none⟩) (Kd.R_types HO485.out BK511.out (by decide)) (fun _ hk => hk.2) (.int .i64 t506)) (fun _ hk => hk.2) (.slice Ao35 t507.length co35)) (fun _ hk => ⟨hk.1.1.1.1.2, ⟨hk.1.1.1.2, ⟨hk.1.1.2, hk.1.2⟩⟩⟩)))⟩; have n3_ : Aside0 (Kd.R (Kd.int .u8) 5 w36 w.heap.size (fun k_ => some k_ ≠ (.slice Ao28 t480.length co28 : Value).ownBlock ∧ some k_ ≠ (.slice Ao19 y483.length co19 : Value).ownBlock ∧ some k_ ≠ (v499 : Value).ownBlock ∧ some k_ ≠ (.slice Ao35 t507.length co35 : Value).ownBlock) (.slice Ao24 t492.length co24) t492) := ⟨(by rw [hw]; exact (by (with_reducible repeat (first | apply Kd.R_alloc | apply Kd.R_drewN | apply Kd.R_drew)); exact Kd.R_mono (Kd.R_far (p := ⟨gb511, 1, none⟩) (Kd.R_far (p := ⟨gb511, 0, none⟩) (Kd.R_types HO494.out BK511.out (by decide)) (fun _ hk => hk.2) (.int .i64 t506)) (fun _ hk => hk.2) (.slice Ao35 t507.length co35)) (fun _ hk => ⟨hk.1.1.1.2, ⟨hk.1.1.2, ⟨hk.1.1.1.1, hk.1.2⟩⟩⟩)))⟩; have n4_ : Aside0 (Kd.R k95 95 w36 w.heap.size (fun k_ => some k_ ≠ (.slice Ao15 y477.length co15 : Value).ownBlock ∧ some k_ ≠ (.slice Ao28 t480.length co28 : Value).ownBlock ∧ some k_ ≠ (.slice Ao19 y483.length co19 : Value).ownBlock ∧ some k_ ≠ (.slice Ao24 t492.length co24 : Value).ownBlock ∧ some k_ ≠ (v499 : Value).ownBlock ∧ some k_ ≠ (.slice Ao35 t507.length co35 : Value).ownBlock) (.slice Ao25 t495.length co25) t495) := ⟨(by rw [hw]; exact (by (with_reducible repeat (first | apply Kd.R_alloc | apply Kd.R_drewN | apply Kd.R_drew)); exact Kd.R_mono (Kd.R_far (p := ⟨gb511, 1, none⟩) (Kd.R_far (p := ⟨gb511, 0, none⟩) (Kd.R_types HO497.out BK511.out (by decide)) (fun _ hk => hk.2) (.int .i64 t506)) (fun _ hk => hk.2) (.slice Ao35 t507.length co35)) (fun _ hk => ⟨hk.1.1.1.1.2, ⟨hk.1.1.1.2, ⟨hk.1.1.2, ⟨hk.1.1.1.1.1.1, ⟨hk.1.1.1.1.1.2, hk.1.2⟩⟩⟩⟩⟩)))⟩; have n5_ : Aside0 (Kd.R (Kd.int .u8) 5 w36 w.heap.size (fun k_ => some k_ ≠ (.slice Ao28 t480.length co28 : Value).ownBlock ∧ some k_ ≠ (.slice Ao19 y483.length co19 : Value).ownBlock ∧ some k_ ≠ (.slice Ao24 t492.length co24 : Value).ownBlock ∧ some k_ ≠ (.slice Ao35 t507.length co35 : Value).ownBlock) v499 t498) := ⟨(by rw [hw]; exact (by (with_reducible repeat (first | apply Kd.R_alloc | apply Kd.R_drewN | apply Kd.R_drew)); exact Kd.R_mono (Kd.R_far (p := ⟨gb511, 1, none⟩) (Kd.R_far (p := ⟨gb511, 0, none⟩) (Kd.R_types HO500.out BK511.out (by decide)) (fun _ hk => hk.2) (.int .i64 t506)) (fun _ hk => hk.2) (.slice Ao35 t507.length co35)) (fun _ hk => ⟨hk.1.1.1.2, ⟨hk.1.1.2, ⟨hk.1.1.1.1, hk.1.2⟩⟩⟩)))⟩; have n6_ : Aside0 (Kd.R Kd.string 9 w36 w.heap.size (fun _ => True) (.slice Ao29 y503.length co29) y503) := ⟨(by rw [hw]; exact (by (with_reducible repeat (first | apply Kd.R_alloc | apply Kd.R_drewN | apply Kd.R_drew)); exact Kd.R_mono (Kd.R_far (p := ⟨gb511, 1, none⟩) (Kd.R_far (p := ⟨gb511, 0, none⟩) (Kd.R_types HO505.out BK511.out (by decide)) (fun _ hk => hk.2) (.int .i64 t506)) (fun _ hk => hk.2) (.slice Ao35 t507.length co35)) (fun _ hk => trivial)))⟩; have n7_ : Aside0 (Kd.R (Kd.int .u8) 5 w36 w.heap.size (fun k_ => some k_ ≠ (.slice Ao28 t480.length co28 : Value).ownBlock ∧ some k_ ≠ (.slice Ao19 y483.length co19 : Value).ownBlock ∧ some k_ ≠ (.slice Ao24 t492.length co24 : Value).ownBlock ∧ some k_ ≠ (v499 : Value).ownBlock) (.slice Ao35 t507.length co35) t507) := ⟨(by rw [hw]; exact (by (with_reducible repeat (first | apply Kd.R_alloc | apply Kd.R_drewN | apply Kd.R_drew)); exact Kd.R_mono (Kd.R_far (p := ⟨gb511, 1, none⟩) (Kd.R_far (p := ⟨gb511, 0, none⟩) (Kd.R_types HO509.out BK511.out (by decide)) (fun _ hk => hk.2) (.int .i64 t506)) (fun _ hk => hk.2) (.slice Ao35 t507.length co35)) (fun _ hk => ⟨hk.1.1.1.1.2, ⟨hk.1.1.1.2, ⟨hk.1.1.2, hk.1.2⟩⟩⟩)))⟩; have n8_ : Aside0 (w36.heap[gb502]? = some (.cells #[.int .i64 t486, .string t487, .string t488, .int .i64 t489, .int .u64 t490, .int .u64 t491, .slice Ao24 t492.length co24, .slice Ao25 t495.length co25] 44 (0, 0))) := ⟨(by rw [hw]; exact (by (with_reducible repeat (first | refine blk_drewN ?_ _ | refine blk_drew ?_ | refine blk_alloc ?_ _)); refine blk_far ?_ NB502_511.out _; (with_reducible repeat (first | refine blk_drewN ?_ _ | refine blk_drew ?_ | refine blk_alloc ?_ _)); refine blk_far ?_ NB502_511.out _; (with_reducible repeat (first | refine blk_drewN ?_ _ | refine blk_drew ?_ | refine blk_alloc ?_ _)); exact BK502.out))⟩; have n9_ : Aside0 (w36.heap[gb511]? = some (.cells #[.int .i64 t506, .slice Ao35 t507.length co35] 38 (0, 0))) := ⟨(by rw [hw]; exact (by (with_reducible repeat (first | refine blk_drewN ?_ _ | refine blk_drew ?_ | refine blk_alloc ?_ _)); refine blk_put (cs := #[.int .i64 t506, .slice none 0 0]) ?_ 1 _ rfl; (with_reducible repeat (first | refine blk_drewN ?_ _ | refine blk_drew ?_ | refine blk_alloc ?_ _)); refine blk_put (cs := #[.int .i64 0, .slice none 0 0]) ?_ 0 _ rfl; (with_reducible repeat (first | refine blk_drewN ?_ _ | refine blk_drew ?_ | refine blk_alloc ?_ _)); exact BK511.out))⟩; have n10_ : Aside0 (Below w.heap.size w w36) := ⟨(by rw [hw]; exact HW.zb)⟩; clear hw; clear HO479; clear HO482; clear HO485; clear HO494; clear HO497; clear HO500; clear HO505; clear HO509; clear BK502; clear BK511; clear HB; have HO479 := n0_; have HO482 := n1_; have HO485 := n2_; have HO494 := n3_; have HO497 := n4_; have HO500 := n5_; have HO505 := n6_; have HO509 := n7_; have BK502 := n8_; have BK511 := n9_; have HB := n10_; clear n0_ n1_ n2_ n3_ n4_ n5_ n6_ n7_ n8_ n9_ n10_; have hcv37 := own_string (P := Tryz.prog) Tryz.underlying22 Tryz.underlying5 Tryz.underlying9 (Kd.own_of_R HO482.out); have hcz38_0 := HW.zc BK502.out 0 (.int .i64 t486); have hcz38_1 := HW.zc BK502.out 1 (.string t487); have hcz38_2 := HW.zc BK502.out 2 (.string t488); have hcz38_3 := HW.zc BK502.out 3 (.int .i64 t489); have hcz38_4 := HW.zc BK502.out 4 (.int .u64 t490); have hcz38_5 := HW.zc BK502.out 5 (.int .u64 t491); have hcz38_6 := HW.zc BK502.out 6 (.slice Ao24 t492.length co24); have hcz38_7 := HW.zc BK502.out 7 (.slice Ao25 t495.length co25); obtain ⟨Ao39, co39, eo39⟩ := Kd.R_slice HO500.out; subst eo39; have hcz40_0 := HW.zc BK511.out 0 (.int .i64 t506); have hcz40_1 := HW.zc BK511.out 1 (.slice Ao35 t507.length co35); have q41 : (11 : Int) ≤ ((t480.length : Int) : Int) := of_decide_eq_true (by first | (with_reducible assumption) | assumption); obtain ⟨i041, hi041, _, hsz41, _⟩ := info_parts info5; have hroom41 : t480.length ≤ co28 := (Kd.R_reads' HO482.out).2.1; have hC41 : Kd.C (Kd.int .u8) _ Ao28 t480.length t480 := (Kd.R_reads' HO482.out).2.2; have hcut41 := cut_to (P := Tryz.prog) 22 5 .i64 Tryz.underlying22 hi041 Ao28 t480.length co28 11 (by omega) q41 hroom41; have hr41 := Kd.C_take (m := 11) hC41 (by omega); have hy41 : y512.length = (11 : Int).toNat := (by rw [Ny512.out, List.length_take]; omega); rw [← Ny512.out] at hr41; rw [← hy41] at hcut41; have HR515 := Aside0.mk hr41; have HC515 := Aside0.mk (show y512.length ≤ co28 from by omega); clear hr41 hC41 hroom41 hi041 hsz41; have KY41 := Aside0.mk hy41; clear hy41; have KL41 := Aside0.mk (show 11 ≤ t480.length from by omega); replace q41 := eq_true q41) | (go_at_call 57; (with_reducible refine (impl_Validate.calls _ _ y512 t516 _ ?side1 ?side2 A12.out).mono ?_); (case side1 => repeat (first | exact (by repeat (first | (with_reducible exact HR515.out) | (with_reducible refine Kd.C_alloc ?_ _) | (with_reducible refine Kd.C_drewN ?_ _) | (with_reducible refine Kd.C_drew ?_) | exact HR515.out)) | (with_reducible refine Kd.C_alloc ?_ _) | (with_reducible refine Kd.C_drewN ?_ _) | (with_reducible refine Kd.C_drew ?_))); (case side2 => exact HC515.out); rintro e w42 ⟨rfl, hb⟩; have n11_ := Aside0.mk (below_step HW.zb hb); clear HB; have HB := n11_; clear n11_; (try clear hb); (try clear hb2); (try clear hk); (try clear hi)))
    go_ret
    exact ⟨by first | rfl | (simp [errW_none, errW_some] <;> rfl) | (simp [*, errW_none, errW_some] <;> rfl), HW.zb⟩

end Go.Proofs.YtanecebppagakaaGreatDoor.PAh
