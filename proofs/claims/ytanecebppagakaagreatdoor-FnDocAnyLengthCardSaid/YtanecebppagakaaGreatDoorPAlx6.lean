/- Printed by a program of this session (a turned copy of the printer of the kit): contracts of functions of the translation, each with the Lean function that it computes. Conditions: as each theorem states them. -/
import Derived.Test.YtanecebppagakaaGreatDoorPAlx0
import Derived.Test.YtanecebppagakaaGreatDoorPAlx1
import Derived.Test.YtanecebppagakaaGreatDoorPAlx5
namespace Go.Proofs.YtanecebppagakaaGreatDoor.PAl
open Go.RowKit Go.Proofs.YtanecebppagakaaGreatDoorW.PrintWords Go.Proofs.YtanecebppagakaaGreatDoorW.PrintLast Go.Proofs.YtanecebppagakaaGreatDoorW.PrintMore
attribute [local go_sem] max2_int min2_int max_two min_two max_three min_three max_four min_four   -- for this text's walks alone
set_option linter.unusedVariables false
set_option linter.unusedSimpArgs false

/-! ### bsoncore_AppendHeader: function 175 -/
def bsoncore_AppendHeader.f (l0 : List Int) (a1 : Int) (a2 : ByteArray) : Option (List Int) := (bsoncore_isValidCString.f a2).bind fun t383 => (if t383 = true then ((bsoncore_AppendType.f l0 a1).bind fun t384 => (if t384.length + a2.size < 140737488355328 then ((some (t384 ++ bytesOf a2 : List Int)).bind fun y387 => (if y387.length < 140737488355328 then (some (y387 ++ [0])) else (none))) else (none))) else (none))
set_option maxHeartbeats 8000000 in
set_option maxRecDepth 100000 in
theorem bsoncore_AppendHeader.calls (P0_ : Nat → Prop) (u9000_ : Value) (l0 : List Int) (a1 : Int) (a2 : ByteArray) (r : List Int) (w0 w : World) (hB : Below w0.heap.size w0 w) (ho0 : Kd.R (Kd.int .u8) 5 w w0.heap.size P0_ u9000_ l0) (h : bsoncore_AppendHeader.f l0 a1 a2 = some r) :
    Calls Tryz.prog 175 #[u9000_, .int .u8 a1, .string a2] w fun e w' => ∃ v0_ : Value, e = .returned (v0_) ∧ Kd.R (Kd.int .u8) 5 w' w0.heap.size (fun k_ => (P0_ k_ ∨ w.heap.size ≤ k_)) v0_ r ∧ Below w0.heap.size w0 w' ∧ Kept w w' (fun k_ => P0_ k_) := by
  have HO0 := Aside0.mk (show Kd.R (Kd.int .u8) 5 w w0.heap.size (fun k_ => (P0_ k_ ∨ w.heap.size ≤ k_)) u9000_ l0 from Kd.R_mono ho0 (fun k_ hk => (.inl hk)))
  have HK := Aside0.mk (Kept.refl w (fun k_ => P0_ k_))
  have HW0 := Aside0.mk hB.size
  have HB := Aside0.mk hB
  clear hB
  have H : ((bsoncore_isValidCString.f a2).bind fun t383 => (if t383 = true then ((bsoncore_AppendType.f l0 a1).bind fun t384 => (if t384.length + a2.size < 140737488355328 then ((some (t384 ++ bytesOf a2 : List Int)).bind fun y387 => (if y387.length < 140737488355328 then (some (y387 ++ [0])) else (none))) else (none))) else (none))) = some r := h
  clear h
  replace H := Option.bind_eq_some_iff.mp H
  obtain ⟨t383, A40, H⟩ := H
  replace H : (if t383 = true then ((bsoncore_AppendType.f l0 a1).bind fun t384 => (if t384.length + a2.size < 140737488355328 then ((some (t384 ++ bytesOf a2 : List Int)).bind fun y387 => (if y387.length < 140737488355328 then (some (y387 ++ [0])) else (none))) else (none))) else (none)) = some r := H
  have A4 := Aside0.mk A40
  clear A40
  by_cases c5 : t383 = true
  rotate_left
  · replace c5 := Bool.eq_false_iff.mpr c5
    subst c5
    have H1 : (none) = some r := by rw [if_neg (show ¬ (false = true) by decide)] at H; exact H
    clear H
    have H := H1
    clear H1
    exact absurd H (by simp)
  subst c5
  have H1 : ((bsoncore_AppendType.f l0 a1).bind fun t384 => (if t384.length + a2.size < 140737488355328 then ((some (t384 ++ bytesOf a2 : List Int)).bind fun y387 => (if y387.length < 140737488355328 then (some (y387 ++ [0])) else (none))) else (none))) = some r := by rw [if_pos rfl] at H; exact H
  clear H
  have H := H1
  clear H1
  replace H := Option.bind_eq_some_iff.mp H
  obtain ⟨t384, A60, H⟩ := H
  replace H : (if t384.length + a2.size < 140737488355328 then ((some (t384 ++ bytesOf a2 : List Int)).bind fun y387 => (if y387.length < 140737488355328 then (some (y387 ++ [0])) else (none))) else (none)) = some r := H
  have A6 := Aside0.mk A60
  clear A60
  by_cases c7 : t384.length + a2.size < 140737488355328
  rotate_left
  · rw [if_neg c7] at H
    exact absurd H (by simp)
  rw [if_pos c7] at H
  have LMc7 := Aside0.mk c7
  clear c7
  obtain ⟨y387, hy387⟩ : ∃ y_ : List Int, y_ = (t384 ++ bytesOf a2) := ⟨_, rfl⟩
  replace H : (if y387.length < 140737488355328 then (some (y387 ++ [0])) else (none)) = some r := by first | (rw [hy387]; with_reducible exact H) | (have H2_ := (Option.bind_some _ _).symm.trans H; rw [hy387]; with_reducible exact H2_) | (have H2_ := (Option.bind_some _ _).symm.trans H; with_reducible exact H2_) | with_reducible exact H | (rw [hy387]; exact H) | exact H
  have Ny387 := Aside0.mk hy387
  clear hy387
  by_cases c8 : y387.length < 140737488355328
  rotate_left
  · rw [if_neg c8] at H
    exact absurd H (by simp)
  rw [if_pos c8] at H
  have LMc8 := Aside0.mk c8
  clear c8
  obtain ⟨y390, hy390⟩ : ∃ y_ : List Int, y_ = (y387 ++ [0]) := ⟨_, rfl⟩
  replace H : (some y390) = some r := by first | (rw [hy390]; with_reducible exact H) | (have H2_ := (Option.bind_some _ _).symm.trans H; rw [hy390]; with_reducible exact H2_) | (have H2_ := (Option.bind_some _ _).symm.trans H; with_reducible exact H2_) | with_reducible exact H | (rw [hy390]; exact H) | exact H
  have Ny390 := Aside0.mk hy390
  clear hy390
  as_aux_lemma =>
    obtain rfl := Option.some.inj H
    go_enter Tryz.func175, Tryz.ntmps175
    go_wp2_with (first | ((with_reducible refine gate_callee (f := 203) rfl ?_); refine HW.gz (some 8) rfl rfl Tryz.func203 (by kernel_rfl) rfl #[.string a2] rfl ?_; (with_reducible refine (bsoncore_isValidCString.calls a2 true _ A4.out).mono ?_); rintro e w9 ⟨rfl, hb⟩; refine ⟨_, rfl, ?_⟩; have n0_ := Aside0.mk (Kd.R_below (HW.zR HO0.out) hb); have n1_ := Aside0.mk (Kept.below (S := (fun k_ => P0_ k_)) HW.zk hb); have n2_ := Aside0.mk (below_step HW.zb hb); clear HO0; clear HK; clear HB; have HO0 := n0_; have HK := n1_; have HB := n2_; clear n0_ n1_ n2_; (try clear hb); (try clear hb2); (try clear hk); (try clear hi); obtain ⟨Ao10, co10, eo10⟩ := Kd.R_slice HO0.out; subst eo10) | ((with_reducible refine gate_callee (f := 204) rfl ?_); refine HW.gz (some 13) rfl rfl Tryz.func204 (by kernel_rfl) rfl #[.slice Ao10 l0.length co10, .int .u8 a1] rfl ?_; (with_reducible refine (bsoncore_AppendType.calls (fun k_ => some k_ = (.slice Ao10 l0.length co10 : Value).ownBlock) (.slice Ao10 l0.length co10) l0 a1 t384 w0 _ ?side1 ?side2 A6.out).mono ?_); (case side1 => exact HW.zb); (case side2 => exact Kd.R_tight rfl HO0.out); rintro e w11 ⟨v385, rfl, ho0, hb, hkp⟩; refine ⟨_, rfl, ?_⟩; have n0_ := Aside0.mk (Kd.R_mono (ok' := fun k_ => (P0_ k_ ∨ w.heap.size ≤ k_)) ho0 (fun k_ hk_ => Or.elim hk_ (fun hs_ => (HO0.out.1 k_ (hs_).symm)) (fun hn_ => (.inr (Nat.le_trans (HW.zk1 (w := w) (fun k_ => P0_ k_)) hn_))))); have n1_ := Aside0.mk (Kept.then_ (S := (fun k_ => P0_ k_)) HW.zk hkp (fun k_ hs_ => (fun e_ => (HO0.out.1 k_ e_.symm)) hs_)); have n2_ := Aside0.mk (hb); clear HK; clear HB; clear HO0; have HO386 := n0_; have HK := n1_; have HB := n2_; clear n0_ n1_ n2_; (try clear hb); (try clear hkp); (try clear ho0)) | (at_builtin; refine HW.R_append_str (w0 := w0) w0.heap.size rfl (.tmp 14) _ 22 9 5 rfl Tryz.underlying22 Tryz.underlying9 info5 v385 t384 a2 (fun k_ => (P0_ k_ ∨ w.heap.size ≤ k_)) rfl rfl ?aO ?aF ?aB ?aS ?aL ?_; (case aB => exact HW.zb); (case aF => exact (fun k_ hk => (.inr (Nat.le_trans (HW.zk1 (w := w) (fun k_ => P0_ k_)) hk)))); (case aO => exact (HW.zR HO386.out)); (case aS => exact (below_size HW.zb)); (case aL => have := LMc7.out; omega); intro v388 w12 ho hb hg hat; rw [← Ny387.out] at ho; have n0_ := Aside0.mk (hb); have n1_ := Aside0.mk (Kept.of_grown (S := (fun k_ => P0_ k_)) hg HW.zk (fun k_ e_ => (HO386.out.1 k_ e_))); have n2_ := Aside0.mk (ho); clear HB; clear HK; clear HO386; have HB := n0_; have HK := n1_; have HO389 := n2_; clear n0_ n1_ n2_; clear ho hb hg hat) | ((with_reducible refine gate_builtin (b := .append) (xs := #[.tmp 17, .tmp 18]) rfl ?_); at_builtin; refine Kd.R_append (Kd.int .u8) (w0 := w0) w0.heap.size rfl (.tmp 17) (.tmp 18) 22 5 (.int .u8 0) 1 rfl Tryz.underlying22 info5 rfl (by decide) (by omega) v388 y387 0 [.int .u8 0] (fun k_ => (P0_ k_ ∨ w.heap.size ≤ k_)) (fun _ => False) rfl rfl ?aP (fun _ hk => hk.elim) ?aF ?aO ?aB ?aS ?aL ?_; (case aP => exact rfl); (case aB => exact HW.zb); (case aF => exact (fun k_ hk => (.inr (Nat.le_trans (HW.zk1 (w := w) (fun k_ => P0_ k_)) hk)))); (case aO => exact (HW.zR HO389.out)); (case aS => exact (below_size HW.zb)); (case aL => have := LMc8.out; omega); intro v391 w13 ho hb hg hat; rw [← Ny390.out] at ho; have n0_ := Aside0.mk (hb); have n1_ := Aside0.mk (Kept.of_grown (S := (fun k_ => P0_ k_)) hg HW.zk (fun k_ e_ => (HO389.out.1 k_ e_))); have n2_ := Aside0.mk (ho); clear HB; clear HK; clear HO389; have HB := n0_; have HK := n1_; have HO392 := n2_; clear n0_ n1_ n2_; clear ho hb hg hat))
    go_ret
    exact ⟨_, by first | rfl | (simp [errW_none, errW_some] <;> rfl) | (simp [*, errW_none, errW_some] <;> rfl), HW.zR HO392.out, HW.zb, HW.zk⟩

/-! ### binaryutil_Append32_int32: function 252 -/
def binaryutil_Append32_int32.f (l0 : List Int) (a1 : Int) : Option (List Int) := (some (([(a1) % 256, (a1 / 256) % 256, (a1 / 65536) % 256, (a1 / 16777216) % 256] : List Int) : List Int)).bind fun y393 => (if l0.length + y393.length < 140737488355328 then (some (l0 ++ y393)) else (none))
set_option maxHeartbeats 8000000 in
set_option maxRecDepth 100000 in
theorem binaryutil_Append32_int32.calls (P0_ : Nat → Prop) (u9000_ : Value) (l0 : List Int) (a1 : Int) (r : List Int) (w0 w : World) (hB : Below w0.heap.size w0 w) (ho0 : Kd.R (Kd.int .u8) 5 w w0.heap.size P0_ u9000_ l0) (h : binaryutil_Append32_int32.f l0 a1 = some r) :
    Calls Tryz.prog 252 #[u9000_, .int .i32 a1] w fun e w' => ∃ v0_ : Value, e = .returned (v0_) ∧ Kd.R (Kd.int .u8) 5 w' w0.heap.size (fun k_ => (P0_ k_ ∨ w.heap.size ≤ k_)) v0_ r ∧ Below w0.heap.size w0 w' ∧ Kept w w' (fun k_ => P0_ k_) := by
  have HO0 := Aside0.mk (show Kd.R (Kd.int .u8) 5 w w0.heap.size (fun k_ => (P0_ k_ ∨ w.heap.size ≤ k_)) u9000_ l0 from Kd.R_mono ho0 (fun k_ hk => (.inl hk)))
  have HK := Aside0.mk (Kept.refl w (fun k_ => P0_ k_))
  have HW0 := Aside0.mk hB.size
  have HB := Aside0.mk hB
  clear hB
  have H : ((some (([(a1) % 256, (a1 / 256) % 256, (a1 / 65536) % 256, (a1 / 16777216) % 256] : List Int) : List Int)).bind fun y393 => (if l0.length + y393.length < 140737488355328 then (some (l0 ++ y393)) else (none))) = some r := h
  clear h
  obtain ⟨y393, hy393⟩ : ∃ y_ : List Int, y_ = (([(a1) % 256, (a1 / 256) % 256, (a1 / 65536) % 256, (a1 / 16777216) % 256] : List Int)) := ⟨_, rfl⟩
  replace H : (if l0.length + y393.length < 140737488355328 then (some (l0 ++ y393)) else (none)) = some r := by first | (rw [hy393]; with_reducible exact H) | (have H2_ := (Option.bind_some _ _).symm.trans H; rw [hy393]; with_reducible exact H2_) | (have H2_ := (Option.bind_some _ _).symm.trans H; with_reducible exact H2_) | with_reducible exact H | (rw [hy393]; exact H) | exact H
  have Ny393 := Aside0.mk hy393
  clear hy393
  by_cases c3 : l0.length + y393.length < 140737488355328
  rotate_left
  · rw [if_neg c3] at H
    exact absurd H (by simp)
  rw [if_pos c3] at H
  have LMc3 := Aside0.mk c3
  clear c3
  obtain ⟨y396, hy396⟩ : ∃ y_ : List Int, y_ = (l0 ++ y393) := ⟨_, rfl⟩
  replace H : (some y396) = some r := by first | (rw [hy396]; with_reducible exact H) | (have H2_ := (Option.bind_some _ _).symm.trans H; rw [hy396]; with_reducible exact H2_) | (have H2_ := (Option.bind_some _ _).symm.trans H; with_reducible exact H2_) | with_reducible exact H | (rw [hy396]; exact H) | exact H
  have Ny396 := Aside0.mk hy396
  clear hy396
  as_aux_lemma =>
    obtain rfl := Option.some.inj H
    go_enter Tryz.func252, Tryz.ntmps252
    go_wp2_with (first | ((with_reducible refine gate_dst (N := 17) rfl ?_); refine Kd.R_lit (Kd.int .u8) _ 5 ?hg (N := 17) ?hd (xs := ([(a1) % 256, (a1 / 256) % 256, (a1 / 65536) % 256, (a1 / 16777216) % 256] : List Int)) (inner := [.int .u8 ((a1) % 256), .int .u8 ((a1 / 256) % 256), .int .u8 ((a1 / 65536) % 256), .int .u8 ((a1 / 16777216) % 256)]) (ok := fun _ => True) (okp := fun _ => True) ?hr ?hp (fun _ hk => hk) trivial (Below.refl _ _) (Nat.le_refl _) (by simp) ?_; (case hd => rfl); (case hg => rfl); (case hr => first | (go_simp; done) | (go_simp; rfl)); (case hp => exact (Reps.one (show Kd.M (Kd.int .u8) _ _ _ ((a1) % 256) [.int .u8 ((a1) % 256)] from rfl) (Reps.one (show Kd.M (Kd.int .u8) _ _ _ ((a1 / 256) % 256) [.int .u8 ((a1 / 256) % 256)] from rfl) (Reps.one (show Kd.M (Kd.int .u8) _ _ _ ((a1 / 65536) % 256) [.int .u8 ((a1 / 65536) % 256)] from rfl) (Reps.one (show Kd.M (Kd.int .u8) _ _ _ ((a1 / 16777216) % 256) [.int .u8 ((a1 / 16777216) % 256)] from rfl) (Reps.none _ _)))))); intro v394 w4 ho5 hb hg_ hnew_; clear hg_ hnew_; (first | rw [← Ny393.out] at ho5 | (simp only [Int.reduceToNat] at ho5; rw [← Ny393.out] at ho5)); have n0_ := Aside0.mk (Kd.R_elder' (HW.zR HO0.out) (Kd.R_base ho5) hb); have n1_ := Aside0.mk (Kd.R_lower (Kd.R_new' (Kd.R_newM (M := fun k_ => (P0_ k_ ∨ w.heap.size ≤ k_)) ho5 (HW.zk1 (w := w) (fun k_ => P0_ k_)) (fun k_ h_ => .inr h_)) (Kd.R_lt (HW.zR HO0.out))) (below_size HW.zb)); have n2_ := Aside0.mk (Kept.below (S := (fun k_ => P0_ k_)) HW.zk hb); have n3_ := Aside0.mk (below_step HW.zb hb); clear HO0; clear HK; clear HB; have HO0 := n0_; have HO395 := n1_; have HK := n2_; have HB := n3_; clear n0_ n1_ n2_ n3_; clear hb ho5; obtain ⟨Ao7, co7, eo7⟩ := Kd.R_slice HO395.out; subst eo7) | ((with_reducible refine gate_builtin (b := .append) (xs := #[.tmp 5, .tmp 17]) rfl ?_); at_builtin; refine Kd.R_append_rows (Kd.int .u8) (w0 := w0) w0.heap.size rfl (.tmp 5) (.tmp 17) 22 5 (.int .u8 0) 1 rfl Tryz.underlying22 info5 rfl (by decide) (by omega) u9000_ l0 y393 _ _ _ (fun k_ => (P0_ k_ ∨ w.heap.size ≤ k_) ∧ some k_ ≠ (.slice Ao7 y393.length co7 : Value).ownBlock) (fun _ => False) rfl rfl ?aO ?aR (fun _ _ h => h) (fun _ h => h.elim) ?aF ?aB ?aS ?aL ?_; (case aR => repeat (first | exact (Kd.R_reads' HO395.out).2.2 | (with_reducible refine Kd.C_alloc ?_ _) | (with_reducible refine Kd.C_drewN ?_ _) | (with_reducible refine Kd.C_drew ?_))); (case aB => exact HW.zb); (case aF => exact (fun k_ hk => ⟨(.inr (Nat.le_trans (HW.zk1 (w := w) (fun k_ => P0_ k_)) hk)), Kd.fresh' (Kd.R_lt (HW.zR HO395.out)) k_ hk⟩)); (case aO => exact (HW.zR HO0.out)); (case aS => exact (below_size HW.zb)); (case aL => have := LMc3.out; omega); intro v397 w6 ho hb hg hat; rw [← Ny396.out] at ho; have n1_ := Aside0.mk (hb); have n2_ := Aside0.mk (Kept.of_grown (S := (fun k_ => P0_ k_)) hg HW.zk (fun k_ e_ => (HO0.out.1 k_ e_).1)); have n3_ := Aside0.mk (ho); clear HB; clear HK; clear HO0; have HB := n1_; have HK := n2_; have HO398 := n3_; clear n1_ n2_ n3_; clear ho hb hg hat))
    go_ret
    exact ⟨_, by first | rfl | (simp [errW_none, errW_some] <;> rfl) | (simp [*, errW_none, errW_some] <;> rfl), by (with_reducible repeat (first | apply Kd.R_alloc | apply Kd.R_drewN | apply Kd.R_drew)); exact Kd.R_mono HO398.out (fun _ hk => hk.1), HW.zb, HW.zk⟩

/-! ### bsoncore_AppendInt32: function 238 -/
def bsoncore_AppendInt32.f (l0 : List Int) (a1 : Int) : Option (List Int) := (binaryutil_Append32_int32.f l0 a1).bind fun t399 => (some t399)
set_option maxHeartbeats 8000000 in
set_option maxRecDepth 100000 in
theorem bsoncore_AppendInt32.calls (P0_ : Nat → Prop) (u9000_ : Value) (l0 : List Int) (a1 : Int) (r : List Int) (w0 w : World) (hB : Below w0.heap.size w0 w) (ho0 : Kd.R (Kd.int .u8) 5 w w0.heap.size P0_ u9000_ l0) (h : bsoncore_AppendInt32.f l0 a1 = some r) :
    Calls Tryz.prog 238 #[u9000_, .int .i32 a1] w fun e w' => ∃ v0_ : Value, e = .returned (v0_) ∧ Kd.R (Kd.int .u8) 5 w' w0.heap.size (fun k_ => (P0_ k_ ∨ w.heap.size ≤ k_)) v0_ r ∧ Below w0.heap.size w0 w' ∧ Kept w w' (fun k_ => P0_ k_) := by
  have HO0 := Aside0.mk (show Kd.R (Kd.int .u8) 5 w w0.heap.size (fun k_ => (P0_ k_ ∨ w.heap.size ≤ k_)) u9000_ l0 from Kd.R_mono ho0 (fun k_ hk => (.inl hk)))
  have HK := Aside0.mk (Kept.refl w (fun k_ => P0_ k_))
  have HW0 := Aside0.mk hB.size
  have HB := Aside0.mk hB
  clear hB
  have H : ((binaryutil_Append32_int32.f l0 a1).bind fun t399 => (some t399)) = some r := h
  clear h
  replace H := Option.bind_eq_some_iff.mp H
  obtain ⟨t399, A30, H⟩ := H
  replace H : (some t399) = some r := H
  have A3 := Aside0.mk A30
  clear A30
  as_aux_lemma =>
    obtain rfl := Option.some.inj H
    obtain ⟨Ao4, co4, eo4⟩ := Kd.R_slice HO0.out
    subst eo4
    go_enter Tryz.func238, Tryz.ntmps238
    go_wp2_with (first | ((with_reducible refine gate_callee (f := 252) rfl ?_); refine HW.gz (some 7) rfl rfl Tryz.func252 (by kernel_rfl) rfl #[.slice Ao4 l0.length co4, .int .i32 a1] rfl ?_; (with_reducible refine (binaryutil_Append32_int32.calls (fun k_ => some k_ = (.slice Ao4 l0.length co4 : Value).ownBlock) (.slice Ao4 l0.length co4) l0 a1 t399 w0 _ ?side1 ?side2 A3.out).mono ?_); (case side1 => exact HW.zb); (case side2 => exact Kd.R_tight rfl HO0.out); rintro e w5 ⟨v400, rfl, ho0, hb, hkp⟩; refine ⟨_, rfl, ?_⟩; have n0_ := Aside0.mk (Kd.R_mono (ok' := fun k_ => (P0_ k_ ∨ w.heap.size ≤ k_)) ho0 (fun k_ hk_ => Or.elim hk_ (fun hs_ => (HO0.out.1 k_ (hs_).symm)) (fun hn_ => (.inr (Nat.le_trans (HW.zk1 (w := w) (fun k_ => P0_ k_)) hn_))))); have n1_ := Aside0.mk (Kept.then_ (S := (fun k_ => P0_ k_)) HW.zk hkp (fun k_ hs_ => (fun e_ => (HO0.out.1 k_ e_.symm)) hs_)); have n2_ := Aside0.mk (hb); clear HK; clear HB; clear HO0; have HO401 := n0_; have HK := n1_; have HB := n2_; clear n0_ n1_ n2_; (try clear hb); (try clear hkp); (try clear ho0)))
    go_ret
    exact ⟨_, by first | rfl | (simp [errW_none, errW_some] <;> rfl) | (simp [*, errW_none, errW_some] <;> rfl), HW.zR HO401.out, HW.zb, HW.zk⟩

/-! ### bsoncore_AppendInt32Element: function 191 -/
def bsoncore_AppendInt32Element.f (l0 : List Int) (a1 : ByteArray) (a2 : Int) : Option (List Int) := (bsoncore_AppendHeader.f l0 16 a1).bind fun t402 => ((bsoncore_AppendInt32.f t402 a2).bind fun t405 => (some t405))
set_option maxHeartbeats 8000000 in
set_option maxRecDepth 100000 in
theorem bsoncore_AppendInt32Element.calls (P0_ : Nat → Prop) (u9000_ : Value) (l0 : List Int) (a1 : ByteArray) (a2 : Int) (r : List Int) (w0 w : World) (hB : Below w0.heap.size w0 w) (ho0 : Kd.R (Kd.int .u8) 5 w w0.heap.size P0_ u9000_ l0) (h : bsoncore_AppendInt32Element.f l0 a1 a2 = some r) :
    Calls Tryz.prog 191 #[u9000_, .string a1, .int .i32 a2] w fun e w' => ∃ v0_ : Value, e = .returned (v0_) ∧ Kd.R (Kd.int .u8) 5 w' w0.heap.size (fun k_ => (P0_ k_ ∨ w.heap.size ≤ k_)) v0_ r ∧ Below w0.heap.size w0 w' ∧ Kept w w' (fun k_ => P0_ k_) := by
  have HO0 := Aside0.mk (show Kd.R (Kd.int .u8) 5 w w0.heap.size (fun k_ => (P0_ k_ ∨ w.heap.size ≤ k_)) u9000_ l0 from Kd.R_mono ho0 (fun k_ hk => (.inl hk)))
  have HK := Aside0.mk (Kept.refl w (fun k_ => P0_ k_))
  have HW0 := Aside0.mk hB.size
  have HB := Aside0.mk hB
  clear hB
  have H : ((bsoncore_AppendHeader.f l0 16 a1).bind fun t402 => ((bsoncore_AppendInt32.f t402 a2).bind fun t405 => (some t405))) = some r := h
  clear h
  replace H := Option.bind_eq_some_iff.mp H
  obtain ⟨t402, A40, H⟩ := H
  replace H : ((bsoncore_AppendInt32.f t402 a2).bind fun t405 => (some t405)) = some r := H
  have A4 := Aside0.mk A40
  clear A40
  replace H := Option.bind_eq_some_iff.mp H
  obtain ⟨t405, A50, H⟩ := H
  replace H : (some t405) = some r := H
  have A5 := Aside0.mk A50
  clear A50
  as_aux_lemma =>
    obtain rfl := Option.some.inj H
    obtain ⟨Ao6, co6, eo6⟩ := Kd.R_slice HO0.out
    subst eo6
    go_enter Tryz.func191, Tryz.ntmps191
    go_wp2_with (first | ((with_reducible refine gate_callee (f := 175) rfl ?_); refine HW.gz (some 9) rfl rfl Tryz.func175 (by kernel_rfl) rfl #[.slice Ao6 l0.length co6, .int .u8 16, .string a1] rfl ?_; (with_reducible refine (bsoncore_AppendHeader.calls (fun k_ => some k_ = (.slice Ao6 l0.length co6 : Value).ownBlock) (.slice Ao6 l0.length co6) l0 16 a1 t402 w0 _ ?side1 ?side2 A4.out).mono ?_); (case side1 => exact HW.zb); (case side2 => exact Kd.R_tight rfl HO0.out); rintro e w7 ⟨v403, rfl, ho0, hb, hkp⟩; refine ⟨_, rfl, ?_⟩; have n0_ := Aside0.mk (Kd.R_mono (ok' := fun k_ => (P0_ k_ ∨ w.heap.size ≤ k_)) ho0 (fun k_ hk_ => Or.elim hk_ (fun hs_ => (HO0.out.1 k_ (hs_).symm)) (fun hn_ => (.inr (Nat.le_trans (HW.zk1 (w := w) (fun k_ => P0_ k_)) hn_))))); have n1_ := Aside0.mk (Kept.then_ (S := (fun k_ => P0_ k_)) HW.zk hkp (fun k_ hs_ => (fun e_ => (HO0.out.1 k_ e_.symm)) hs_)); have n2_ := Aside0.mk (hb); clear HK; clear HB; clear HO0; have HO404 := n0_; have HK := n1_; have HB := n2_; clear n0_ n1_ n2_; (try clear hb); (try clear hkp); (try clear ho0); obtain ⟨Ao8, co8, eo8⟩ := Kd.R_slice HO404.out; subst eo8) | ((with_reducible refine gate_callee (f := 238) rfl ?_); refine HW.gz (some 11) rfl rfl Tryz.func238 (by kernel_rfl) rfl #[.slice Ao8 t402.length co8, .int .i32 a2] rfl ?_; (with_reducible refine (bsoncore_AppendInt32.calls (fun k_ => some k_ = (.slice Ao8 t402.length co8 : Value).ownBlock) (.slice Ao8 t402.length co8) t402 a2 t405 w0 _ ?side1 ?side2 A5.out).mono ?_); (case side1 => exact HW.zb); (case side2 => exact Kd.R_tight rfl HO404.out); rintro e w9 ⟨v406, rfl, ho0, hb, hkp⟩; refine ⟨_, rfl, ?_⟩; have n0_ := Aside0.mk (Kd.R_mono (ok' := fun k_ => (P0_ k_ ∨ w.heap.size ≤ k_)) ho0 (fun k_ hk_ => Or.elim hk_ (fun hs_ => (HO404.out.1 k_ (hs_).symm)) (fun hn_ => (.inr (Nat.le_trans (HW.zk1 (w := w) (fun k_ => P0_ k_)) hn_))))); have n1_ := Aside0.mk (Kept.then_ (S := (fun k_ => P0_ k_)) HW.zk hkp (fun k_ hs_ => (fun e_ => (HO404.out.1 k_ e_.symm)) hs_)); have n2_ := Aside0.mk (hb); clear HK; clear HB; clear HO404; have HO407 := n0_; have HK := n1_; have HB := n2_; clear n0_ n1_ n2_; (try clear hb); (try clear hkp); (try clear ho0)))
    go_ret
    exact ⟨_, by first | rfl | (simp [errW_none, errW_some] <;> rfl) | (simp [*, errW_none, errW_some] <;> rfl), HW.zR HO407.out, HW.zb, HW.zk⟩

/-! ### impl_Built: function 56 -/
theorem info_i32 : (Tryz.prog.info? 21).map (fun i => (i.zero, i.size, i.bytes)) = some (some (.int .i32 0), 1, 4) := by kernel_rfl
/-- A builder of documents in block g: its bytes and its indexes, both of the call's own. -/
structure DB (w0 w : World) (g : Nat) (l ix : List Int) : Prop where
  ex : ∃ v0 v1, w.heap[g]? = some (.cells #[v0, v1] 194 (0, 0)) ∧ Kd.R (Kd.int .u8) 5 w w0.heap.size (fun k => v0.ownBlock = some k) v0 l ∧ Kd.R (Kd.int .i32) 21 w w0.heap.size (fun k => v1.ownBlock = some k) v1 ix
  hg : w0.heap.size ≤ g
  hB : Below w0.heap.size w0 w
theorem own_self {α : Type} {enc : α → Value} {h1 : ∀ x, (enc x).oneCell' = true} {e base : Nat} {w : World} {ok : Nat → Prop} {v : Value} {xs : List α} (h : (Kd.scalar enc h1).R e w base ok v xs) : (Kd.scalar enc h1).R e w base (fun k => v.ownBlock = some k) v xs := Kd.R_of_own (Kd.own_of_R h) (fun _ hk => hk)
theorem own_type {α : Type} {d : Kd α} {e base : Nat} {w : World} {ok : Nat → Prop} {v : Value} {xs : List α} (h : d.R e w base ok v xs) {k t : Nat} {cells : Array Value} (hk : v.ownBlock = some k) (hb : w.heap[k]? = some (.cells cells t (0, 0))) : e = t := by
  obtain ⟨inner, ho⟩ := Kd.R_own h
  obtain ⟨cells', hc⟩ := own_typed ho k hk
  rw [hb] at hc
  injection hc with hc
  injection hc with _ hc
  exact hc.symm
theorem own_apart {α β : Type} {d : Kd α} {d' : Kd β} {e e' base base' : Nat} {w : World} {ok ok' : Nat → Prop} {v v' : Value} {xs : List α} {ys : List β} (h : d.R e w base ok v xs) (h' : d'.R e' w base' ok' v' ys) (hne : e ≠ e') {k : Nat} (hk : v.ownBlock = some k) (hk' : v'.ownBlock = some k) : False := by
  obtain ⟨inner, ho⟩ := Kd.R_own h'
  obtain ⟨cells', hc⟩ := own_typed ho k hk'
  exact hne (own_type h hk hc)
/-- Behind a call that was handed the bytes. -/
theorem DB.handed {w0 w w1 : World} {g : Nat} {v0 v1 v0' : Value} {l ix r : List Int} (hz : w.heap[g]? = some (.cells #[v0, v1] 194 (0, 0))) (hR0 : Kd.R (Kd.int .u8) 5 w w0.heap.size (fun k => v0.ownBlock = some k) v0 l) (hR1 : Kd.R (Kd.int .i32) 21 w w0.heap.size (fun k => v1.ownBlock = some k) v1 ix) (hg : w0.heap.size ≤ g)
    (hR : Kd.R (Kd.int .u8) 5 w1 w0.heap.size (fun k => v0.ownBlock = some k ∨ w.heap.size ≤ k) v0' r) (hB : Below w0.heap.size w0 w1) (hK : Kept w w1 (fun k => v0.ownBlock = some k)) :
    w1.heap[g]? = some (.cells #[v0, v1] 194 (0, 0)) ∧ Kd.R (Kd.int .i32) 21 w1 w0.heap.size (fun k => v1.ownBlock = some k) v1 ix ∧ Kd.R (Kd.int .u8) 5 w1 w0.heap.size (fun k => v0'.ownBlock = some k) v0' r := by
  have hlt : g < w.heap.size := (Array.getElem?_eq_some_iff.1 hz).1
  refine ⟨(hK.2 g hlt (fun hk => ?_)).trans hz, Kd.R_step hR1 (fun k hk hl => hK.2 k hl (fun hk' => own_apart hR0 hR1 (by decide) hk' hk)), own_self hR⟩
  have := own_type hR0 hk hz
  exact absurd this (by decide)
/-- The bytes are put back. -/
theorem DB.put {w0 w1 : World} {g : Nat} {v0 v1 v0' : Value} {ix r : List Int} (hz : w1.heap[g]? = some (.cells #[v0, v1] 194 (0, 0))) (hR1 : Kd.R (Kd.int .i32) 21 w1 w0.heap.size (fun k => v1.ownBlock = some k) v1 ix) (hR : Kd.R (Kd.int .u8) 5 w1 w0.heap.size (fun k => v0'.ownBlock = some k) v0' r) (hg : w0.heap.size ≤ g) (hB : Below w0.heap.size w0 w1) :
    (w1.setCell ⟨g, 0, none⟩ v0').heap[g]? = some (.cells #[v0', v1] 194 (0, 0)) ∧ Kd.R (Kd.int .u8) 5 (w1.setCell ⟨g, 0, none⟩ v0') w0.heap.size (fun k => v0'.ownBlock = some k) v0' r ∧ Kd.R (Kd.int .i32) 21 (w1.setCell ⟨g, 0, none⟩ v0') w0.heap.size (fun k => v1.ownBlock = some k) v1 ix ∧ Below w0.heap.size w0 (w1.setCell ⟨g, 0, none⟩ v0') := by
  refine ⟨blk_put hz 0 v0' rfl, Kd.R_far hR (fun k hk => ?_) v0', Kd.R_far hR1 (fun k hk => ?_) v0', below_set hB hg⟩
  · rintro rfl
    exact absurd (own_type hR hk hz) (by decide)
  rintro rfl
  exact absurd (own_type hR1 hk hz) (by decide)
theorem DB.mk' {w0 w1 : World} {g : Nat} {v0 v1 : Value} {ix r : List Int} (hz : w1.heap[g]? = some (.cells #[v0, v1] 194 (0, 0)) ∧ Kd.R (Kd.int .u8) 5 w1 w0.heap.size (fun k => v0.ownBlock = some k) v0 r ∧ Kd.R (Kd.int .i32) 21 w1 w0.heap.size (fun k => v1.ownBlock = some k) v1 ix ∧ Below w0.heap.size w0 w1) (hg : w0.heap.size ≤ g) : DB w0 w1 g r ix := ⟨⟨v0, v1, hz.1, hz.2.1, hz.2.2.1⟩, hg, hz.2.2.2⟩
set_option maxRecDepth 100000 in
theorem db_start {w0 w : World} {g : Nat} {l ix r : List Int} {i : Int} (h : DB w0 w g l ix) (hf : bsoncore_AppendDocumentStart.f l = some (i, r)) (hix : ix.length ≤ 1000000) :
    Calls Tryz.prog 130 #[.pointer (some ⟨g, 0, none⟩)] w fun e w' => e = .returned (.pointer (some ⟨g, 0, none⟩)) ∧ DB w0 w' g r (ix ++ [i]) := by
  obtain ⟨⟨v0, v1, hz, hR0, hR1⟩, hg, hB⟩ := h
  have c0 := (blk_cell hz 0).trans rfl
  go_enter Tryz.func130, Tryz.ntmps130
  go_wp2_with (first
    | (go_at_call 172; refine (bsoncore_AppendDocumentStart.calls (fun k => v0.ownBlock = some k) v0 l i r w0 w hB hR0 hf).mono ?_; rintro e w1 ⟨v0', rfl, hR, hB1, hK1⟩; obtain ⟨A2, c2, hv2⟩ := Kd.R_slice hR; subst hv2; obtain ⟨hz1, hR1a, hRa⟩ := DB.handed hz hR0 hR1 hg hR hB1 hK1; clear c0; have c0 := (blk_cell hz1 0).trans rfl; have f0 := blk_frozen hz1 0; have P1 := DB.put hz1 hR1a hRa hg hB1; have d1 := (blk_cell P1.1 1).trans rfl)
    | (at_builtin; refine Kd.R_append (Kd.int .i32) (w0 := w0) w0.heap.size rfl (.tmp 19) (.tmp 21) 192 21 (.int .i32 0) 4 rfl Tryz.underlying192 info_i32 rfl (by decide) (by omega) v1 ix i [.int .i32 i] (fun k => v1.ownBlock = some k ∨ (w1.setCell ⟨g, 0, none⟩ (.slice A2 r.length c2)).heap.size ≤ k) (fun _ => False) rfl (by rw [World.size_setCell]; rfl) ?aP (fun _ hk => hk.elim) ?aF ?aO ?aB ?aS ?aL ?_; (case aP => exact rfl); (case aF => exact fun k hk => .inr hk); (case aO => exact Kd.R_mono P1.2.2.1 (fun k hk => .inl hk)); (case aB => exact P1.2.2.2); (case aS => exact P1.2.2.2.size); (case aL => omega); intro v1' w2 ho hb2 hg2 hat2; obtain ⟨A3, c3, hv3⟩ := Kd.R_slice ho; subst hv3; have hne : some g ≠ v1.ownBlock := (fun he => absurd (own_type P1.2.2.1 he.symm P1.1) (by decide)); have hz2 := (hg2.block g (Array.getElem?_eq_some_iff.1 P1.1).1 hne).trans P1.1; have hRb := Kd.R_grown P1.2.1 hg2 (fun k hk he => own_apart P1.2.1 P1.2.2.1 (by decide) hk he.symm); have e1 := (blk_cell hz2 1).trans rfl; have f1 := blk_frozen hz2 1))
  go_ret
  rw [show (ix ++ [i]).length = ix.length + 1 by simp] at ho
  refine ⟨rfl, ⟨_, _, blk_put hz2 1 _ rfl, Kd.R_far hRb (fun k hk => ?_) _, Kd.R_far (own_self ho) (fun k hk => ?_) _⟩, hg, below_set hb2 hg⟩
  · rintro rfl
    exact absurd (own_type hRb hk hz2) (by decide)
  rintro rfl
  exact absurd (own_type ho hk hz2) (by decide)
set_option maxRecDepth 100000 in
theorem db_int32 {w0 w : World} {g : Nat} {l ix r : List Int} {s : ByteArray} {n : Int} (h : DB w0 w g l ix) (hf : bsoncore_AppendInt32Element.f l s n = some r) :
    Calls Tryz.prog 150 #[.pointer (some ⟨g, 0, none⟩), .string s, .int .i32 n] w fun e w' => e = .returned (.pointer (some ⟨g, 0, none⟩)) ∧ DB w0 w' g r ix := by
  obtain ⟨⟨v0, v1, hz, hR0, hR1⟩, hg, hB⟩ := h
  have c0 := (blk_cell hz 0).trans rfl
  go_enter Tryz.func150, Tryz.ntmps150
  go_wp2_with (go_at_call 191; refine (bsoncore_AppendInt32Element.calls (fun k => v0.ownBlock = some k) v0 l s n r w0 w hB hR0 hf).mono ?_; rintro e w1 ⟨v0', rfl, hR, hB1, hK1⟩; obtain ⟨A2, c2, hv2⟩ := Kd.R_slice hR; subst hv2; obtain ⟨hz1, hR1a, hRa⟩ := DB.handed hz hR0 hR1 hg hR hB1 hK1; clear c0; have c0 := (blk_cell hz1 0).trans rfl; have f0 := blk_frozen hz1 0)
  go_ret
  exact ⟨rfl, DB.mk' (DB.put hz1 hR1a hRa hg hB1) hg⟩
/-- A new builder. -/
theorem DB.new_ {w0 w : World} (hB : Below w0.heap.size w0 w) : DB w0 (w.alloc (.cells #[.slice none 0 0, .slice none 0 0] 194)) w.heap.size [] [] :=
  ⟨⟨_, _, blk_new w _, Kd.R_nil _ _ _ _ _, Kd.R_nil _ _ _ _ _⟩, hB.size, hB.alloc hB.size _⟩
set_option maxRecDepth 100000 in
theorem db_new {w0 w : World} {r : List Int} {i : Int} (hB : Below w0.heap.size w0 w) (hf : bsoncore_AppendDocumentStart.f [] = some (i, r)) :
    Calls Tryz.prog 103 #[] w fun e w' => ∃ g, e = .returned (.pointer (some ⟨g, 0, none⟩)) ∧ DB w0 w' g r [i] := by
  go_enter Tryz.func103, Tryz.ntmps103
  go_wp2_with (go_at_call 130; refine (db_start (DB.new_ hB) hf (by simp)).mono ?_; rintro e w1 ⟨rfl, hD⟩)
  go_ret
  exact ⟨_, rfl, hD⟩
set_option maxHeartbeats 2000000 in
set_option maxRecDepth 100000 in
theorem db_build {w0 w : World} {g : Nat} {l r : List Int} {i : Int} (h : DB w0 w g l [i]) (hf : bsoncore_AppendDocumentEnd.f l i = some (r, none)) :
    Calls Tryz.prog 105 #[.pointer (some ⟨g, 0, none⟩)] w fun e w' => ∃ v, e = .returned v ∧ Kd.R (Kd.int .u8) 5 w' w0.heap.size (fun _ => True) v r ∧ Below w0.heap.size w0 w' := by
  obtain ⟨⟨v0, v1, hz, hR0, hR1⟩, hg, hB⟩ := h
  obtain ⟨A0, k0, hv0⟩ := Kd.R_slice hR0
  subst hv0
  obtain ⟨A1, k1, hv1, hk1, hC1⟩ := Kd.R_reads hR1
  subst hv1
  obtain ⟨a1, rfl, hx1⟩ := Kd.at_int hC1 0 (by omega) (by simp)
  rw [show (0 : Int).toNat = 0 from rfl, Addr.add_zero', show rd [i] 0 = i from rfl] at hx1
  obtain ⟨i0, hi0, hz0⟩ := Option.map_eq_some_iff.1 info_i32
  have hcut := cut_to (P := Tryz.prog) 192 21 .i64 Tryz.underlying192 hi0 (some a1) 1 k1 0 (by omega) (by omega) hk1
  change ∀ W, _ = Result.ok (Value.slice (some a1) 0 k1) W at hcut
  have c0 := (blk_cell hz 0).trans rfl
  have c1 := (blk_cell hz 1).trans rfl
  go_enter Tryz.func105, Tryz.ntmps105
  go_wp2
  go_region_with (go_at_call 156; refine (bsoncore_AppendDocumentEnd.calls (fun k => (Value.slice A0 l.length k0).ownBlock = some k) (.slice A0 l.length k0) l i r none w0 _ (below_drew hB) hR0 hf).mono ?_; rintro e w1 ⟨v0', rfl, hR, hB1, hK1⟩; obtain ⟨A2, c2, hv2⟩ := Kd.R_slice hR; subst hv2; obtain ⟨hz1, hR1a, hRa⟩ := DB.handed hz hR0 hR1 hg hR hB1 hK1; clear c0 c1; have c0 := (blk_cell hz1 0).trans rfl; have f0 := blk_frozen hz1 0; have c1 := (blk_cell hz1 1).trans rfl; have f1 := blk_frozen hz1 1)
  all_goals
    go_wp2
    go_ret
    have P1 := DB.put hz1 hR1a hRa hg hB1
    refine ⟨_, rfl, Kd.R_mono (Kd.R_far P1.2.1 (fun k hk => ?_) _) (fun _ _ => trivial), below_set P1.2.2.2 hg⟩
    rintro rfl
    exact absurd (own_type P1.2.1 hk P1.1) (by decide)
set_option maxHeartbeats 4000000 in
set_option maxRecDepth 100000 in
theorem build_one {w0 w : World} {g : Nat} {l ix r : List Int} {A : Option Addr} {c : Nat} {e : S95} (hD : DB w0 w g l ix) (hC : Kd.C k95 w A [e].length [e]) (hc : 1 ≤ c) (hk : e.f1.f0 = 16) (hf : bsoncore_AppendInt32Element.f l e.f0 (wrap32 e.f1.f3) = some r) :
    Calls Tryz.prog 104 #[.pointer (some ⟨g, 0, none⟩), .slice A 1 c] w fun en w' => en = .returned (.tuple #[]) ∧ DB w0 w' g r ix := by
  obtain ⟨ad, A7, c7, A8, c8, rfl, e0, e1, e2, e3, e4, e5, e6, e7, e8, l7, g7, l8, g8⟩ := at_T95 hC 0 (by omega) (by simp)
  have hrd : rd_T95 [e] 0 = e := rfl
  rw [hrd] at e0 e1 e2 e3 e4 e5 e6 e7 e8
  obtain ⟨s, ek, et, em, en, eb, eh, eB, eK⟩ := e
  simp only at e0 e1 e2 e3 e4 e5 e6 e7 e8 hf hk
  subst hk
  rw [show (0 : Int).toNat * 9 = 0 from rfl, Addr.add_zero'] at e0 e1 e2 e3 e4 e5 e6 e7 e8
  clear l7 g7 l8 g8 hC hrd
  have al : ∀ {w1 : World} (o : Obj), DB w0 w1 g l ix → DB w0 (w1.alloc o) g l ix := fun o h => by
    obtain ⟨⟨v0, v1, hz, hR0, hR1⟩, hg, hB⟩ := h
    exact ⟨⟨v0, v1, blk_alloc hz o, Kd.R_alloc hR0 o, Kd.R_alloc hR1 o⟩, hg, hB.alloc hB.size _⟩
  go_enter Tryz.func104, Tryz.ntmps104
  go_wp2
  refine wp_loop_rounds 2 ?_
  rw [rounds_succ]
  go_wp2_with (go_at_call 150; refine (db_int32 (al _ (al _ hD)) hf).mono ?_; rintro e w1 ⟨rfl, hD1⟩)
  rw [rounds_succ]
  go_wp2
  go_end0
  exact ⟨rfl, hD1⟩
def impl_Built.f (l0 : List S95) : Option (List Int) := match l0 with
  | [e] => if e.f1.f0 = 16 then (bsoncore_AppendDocumentStart.f []).bind fun x => (bsoncore_AppendInt32Element.f x.2 e.f0 (wrap32 e.f1.f3)).bind fun y => (bsoncore_AppendDocumentEnd.f y x.1).bind fun z => (if z.2 = none then some z.1 else none) else none
  | _ => none
set_option maxRecDepth 100000 in
theorem impl_Built.calls (A0 : Option Addr) (c0 : Nat) (l0 : List S95) (r : List Int) (w : World) (hr0 : Kd.C k95 w A0 l0.length l0) (hc0 : l0.length ≤ c0) (h : impl_Built.f l0 = some r) :
    Calls Tryz.prog 56 #[.slice A0 l0.length c0] w fun e w' => ∃ v0_ : Value, e = .returned (v0_) ∧ Kd.R (Kd.int .u8) 5 w' w.heap.size (fun _ => True) v0_ r ∧ Below w.heap.size w w' := by
  unfold impl_Built.f at h
  split at h
  next e =>
    split at h
    next hk =>
      obtain ⟨⟨i, y⟩, h1, h⟩ := Option.bind_eq_some_iff.1 h
      obtain ⟨z, h2, h⟩ := Option.bind_eq_some_iff.1 h
      obtain ⟨⟨x, er⟩, h3, h⟩ := Option.bind_eq_some_iff.1 h
      cases er with
      | some _ => cases h
      | none =>
        obtain rfl := Option.some.inj h
        go_enter Tryz.func56, Tryz.ntmps56
        go_wp2_with (first
          | (go_at_call 103; refine (db_new (Below.refl _ _) h1).mono ?_; rintro e w1 ⟨g, rfl, hD1⟩)
          | (go_at_call 104; refine (build_one hD1 (Kd.C_below hr0 hD1.hB) hc0 hk h2).mono ?_; rintro e w2 ⟨rfl, hD2⟩)
          | (go_at_call 105; refine (db_build hD2 h3).mono ?_; rintro e w3 ⟨v, rfl, hR, hB⟩))
        go_ret
        exact ⟨v, rfl, hR, hB⟩
    next => cases h
  next => cases h

/-! ### impl_Validate: function 57 -/
set_option maxRecDepth 100000 in
theorem code_text (s : ByteArray) (w : World) (h1 : (s.toList == ([100, 111, 99, 117, 109, 101, 110, 116, 32, 111, 114, 32, 97, 114, 114, 97, 121, 32, 108, 101, 110, 103, 116, 104, 32, 105, 115, 32, 105, 110, 118, 97, 108, 105, 100] : List UInt8)) = false) (h2 : (s.toList == ([100, 111, 99, 117, 109, 101, 110, 116, 32, 111, 114, 32, 97, 114, 114, 97, 121, 32, 101, 110, 100, 32, 105, 115, 32, 109, 105, 115, 115, 105, 110, 103, 32, 110, 117, 108, 108, 32, 98, 121, 116, 101] : List UInt8)) = false) :
    Calls Tryz.prog 92 #[.iface 178 (.string s)] w fun e w' => e = .returned (.int .i64 4) ∧ Below w.heap.size w w' := by
  have t1 : ∀ W : World, (Instr.typeAssert (.iface 178 (.string s)) 150 177 true).run Tryz.prog W = .ok (.tuple #[.agg #[.slice none 0 0, .slice none 0 0], .bool false]) W := fun W => by rfl
  have t2 : ∀ W : World, (Instr.typeAssert (.iface 178 (.string s)) 150 178 true).run Tryz.prog W = .ok (.tuple #[.string s, .bool true]) W := fun W => by rfl
  go_enter Tryz.func92, Tryz.ntmps92
  go_wp2
  go_ret
  exact ⟨rfl, Below.refl _ _⟩
set_option maxRecDepth 100000 in
theorem length_error (a b : Int) (w : World) : Calls Tryz.prog 157 #[.int .i64 a, .int .i64 b] w fun e w' => ∃ s, e = .returned (.iface 178 (.string s)) ∧ s = (⟨#[100, 111, 99, 117, 109, 101, 110, 116]⟩ : ByteArray) ++ ⟨#[32, 108, 101, 110, 103, 116, 104, 32, 101, 120, 99, 101, 101, 100, 115, 32, 97, 118, 97, 105, 108, 97, 98, 108, 101, 32, 98, 121, 116, 101, 115]⟩ ∧ Below w.heap.size w w' := by
  go_enter Tryz.func157, Tryz.ntmps157
  go_wp2
  go_ret
  exact ⟨_, rfl, rfl, Below.refl _ _⟩
theorem dv_long (A : Option Addr) (c : Nat) (l rest : List Int) (n : Int) (w : World) (hC : Kd.C (Kd.int .u8) w A l.length l) (hc : l.length ≤ c) (hl : l.length ≤ 1000000) (hf : bsoncore_ReadLength.f l = some (n, rest, true)) (hn : (l.length : Int) < n) (hn2 : n ≤ 2147483647) :
    Calls Tryz.prog 106 #[.slice A l.length c] w fun e w' => ∃ s, e = .returned (.iface 178 (.string s)) ∧ s = (⟨#[100, 111, 99, 117, 109, 101, 110, 116]⟩ : ByteArray) ++ ⟨#[32, 108, 101, 110, 103, 116, 104, 32, 101, 120, 99, 101, 101, 100, 115, 32, 97, 118, 97, 105, 108, 97, 98, 108, 101, 32, 98, 121, 116, 101, 115]⟩ ∧ Below w.heap.size w w' := by
  have hV : Kd.V (Kd.int .u8) 5 w w.heap.size (fun _ => True) (.slice A l.length c) l := Kd.V_mk hc (Kd.F_mono (Kd.C_F (Kd.heap_int _) hC) (fun _ _ => trivial))
  have hw : wrap64 n = n := by unfold wrap64; omega
  have d0 : decide ((l.length : Int) < n) = true := decide_eq_true hn
  clear hC hc
  go_enter Tryz.func106, Tryz.ntmps106
  go_wp2_with (first | (go_at_call 113; refine (bsoncore_ReadLength.calls (fun _ => True) A c l n rest true w hV hf).mono ?_; rintro e w1 ⟨v1, rfl, _, hb1⟩) | (go_at_call 157; refine (length_error _ _ _).mono ?_; rintro e w2 ⟨s, rfl, hs, hb2⟩))
  go_ret
  exact ⟨_, rfl, rfl, below_step hb1 hb2⟩
def impl_Validate.f (l0 : List Int) : Option (Int) := match bsoncore_ReadLength.f l0 with
  | some (n, _, true) => if (l0.length : Int) < n ∧ l0.length ≤ 1000000 ∧ n ≤ 2147483647 then some 4 else none
  | _ => none
theorem impl_Validate.calls (A0 : Option Addr) (c0 : Nat) (l0 : List Int) (r : Int) (w : World) (hr0 : Kd.C (Kd.int .u8) w A0 l0.length l0) (hc0 : l0.length ≤ c0) (h : impl_Validate.f l0 = some r) :
    Calls Tryz.prog 57 #[.slice A0 l0.length c0] w fun e w' => e = .returned (.int .i64 r) ∧ Below w.heap.size w w' := by
  unfold impl_Validate.f at h
  split at h
  next n rest hf =>
    split at h
    next hc =>
      obtain rfl := Option.some.inj h
      go_enter Tryz.func57, Tryz.ntmps57
      go_wp2_with (first | (go_at_call 106; refine (dv_long A0 c0 l0 rest n w hr0 hc0 hc.2.1 hf hc.1 hc.2.2).mono ?_; rintro e w1 ⟨s, rfl, hs, hb1⟩; subst hs) | (go_at_call 92; refine (code_text _ _ (by decide +kernel) (by decide +kernel)).mono ?_; rintro e w2 ⟨rfl, hb2⟩))
      go_ret
      exact ⟨rfl, below_step hb1 hb2⟩
    next => cases h
  next => cases h

/-! ### laws_docAwake: function 15 -/
def laws_docAwake.f (k : Nat)  : Option (Bool) := (impl_Built.f (([(⟨(⟨#[97]⟩ : ByteArray), (⟨16, (⟨#[]⟩ : ByteArray), (⟨#[]⟩ : ByteArray), 7, 0, 0, ([] : List Int), ([] : List (S95))⟩ : S44)⟩ : S95)] : List (S95)))).bind fun t411 => ((impl_Read.f 16 (([7, 0, 0, 0, 9] : List Int))).bind fun bt417 => ((impl_Lookup.f k t411 (([(⟨#[97]⟩ : ByteArray)] : List ByteArray))).bind fun bt437 => (if (strOfNums t411).toList = ([12, 0, 0, 0, 16, 97, 0, 7, 0, 0, 0, 0] : List UInt8) then (if bt417.2.2.2.2.2.2.2.2.2 = true then (if bt417.2.2.2.1 = 7 then (if (bt417.2.2.2.2.2.2.2.2.1.length : Int) = 1 then (if bt437.2.2 = 0 then (if bt437.1 = 16 then (if (bt437.2.1.length : Int) = 4 then (if 11 ≤ (t411.length : Int) then ((impl_Validate.f (t411.take 11)).bind fun t447 => (some (t447 != 0))) else (none)) else (none)) else (none)) else (none)) else (none)) else (none)) else (none)) else (none))))
theorem laws_docAwake.mono : ∀ k, LeO (laws_docAwake.f k ) (laws_docAwake.f (k + 1) ) := by
  intro  k
  unfold laws_docAwake.f
  repeat' first
      | (with_reducible exact impl_Lookup.mono _ _ _)
      | (with_reducible exact LeO.refl _)
      | (with_reducible exact LeO.none _)
      | (with_reducible refine LeO.ite ?_ ?_)
      | (with_reducible refine LeO.bind ?_ (fun _ => ?_))
      | exact impl_Lookup.mono _ _ _
      | exact LeO.none _
      | refine LeO.ite ?_ ?_
      | refine LeO.bind ?_ (fun _ => ?_)
set_option maxHeartbeats 8000000 in
set_option maxRecDepth 100000 in
theorem laws_docAwake.calls (k : Nat)  (r : Bool) (w : World) (h : laws_docAwake.f k  = some r) :
    Calls Tryz.prog 15 #[] w fun e w' => e = .returned (.bool r) ∧ Below w.heap.size w w' := by
  have hu44 := Tryz.underlying44
  have hu95 := Tryz.underlying95
  have hu38 := Tryz.underlying38
  have HB := Aside0.mk (Below.refl w.heap.size w)
  have H : ((impl_Built.f (([(⟨(⟨#[97]⟩ : ByteArray), (⟨16, (⟨#[]⟩ : ByteArray), (⟨#[]⟩ : ByteArray), 7, 0, 0, ([] : List Int), ([] : List (S95))⟩ : S44)⟩ : S95)] : List (S95)))).bind fun t411 => ((impl_Read.f 16 (([7, 0, 0, 0, 9] : List Int))).bind fun bt417 => ((impl_Lookup.f k t411 (([(⟨#[97]⟩ : ByteArray)] : List ByteArray))).bind fun bt437 => (if (strOfNums t411).toList = ([12, 0, 0, 0, 16, 97, 0, 7, 0, 0, 0, 0] : List UInt8) then (if bt417.2.2.2.2.2.2.2.2.2 = true then (if bt417.2.2.2.1 = 7 then (if (bt417.2.2.2.2.2.2.2.2.1.length : Int) = 1 then (if bt437.2.2 = 0 then (if bt437.1 = 16 then (if (bt437.2.1.length : Int) = 4 then (if 11 ≤ (t411.length : Int) then ((impl_Validate.f (t411.take 11)).bind fun t447 => (some (t447 != 0))) else (none)) else (none)) else (none)) else (none)) else (none)) else (none)) else (none)) else (none))))) = some r := h
  clear h
  obtain ⟨y408, hy408⟩ : ∃ y_ : List (S95), y_ = (([(⟨(⟨#[97]⟩ : ByteArray), (⟨16, (⟨#[]⟩ : ByteArray), (⟨#[]⟩ : ByteArray), 7, 0, 0, ([] : List Int), ([] : List (S95))⟩ : S44)⟩ : S95)] : List (S95))) := ⟨_, rfl⟩
  replace H : ((impl_Built.f y408).bind fun t411 => ((impl_Read.f 16 (([7, 0, 0, 0, 9] : List Int))).bind fun bt417 => ((impl_Lookup.f k t411 (([(⟨#[97]⟩ : ByteArray)] : List ByteArray))).bind fun bt437 => (if (strOfNums t411).toList = ([12, 0, 0, 0, 16, 97, 0, 7, 0, 0, 0, 0] : List UInt8) then (if bt417.2.2.2.2.2.2.2.2.2 = true then (if bt417.2.2.2.1 = 7 then (if (bt417.2.2.2.2.2.2.2.2.1.length : Int) = 1 then (if bt437.2.2 = 0 then (if bt437.1 = 16 then (if (bt437.2.1.length : Int) = 4 then (if 11 ≤ (t411.length : Int) then ((impl_Validate.f (t411.take 11)).bind fun t447 => (some (t447 != 0))) else (none)) else (none)) else (none)) else (none)) else (none)) else (none)) else (none)) else (none))))) = some r := by first | (rw [hy408]; with_reducible exact H) | (have H2_ := (Option.bind_some _ _).symm.trans H; rw [hy408]; with_reducible exact H2_) | (have H2_ := (Option.bind_some _ _).symm.trans H; with_reducible exact H2_) | with_reducible exact H | (rw [hy408]; exact H) | exact H
  have Ny408 := Aside0.mk hy408
  clear hy408
  replace H := Option.bind_eq_some_iff.mp H
  obtain ⟨t411, A10, H⟩ := H
  replace H : ((impl_Read.f 16 (([7, 0, 0, 0, 9] : List Int))).bind fun bt417 => ((impl_Lookup.f k t411 (([(⟨#[97]⟩ : ByteArray)] : List ByteArray))).bind fun bt437 => (if (strOfNums t411).toList = ([12, 0, 0, 0, 16, 97, 0, 7, 0, 0, 0, 0] : List UInt8) then (if bt417.2.2.2.2.2.2.2.2.2 = true then (if bt417.2.2.2.1 = 7 then (if (bt417.2.2.2.2.2.2.2.2.1.length : Int) = 1 then (if bt437.2.2 = 0 then (if bt437.1 = 16 then (if (bt437.2.1.length : Int) = 4 then (if 11 ≤ (t411.length : Int) then ((impl_Validate.f (t411.take 11)).bind fun t447 => (some (t447 != 0))) else (none)) else (none)) else (none)) else (none)) else (none)) else (none)) else (none)) else (none)))) = some r := H
  have A1 := Aside0.mk A10
  clear A10
  obtain ⟨y414, hy414⟩ : ∃ y_ : List Int, y_ = (([7, 0, 0, 0, 9] : List Int)) := ⟨_, rfl⟩
  replace H : ((impl_Read.f 16 y414).bind fun bt417 => ((impl_Lookup.f k t411 (([(⟨#[97]⟩ : ByteArray)] : List ByteArray))).bind fun bt437 => (if (strOfNums t411).toList = ([12, 0, 0, 0, 16, 97, 0, 7, 0, 0, 0, 0] : List UInt8) then (if bt417.2.2.2.2.2.2.2.2.2 = true then (if bt417.2.2.2.1 = 7 then (if (bt417.2.2.2.2.2.2.2.2.1.length : Int) = 1 then (if bt437.2.2 = 0 then (if bt437.1 = 16 then (if (bt437.2.1.length : Int) = 4 then (if 11 ≤ (t411.length : Int) then ((impl_Validate.f (t411.take 11)).bind fun t447 => (some (t447 != 0))) else (none)) else (none)) else (none)) else (none)) else (none)) else (none)) else (none)) else (none)))) = some r := by first | (rw [hy414]; with_reducible exact H) | (have H2_ := (Option.bind_some _ _).symm.trans H; rw [hy414]; with_reducible exact H2_) | (have H2_ := (Option.bind_some _ _).symm.trans H; with_reducible exact H2_) | with_reducible exact H | (rw [hy414]; exact H) | exact H
  have Ny414 := Aside0.mk hy414
  clear hy414
  replace H := Option.bind_eq_some_iff.mp H
  obtain ⟨⟨t417, t418, t419, t420, t421, t422, t423, t426, t429, t432⟩, A20, H⟩ := H
  replace H : ((impl_Lookup.f k t411 (([(⟨#[97]⟩ : ByteArray)] : List ByteArray))).bind fun bt437 => (if (strOfNums t411).toList = ([12, 0, 0, 0, 16, 97, 0, 7, 0, 0, 0, 0] : List UInt8) then (if t432 = true then (if t420 = 7 then (if (t429.length : Int) = 1 then (if bt437.2.2 = 0 then (if bt437.1 = 16 then (if (bt437.2.1.length : Int) = 4 then (if 11 ≤ (t411.length : Int) then ((impl_Validate.f (t411.take 11)).bind fun t447 => (some (t447 != 0))) else (none)) else (none)) else (none)) else (none)) else (none)) else (none)) else (none)) else (none))) = some r := H
  have A2 := Aside0.mk A20
  clear A20
  obtain ⟨y434, hy434⟩ : ∃ y_ : List ByteArray, y_ = (([(⟨#[97]⟩ : ByteArray)] : List ByteArray)) := ⟨_, rfl⟩
  replace H : ((impl_Lookup.f k t411 y434).bind fun bt437 => (if (strOfNums t411).toList = ([12, 0, 0, 0, 16, 97, 0, 7, 0, 0, 0, 0] : List UInt8) then (if t432 = true then (if t420 = 7 then (if (t429.length : Int) = 1 then (if bt437.2.2 = 0 then (if bt437.1 = 16 then (if (bt437.2.1.length : Int) = 4 then (if 11 ≤ (t411.length : Int) then ((impl_Validate.f (t411.take 11)).bind fun t447 => (some (t447 != 0))) else (none)) else (none)) else (none)) else (none)) else (none)) else (none)) else (none)) else (none))) = some r := by first | (rw [hy434]; with_reducible exact H) | (have H2_ := (Option.bind_some _ _).symm.trans H; rw [hy434]; with_reducible exact H2_) | (have H2_ := (Option.bind_some _ _).symm.trans H; with_reducible exact H2_) | with_reducible exact H | (rw [hy434]; exact H) | exact H
  have Ny434 := Aside0.mk hy434
  clear hy434
  replace H := Option.bind_eq_some_iff.mp H
  obtain ⟨⟨t437, t438, t441⟩, A30, H⟩ := H
  replace H : (if (strOfNums t411).toList = ([12, 0, 0, 0, 16, 97, 0, 7, 0, 0, 0, 0] : List UInt8) then (if t432 = true then (if t420 = 7 then (if (t429.length : Int) = 1 then (if t441 = 0 then (if t437 = 16 then (if (t438.length : Int) = 4 then (if 11 ≤ (t411.length : Int) then ((impl_Validate.f (t411.take 11)).bind fun t447 => (some (t447 != 0))) else (none)) else (none)) else (none)) else (none)) else (none)) else (none)) else (none)) else (none)) = some r := H
  have A3 := Aside0.mk A30
  clear A30
  by_cases c4 : (strOfNums t411).toList = ([12, 0, 0, 0, 16, 97, 0, 7, 0, 0, 0, 0] : List UInt8)
  rotate_left
  · rw [if_neg c4] at H
    exact absurd H (by simp)
  rw [if_pos c4] at H
  have c4b0 : ((strOfNums t411).toList == ([12, 0, 0, 0, 16, 97, 0, 7, 0, 0, 0, 0] : List UInt8)) = true := beq_iff_eq.mpr c4
  have c4b1 : ((strOfNums t411).toList != ([12, 0, 0, 0, 16, 97, 0, 7, 0, 0, 0, 0] : List UInt8)) = false := bne_eq_false_iff_eq.mpr c4
  clear c4
  by_cases c5 : t432 = true
  rotate_left
  · replace c5 := Bool.eq_false_iff.mpr c5
    subst c5
    have H1 : (none) = some r := by rw [if_neg (show ¬ (false = true) by decide)] at H; exact H
    clear H
    have H := H1
    clear H1
    exact absurd H (by simp)
  subst c5
  have H1 : (if t420 = 7 then (if (t429.length : Int) = 1 then (if t441 = 0 then (if t437 = 16 then (if (t438.length : Int) = 4 then (if 11 ≤ (t411.length : Int) then ((impl_Validate.f (t411.take 11)).bind fun t447 => (some (t447 != 0))) else (none)) else (none)) else (none)) else (none)) else (none)) else (none)) = some r := by rw [if_pos rfl] at H; exact H
  clear H
  have H := H1
  clear H1
  by_cases c6 : t420 = 7
  rotate_left
  · rw [if_neg c6] at H
    exact absurd H (by simp)
  rw [if_pos c6] at H
  have c6b0 : (t420 == 7) = true := beq_iff_eq.mpr c6
  have c6b1 : (t420 != 7) = false := bne_eq_false_iff_eq.mpr c6
  clear c6
  by_cases c7 : (t429.length : Int) = 1
  rotate_left
  · rw [if_neg c7] at H
    exact absurd H (by simp)
  rw [if_pos c7] at H
  have c7b0 : ((t429.length : Int) == 1) = true := beq_iff_eq.mpr c7
  have c7b1 : ((t429.length : Int) != 1) = false := bne_eq_false_iff_eq.mpr c7
  clear c7
  by_cases c8 : t441 = 0
  rotate_left
  · rw [if_neg c8] at H
    exact absurd H (by simp)
  rw [if_pos c8] at H
  have c8b0 : (t441 == 0) = true := beq_iff_eq.mpr c8
  have c8b1 : (t441 != 0) = false := bne_eq_false_iff_eq.mpr c8
  clear c8
  by_cases c9 : t437 = 16
  rotate_left
  · rw [if_neg c9] at H
    exact absurd H (by simp)
  rw [if_pos c9] at H
  have c9b0 : (t437 == 16) = true := beq_iff_eq.mpr c9
  have c9b1 : (t437 != 16) = false := bne_eq_false_iff_eq.mpr c9
  clear c9
  by_cases c10 : (t438.length : Int) = 4
  rotate_left
  · rw [if_neg c10] at H
    exact absurd H (by simp)
  rw [if_pos c10] at H
  have c10b0 : ((t438.length : Int) == 4) = true := beq_iff_eq.mpr c10
  have c10b1 : ((t438.length : Int) != 4) = false := bne_eq_false_iff_eq.mpr c10
  clear c10
  by_cases c11 : 11 ≤ (t411.length : Int)
  rotate_left
  · rw [if_neg c11] at H
    exact absurd H (by simp)
  rw [if_pos c11] at H
  have c11b0 := eq_true c11
  have c11b1 : decide (11 ≤ (t411.length : Int)) = true := decide_eq_true c11
  clear c11
  obtain ⟨y443, hy443⟩ : ∃ y_ : List Int, y_ = (t411.take 11) := ⟨_, rfl⟩
  replace H : ((impl_Validate.f y443).bind fun t447 => (some (t447 != 0))) = some r := by first | (rw [hy443]; with_reducible exact H) | (have H2_ := (Option.bind_some _ _).symm.trans H; rw [hy443]; with_reducible exact H2_) | (have H2_ := (Option.bind_some _ _).symm.trans H; with_reducible exact H2_) | with_reducible exact H | (rw [hy443]; exact H) | exact H
  have Ny443 := Aside0.mk hy443
  clear hy443
  replace H := Option.bind_eq_some_iff.mp H
  obtain ⟨t447, A120, H⟩ := H
  replace H : (some (t447 != 0)) = some r := H
  have A12 := Aside0.mk A120
  clear A120
  focus
    obtain rfl := Option.some.inj H
    go_enter Tryz.func15, Tryz.ntmps15
    go_wp2_with (first | ((with_reducible refine gate_dst (N := 9) rfl ?_); (try (refine gate_guard (by rfl) ?_; dsimp only)); refine Kd.R_lit k95 _ 95 ?hg (N := 9) ?hd (xs := ([(⟨(⟨#[97]⟩ : ByteArray), (⟨16, (⟨#[]⟩ : ByteArray), (⟨#[]⟩ : ByteArray), 7, 0, 0, ([] : List Int), ([] : List (S95))⟩ : S44)⟩ : S95)] : List (S95))) (inner := [.string (⟨#[97]⟩ : ByteArray), .int .i64 16, .string (⟨#[]⟩ : ByteArray), .string (⟨#[]⟩ : ByteArray), .int .i64 7, .int .u64 0, .int .u64 0, .slice none 0 0, .slice none 0 0]) (ok := fun _ => True) (okp := fun _ => True) ?hr ?hp (fun _ hk => hk) trivial (Below.refl _ _) (Nat.le_refl _) (by simp) ?_; (case hd => rfl); (case hg => rfl); (case hr => first | (go_simp; done) | (go_simp; rfl)); (case hp => exact (Reps.c9 (show Kd.M k95 _ _ _ (⟨(⟨#[97]⟩ : ByteArray), (⟨16, (⟨#[]⟩ : ByteArray), (⟨#[]⟩ : ByteArray), 7, 0, 0, ([] : List Int), ([] : List (S95))⟩ : S44)⟩ : S95) [.string (⟨#[97]⟩ : ByteArray), .int .i64 16, .string (⟨#[]⟩ : ByteArray), .string (⟨#[]⟩ : ByteArray), .int .i64 7, .int .u64 0, .int .u64 0, .slice none 0 0, .slice none 0 0] from (k95_mkM _ _ _ (⟨(⟨#[97]⟩ : ByteArray), (⟨16, (⟨#[]⟩ : ByteArray), (⟨#[]⟩ : ByteArray), 7, 0, 0, ([] : List Int), ([] : List (S95))⟩ : S44)⟩ : S95) (Kd.R_nil _ _ _ _ _) (Kd.R_nil _ _ _ _ _))) (Reps.none _ _))); intro v409 w13 ho14 hb hg_ hnew_; clear hg_ hnew_; (first | rw [← Ny408.out] at ho14 | (simp only [Int.reduceToNat] at ho14; rw [← Ny408.out] at ho14)); have n0_ := Aside0.mk (Kd.R_lower ho14 (below_size HW.zb)); have n1_ := Aside0.mk (below_step HW.zb hb); clear HB; have HO410 := n0_; have HB := n1_; clear n0_ n1_; clear hb ho14; obtain ⟨Ao15, co15, eo15⟩ := Kd.R_slice HO410.out; subst eo15) | ((with_reducible refine gate_callee (f := 56) rfl ?_); refine HW.gz (some 10) rfl rfl Tryz.func56 (by kernel_rfl) rfl #[.slice Ao15 y408.length co15] rfl ?_; (with_reducible refine (impl_Built.calls _ _ y408 t411 _ ?side1 ?side2 A1.out).mono ?_); (case side1 => repeat (first | exact (Kd.R_reads' HO410.out).2.2 | (with_reducible refine Kd.C_alloc ?_ _) | (with_reducible refine Kd.C_drewN ?_ _) | (with_reducible refine Kd.C_drew ?_))); (case side2 => exact (Kd.R_reads' HO410.out).2.1); rintro e w16 ⟨v412, rfl, ho0, hb⟩; refine ⟨_, rfl, ?_⟩; have n0_ := Aside0.mk (Kd.R_elder' (HW.zR HO410.out) (Kd.R_base ho0) hb); have n1_ := Aside0.mk (Kd.R_lower ho0 (below_size HW.zb)); have n2_ := Aside0.mk (below_step HW.zb hb); clear HO410; clear HB; have HO410 := n0_; have HO413 := n1_; have HB := n2_; clear n0_ n1_ n2_; (try clear hb); (try clear hb2); (try clear hk); (try clear hi); (try clear ho0)) | ((with_reducible refine gate_dst (N := 12) rfl ?_); (try (refine gate_guard (by rfl) ?_; dsimp only)); refine Kd.R_lit (Kd.int .u8) _ 5 ?hg (N := 12) ?hd (xs := ([7, 0, 0, 0, 9] : List Int)) (inner := [.int .u8 7, .int .u8 0, .int .u8 0, .int .u8 0, .int .u8 9]) (ok := fun _ => True) (okp := fun _ => True) ?hr ?hp (fun _ hk => hk) trivial (Below.refl _ _) (Nat.le_refl _) (by simp) ?_; (case hd => rfl); (case hg => rfl); (case hr => first | (go_simp; done) | (go_simp; rfl)); (case hp => exact (Reps.one (show Kd.M (Kd.int .u8) _ _ _ 7 [.int .u8 7] from rfl) (Reps.one (show Kd.M (Kd.int .u8) _ _ _ 0 [.int .u8 0] from rfl) (Reps.one (show Kd.M (Kd.int .u8) _ _ _ 0 [.int .u8 0] from rfl) (Reps.one (show Kd.M (Kd.int .u8) _ _ _ 0 [.int .u8 0] from rfl) (Reps.one (show Kd.M (Kd.int .u8) _ _ _ 9 [.int .u8 9] from rfl) (Reps.none _ _))))))); intro v415 w17 ho18 hb hg_ hnew_; clear hg_ hnew_; (first | rw [← Ny414.out] at ho18 | (simp only [Int.reduceToNat] at ho18; rw [← Ny414.out] at ho18)); have n0_ := Aside0.mk (Kd.R_elder' (HW.zR HO410.out) (Kd.R_base ho18) hb); have n1_ := Aside0.mk (Kd.R_elder' (HW.zR HO413.out) (Kd.R_base ho18) hb); have n2_ := Aside0.mk (Kd.R_lower (Kd.R_new' ho18 (Kd.R_lt (HW.zR HO413.out))) (below_size HW.zb)); have n3_ := Aside0.mk (below_step HW.zb hb); clear HO410; clear HO413; clear HB; have HO410 := n0_; have HO413 := n1_; have HO416 := n2_; have HB := n3_; clear n0_ n1_ n2_ n3_; clear hb ho18; obtain ⟨Ao19, co19, eo19⟩ := Kd.R_slice HO416.out; subst eo19) | ((with_reducible refine gate_callee (f := 34) rfl ?_); refine HW.gz (some 13) rfl rfl Tryz.func34 (by kernel_rfl) rfl #[.int .i64 16, .slice Ao19 y414.length co19] rfl ?_; (with_reducible refine (impl_Read.calls 16 _ _ y414 t417 t418 t419 t420 t421 t422 t423 t426 t429 true _ ?side1 ?side2 A2.out).mono ?_); (case side1 => repeat (first | exact (Kd.R_reads' HO416.out).2.2 | (with_reducible refine Kd.C_alloc ?_ _) | (with_reducible refine Kd.C_drewN ?_ _) | (with_reducible refine Kd.C_drew ?_))); (case side2 => exact (Kd.R_reads' HO416.out).2.1); rintro e w20 ⟨v424, v427, v430, rfl, ho0, ho1, ho2, hb⟩; refine ⟨_, rfl, ?_⟩; have n0_ := Aside0.mk (Kd.R_mono (Kd.R_told (Kd.R_told (Kd.R_told (Kd.R_old (HW.zR HO410.out) hb) (Kd.R_base ho0)) (Kd.R_base ho1)) (Kd.R_base ho2)) (fun _ h_ => h_.1)); have n1_ := Aside0.mk (Kd.R_mono (Kd.R_told (Kd.R_told (Kd.R_old (HW.zR HO413.out) hb) (Kd.R_base ho0)) (Kd.R_base ho2)) (fun _ h_ => h_.1)); have n2_ := Aside0.mk (Kd.R_mono (Kd.R_told (Kd.R_told (Kd.R_old (HW.zR HO416.out) hb) (Kd.R_base ho0)) (Kd.R_base ho2)) (fun _ h_ => h_.1)); have n3_ := Aside0.mk (Kd.R_lower (Kd.R_new' (Kd.R_new' ho0 (Kd.R_lt (HW.zR HO413.out))) (Kd.R_lt (HW.zR HO416.out))) (below_size HW.zb)); have n4_ := Aside0.mk (Kd.R_lower (Kd.R_new' (Kd.R_new' (Kd.R_new' ho1 (Kd.R_lt (HW.zR HO410.out))) (Kd.R_lt (HW.zR HO413.out))) (Kd.R_lt (HW.zR HO416.out))) (below_size HW.zb)); have n5_ := Aside0.mk (Kd.R_lower (Kd.R_new' (Kd.R_new' ho2 (Kd.R_lt (HW.zR HO413.out))) (Kd.R_lt (HW.zR HO416.out))) (below_size HW.zb)); have n6_ := Aside0.mk (below_step HW.zb hb); clear HO410; clear HO413; clear HO416; clear HB; have HO410 := n0_; have HO413 := n1_; have HO416 := n2_; have HO425 := n3_; have HO428 := n4_; have HO431 := n5_; have HB := n6_; clear n0_ n1_ n2_ n3_ n4_ n5_ n6_; (try clear hb); (try clear hb2); (try clear hk); (try clear hi); (try clear ho0); (try clear ho1); (try clear ho2)) | ((with_reducible refine gate_dst (N := 2) rfl ?_); (try (refine gate_guard (by rfl) ?_; dsimp only)); refine box_event ?hg (N := 2) ?hd (cs := #[.int .i64 0, .string (⟨#[]⟩ : ByteArray), .string (⟨#[]⟩ : ByteArray), .int .i64 0, .int .u64 0, .int .u64 0, .slice none 0 0, .slice none 0 0]) (t := 44) ?hr ?_; (case hd => rfl); (case hg => rfl); (case hr => first | (go_simp; done) | (go_simp; rfl)); intro gb433 hg w21 hbox hb; have n0_ := Aside0.mk (Kd.R_below (HW.zR HO410.out) hb); have n1_ := Aside0.mk (Kd.R_below (HW.zR HO413.out) hb); have n2_ := Aside0.mk (Kd.R_below (HW.zR HO416.out) hb); have n3_ := Aside0.mk (Kd.R_below (HW.zR HO425.out) hb); have n4_ := Aside0.mk (Kd.R_below (HW.zR HO428.out) hb); have n5_ := Aside0.mk (Kd.R_below (HW.zR HO431.out) hb); have n6_ := Aside0.mk (below_step HW.zb hb); have n7_ := Aside0.mk (hbox); have n9_ := Aside0.mk ((by rw [hg]; exact (below_size HW.zb) : w.heap.size ≤ gb433)); clear HO410; clear HO413; clear HO416; clear HO425; clear HO428; clear HO431; clear HB; have HO410 := n0_; have HO413 := n1_; have HO416 := n2_; have HO425 := n3_; have HO428 := n4_; have HO431 := n5_; have HB := n6_; have BK433 := n7_; have GE433 := n9_; clear n0_ n1_ n2_ n3_ n4_ n5_ n6_ n7_ n9_; clear hb hbox hg; have hcz22_0 := HW.zc BK433.out 0 (.int .i64 0); have hcz22_1 := HW.zc BK433.out 1 (.string (⟨#[]⟩ : ByteArray)); have hcz22_2 := HW.zc BK433.out 2 (.string (⟨#[]⟩ : ByteArray)); have hcz22_3 := HW.zc BK433.out 3 (.int .i64 0); have hcz22_4 := HW.zc BK433.out 4 (.int .u64 0); have hcz22_5 := HW.zc BK433.out 5 (.int .u64 0); have hcz22_6 := HW.zc BK433.out 6 (.slice none 0 0); have hcz22_7 := HW.zc BK433.out 7 (.slice none 0 0); have hfz23_0 := blk_frozen BK433.out 0; have hfz23_1 := blk_frozen BK433.out 1; have hfz23_2 := blk_frozen BK433.out 2; have hfz23_3 := blk_frozen BK433.out 3; have hfz23_4 := blk_frozen BK433.out 4; have hfz23_5 := blk_frozen BK433.out 5; have hfz23_6 := blk_frozen BK433.out 6; have hfz23_7 := blk_frozen BK433.out 7; obtain ⟨Ao24, co24, eo24⟩ := Kd.R_slice HO425.out; subst eo24; obtain ⟨Ao25, co25, eo25⟩ := Kd.R_slice HO428.out; subst eo25) | ((with_reducible refine gate_dst (N := 19) rfl ?_); (try (refine gate_guard (by rfl) ?_; dsimp only)); refine Kd.R_lit Kd.string _ 9 ?hg (N := 19) ?hd (xs := ([(⟨#[97]⟩ : ByteArray)] : List ByteArray)) (inner := [.string (⟨#[97]⟩ : ByteArray)]) (ok := fun _ => True) (okp := fun _ => True) ?hr ?hp (fun _ hk => hk) trivial (Below.refl _ _) (Nat.le_refl _) (by simp) ?_; (case hd => rfl); (case hg => rfl); (case hr => first | (go_simp; done) | (go_simp; rfl)); (case hp => exact (Reps.one (show Kd.M Kd.string _ _ _ (⟨#[97]⟩ : ByteArray) [.string (⟨#[97]⟩ : ByteArray)] from rfl) (Reps.none _ _))); intro v435 w26 ho27 hb hg_ hnew_; clear hg_ hnew_; (first | rw [← Ny434.out] at ho27 | (simp only [Int.reduceToNat] at ho27; rw [← Ny434.out] at ho27)); have n0_ := Aside0.mk (Kd.R_below (by (with_reducible repeat (first | apply Kd.R_alloc | apply Kd.R_drewN | apply Kd.R_drew)); exact (Kd.R_mono (Kd.R_far (p := ⟨gb433, 7, none⟩) (Kd.R_far (p := ⟨gb433, 6, none⟩) (Kd.R_far (p := ⟨gb433, 5, none⟩) (Kd.R_far (p := ⟨gb433, 4, none⟩) (Kd.R_far (p := ⟨gb433, 3, none⟩) (Kd.R_far (p := ⟨gb433, 2, none⟩) (Kd.R_far (p := ⟨gb433, 1, none⟩) (Kd.R_far (p := ⟨gb433, 0, none⟩) (Kd.R_types HO410.out BK433.out (by decide)) (fun _ hk => hk.2) (.int .i64 t417)) (fun _ hk => hk.2) (.string t418)) (fun _ hk => hk.2) (.string t419)) (fun _ hk => hk.2) (.int .i64 t420)) (fun _ hk => hk.2) (.int .u64 t421)) (fun _ hk => hk.2) (.int .u64 t422)) (fun _ hk => hk.2) (.slice Ao24 t423.length co24)) (fun _ hk => hk.2) (.slice Ao25 t426.length co25)) (fun _ h_ => h_.1))) hb); have n1_ := Aside0.mk (Kd.R_below (by (with_reducible repeat (first | apply Kd.R_alloc | apply Kd.R_drewN | apply Kd.R_drew)); exact (Kd.R_mono (Kd.R_far (p := ⟨gb433, 7, none⟩) (Kd.R_far (p := ⟨gb433, 6, none⟩) (Kd.R_far (p := ⟨gb433, 5, none⟩) (Kd.R_far (p := ⟨gb433, 4, none⟩) (Kd.R_far (p := ⟨gb433, 3, none⟩) (Kd.R_far (p := ⟨gb433, 2, none⟩) (Kd.R_far (p := ⟨gb433, 1, none⟩) (Kd.R_far (p := ⟨gb433, 0, none⟩) (Kd.R_types HO413.out BK433.out (by decide)) (fun _ hk => hk.2) (.int .i64 t417)) (fun _ hk => hk.2) (.string t418)) (fun _ hk => hk.2) (.string t419)) (fun _ hk => hk.2) (.int .i64 t420)) (fun _ hk => hk.2) (.int .u64 t421)) (fun _ hk => hk.2) (.int .u64 t422)) (fun _ hk => hk.2) (.slice Ao24 t423.length co24)) (fun _ hk => hk.2) (.slice Ao25 t426.length co25)) (fun _ h_ => h_.1))) hb); have n2_ := Aside0.mk (Kd.R_below (by (with_reducible repeat (first | apply Kd.R_alloc | apply Kd.R_drewN | apply Kd.R_drew)); exact (Kd.R_mono (Kd.R_far (p := ⟨gb433, 7, none⟩) (Kd.R_far (p := ⟨gb433, 6, none⟩) (Kd.R_far (p := ⟨gb433, 5, none⟩) (Kd.R_far (p := ⟨gb433, 4, none⟩) (Kd.R_far (p := ⟨gb433, 3, none⟩) (Kd.R_far (p := ⟨gb433, 2, none⟩) (Kd.R_far (p := ⟨gb433, 1, none⟩) (Kd.R_far (p := ⟨gb433, 0, none⟩) (Kd.R_types HO416.out BK433.out (by decide)) (fun _ hk => hk.2) (.int .i64 t417)) (fun _ hk => hk.2) (.string t418)) (fun _ hk => hk.2) (.string t419)) (fun _ hk => hk.2) (.int .i64 t420)) (fun _ hk => hk.2) (.int .u64 t421)) (fun _ hk => hk.2) (.int .u64 t422)) (fun _ hk => hk.2) (.slice Ao24 t423.length co24)) (fun _ hk => hk.2) (.slice Ao25 t426.length co25)) (fun _ h_ => h_.1))) hb); have n3_ := Aside0.mk (Kd.R_below (by (with_reducible repeat (first | apply Kd.R_alloc | apply Kd.R_drewN | apply Kd.R_drew)); exact (Kd.R_mono (Kd.R_far (p := ⟨gb433, 7, none⟩) (Kd.R_far (p := ⟨gb433, 6, none⟩) (Kd.R_far (p := ⟨gb433, 5, none⟩) (Kd.R_far (p := ⟨gb433, 4, none⟩) (Kd.R_far (p := ⟨gb433, 3, none⟩) (Kd.R_far (p := ⟨gb433, 2, none⟩) (Kd.R_far (p := ⟨gb433, 1, none⟩) (Kd.R_far (p := ⟨gb433, 0, none⟩) (Kd.R_types HO425.out BK433.out (by decide)) (fun _ hk => hk.2) (.int .i64 t417)) (fun _ hk => hk.2) (.string t418)) (fun _ hk => hk.2) (.string t419)) (fun _ hk => hk.2) (.int .i64 t420)) (fun _ hk => hk.2) (.int .u64 t421)) (fun _ hk => hk.2) (.int .u64 t422)) (fun _ hk => hk.2) (.slice Ao24 t423.length co24)) (fun _ hk => hk.2) (.slice Ao25 t426.length co25)) (fun _ h_ => h_.1))) hb); have n4_ := Aside0.mk (Kd.R_below (by (with_reducible repeat (first | apply Kd.R_alloc | apply Kd.R_drewN | apply Kd.R_drew)); exact (Kd.R_mono (Kd.R_far (p := ⟨gb433, 7, none⟩) (Kd.R_far (p := ⟨gb433, 6, none⟩) (Kd.R_far (p := ⟨gb433, 5, none⟩) (Kd.R_far (p := ⟨gb433, 4, none⟩) (Kd.R_far (p := ⟨gb433, 3, none⟩) (Kd.R_far (p := ⟨gb433, 2, none⟩) (Kd.R_far (p := ⟨gb433, 1, none⟩) (Kd.R_far (p := ⟨gb433, 0, none⟩) (Kd.R_types HO428.out BK433.out (by decide)) (fun _ hk => hk.2) (.int .i64 t417)) (fun _ hk => hk.2) (.string t418)) (fun _ hk => hk.2) (.string t419)) (fun _ hk => hk.2) (.int .i64 t420)) (fun _ hk => hk.2) (.int .u64 t421)) (fun _ hk => hk.2) (.int .u64 t422)) (fun _ hk => hk.2) (.slice Ao24 t423.length co24)) (fun _ hk => hk.2) (.slice Ao25 t426.length co25)) (fun _ h_ => h_.1))) hb); have n5_ := Aside0.mk (Kd.R_below (by (with_reducible repeat (first | apply Kd.R_alloc | apply Kd.R_drewN | apply Kd.R_drew)); exact (Kd.R_mono (Kd.R_far (p := ⟨gb433, 7, none⟩) (Kd.R_far (p := ⟨gb433, 6, none⟩) (Kd.R_far (p := ⟨gb433, 5, none⟩) (Kd.R_far (p := ⟨gb433, 4, none⟩) (Kd.R_far (p := ⟨gb433, 3, none⟩) (Kd.R_far (p := ⟨gb433, 2, none⟩) (Kd.R_far (p := ⟨gb433, 1, none⟩) (Kd.R_far (p := ⟨gb433, 0, none⟩) (Kd.R_types HO431.out BK433.out (by decide)) (fun _ hk => hk.2) (.int .i64 t417)) (fun _ hk => hk.2) (.string t418)) (fun _ hk => hk.2) (.string t419)) (fun _ hk => hk.2) (.int .i64 t420)) (fun _ hk => hk.2) (.int .u64 t421)) (fun _ hk => hk.2) (.int .u64 t422)) (fun _ hk => hk.2) (.slice Ao24 t423.length co24)) (fun _ hk => hk.2) (.slice Ao25 t426.length co25)) (fun _ h_ => h_.1))) hb); have n6_ := Aside0.mk (Kd.R_lower ho27 (below_size HW.zb)); have n7_ := Aside0.mk (blk_below (g := gb433) (o := .cells #[.int .i64 t417, .string t418, .string t419, .int .i64 t420, .int .u64 t421, .int .u64 t422, .slice Ao24 t423.length co24, .slice Ao25 t426.length co25] 44 (0, 0)) (by (with_reducible repeat (first | refine blk_drewN ?_ _ | refine blk_drew ?_ | refine blk_alloc ?_ _)); refine blk_put (cs := #[.int .i64 t417, .string t418, .string t419, .int .i64 t420, .int .u64 t421, .int .u64 t422, .slice Ao24 t423.length co24, .slice none 0 0]) ?_ 7 _ rfl; (with_reducible repeat (first | refine blk_drewN ?_ _ | refine blk_drew ?_ | refine blk_alloc ?_ _)); refine blk_put (cs := #[.int .i64 t417, .string t418, .string t419, .int .i64 t420, .int .u64 t421, .int .u64 t422, .slice none 0 0, .slice none 0 0]) ?_ 6 _ rfl; (with_reducible repeat (first | refine blk_drewN ?_ _ | refine blk_drew ?_ | refine blk_alloc ?_ _)); refine blk_put (cs := #[.int .i64 t417, .string t418, .string t419, .int .i64 t420, .int .u64 t421, .int .u64 0, .slice none 0 0, .slice none 0 0]) ?_ 5 _ rfl; (with_reducible repeat (first | refine blk_drewN ?_ _ | refine blk_drew ?_ | refine blk_alloc ?_ _)); refine blk_put (cs := #[.int .i64 t417, .string t418, .string t419, .int .i64 t420, .int .u64 0, .int .u64 0, .slice none 0 0, .slice none 0 0]) ?_ 4 _ rfl; (with_reducible repeat (first | refine blk_drewN ?_ _ | refine blk_drew ?_ | refine blk_alloc ?_ _)); refine blk_put (cs := #[.int .i64 t417, .string t418, .string t419, .int .i64 0, .int .u64 0, .int .u64 0, .slice none 0 0, .slice none 0 0]) ?_ 3 _ rfl; (with_reducible repeat (first | refine blk_drewN ?_ _ | refine blk_drew ?_ | refine blk_alloc ?_ _)); refine blk_put (cs := #[.int .i64 t417, .string t418, .string (⟨#[]⟩ : ByteArray), .int .i64 0, .int .u64 0, .int .u64 0, .slice none 0 0, .slice none 0 0]) ?_ 2 _ rfl; (with_reducible repeat (first | refine blk_drewN ?_ _ | refine blk_drew ?_ | refine blk_alloc ?_ _)); refine blk_put (cs := #[.int .i64 t417, .string (⟨#[]⟩ : ByteArray), .string (⟨#[]⟩ : ByteArray), .int .i64 0, .int .u64 0, .int .u64 0, .slice none 0 0, .slice none 0 0]) ?_ 1 _ rfl; (with_reducible repeat (first | refine blk_drewN ?_ _ | refine blk_drew ?_ | refine blk_alloc ?_ _)); refine blk_put (cs := #[.int .i64 0, .string (⟨#[]⟩ : ByteArray), .string (⟨#[]⟩ : ByteArray), .int .i64 0, .int .u64 0, .int .u64 0, .slice none 0 0, .slice none 0 0]) ?_ 0 _ rfl; (with_reducible repeat (first | refine blk_drewN ?_ _ | refine blk_drew ?_ | refine blk_alloc ?_ _)); exact BK433.out) hb); have n8_ := Aside0.mk (below_step HW.zb hb); clear HO410; clear HO413; clear HO416; clear HO425; clear HO428; clear HO431; clear BK433; clear HB; have HO410 := n0_; have HO413 := n1_; have HO416 := n2_; have HO425 := n3_; have HO428 := n4_; have HO431 := n5_; have HO436 := n6_; have BK433 := n7_; have HB := n8_; clear n0_ n1_ n2_ n3_ n4_ n5_ n6_ n7_ n8_; clear hb ho27; obtain ⟨Ao28, co28, eo28⟩ := Kd.R_slice HO413.out; subst eo28; obtain ⟨Ao29, co29, eo29⟩ := Kd.R_slice HO436.out; subst eo29) | ((with_reducible refine gate_callee (f := 45) rfl ?_); refine HW.gz (some 20) rfl rfl Tryz.func45 (by kernel_rfl) rfl #[.slice Ao28 t411.length co28, .slice Ao29 y434.length co29] rfl ?_; (with_reducible refine (impl_Lookup.calls k _ _ t411 _ _ y434 t437 t438 t441 _ ?side1 ?side2 ?side3 ?side4 A3.out).mono ?_); (case side1 => repeat (first | exact (Kd.R_reads' HO413.out).2.2 | (with_reducible refine Kd.C_alloc ?_ _) | (with_reducible refine Kd.C_drewN ?_ _) | (with_reducible refine Kd.C_drew ?_))); (case side2 => exact (Kd.R_reads' HO413.out).2.1); (case side3 => repeat (first | exact (Kd.R_reads' HO436.out).2.2 | (with_reducible refine Kd.C_alloc ?_ _) | (with_reducible refine Kd.C_drewN ?_ _) | (with_reducible refine Kd.C_drew ?_))); (case side4 => exact (Kd.R_reads' HO436.out).2.1); rintro e w30 ⟨v439, rfl, ho0, hb⟩; refine ⟨_, rfl, ?_⟩; have n0_ := Aside0.mk (Kd.R_elder' (HW.zR HO410.out) (Kd.R_base ho0) hb); have n1_ := Aside0.mk (Kd.R_elder' (HW.zR HO413.out) (Kd.R_base ho0) hb); have n2_ := Aside0.mk (Kd.R_elder' (HW.zR HO416.out) (Kd.R_base ho0) hb); have n3_ := Aside0.mk (Kd.R_elder' (HW.zR HO425.out) (Kd.R_base ho0) hb); have n4_ := Aside0.mk (Kd.R_elder' (HW.zR HO428.out) (Kd.R_base ho0) hb); have n5_ := Aside0.mk (Kd.R_elder' (HW.zR HO431.out) (Kd.R_base ho0) hb); have n6_ := Aside0.mk (Kd.R_below (HW.zR HO436.out) hb); have n7_ := Aside0.mk (Kd.R_lower (Kd.R_new' (Kd.R_new' (Kd.R_new' (Kd.R_new' ho0 (Kd.R_lt (HW.zR HO413.out))) (Kd.R_lt (HW.zR HO416.out))) (Kd.R_lt (HW.zR HO425.out))) (Kd.R_lt (HW.zR HO431.out))) (below_size HW.zb)); have n8_ := Aside0.mk (blk_below (g := gb433) (o := .cells #[.int .i64 t417, .string t418, .string t419, .int .i64 t420, .int .u64 t421, .int .u64 t422, .slice Ao24 t423.length co24, .slice Ao25 t426.length co25] 44 (0, 0)) (HW.zB BK433.out) hb); have n9_ := Aside0.mk (below_step HW.zb hb); clear HO410; clear HO413; clear HO416; clear HO425; clear HO428; clear HO431; clear HO436; clear BK433; clear HB; have HO410 := n0_; have HO413 := n1_; have HO416 := n2_; have HO425 := n3_; have HO428 := n4_; have HO431 := n5_; have HO436 := n6_; have HO440 := n7_; have BK433 := n8_; have HB := n9_; clear n0_ n1_ n2_ n3_ n4_ n5_ n6_ n7_ n8_ n9_; (try clear hb); (try clear hb2); (try clear hk); (try clear hi); (try clear ho0)) | ((with_reducible refine gate_dst (N := 5) rfl ?_); (try (refine gate_guard (by rfl) ?_; dsimp only)); refine box_event ?hg (N := 5) ?hd (cs := #[.int .i64 0, .slice none 0 0]) (t := 38) ?hr ?_; (case hd => rfl); (case hg => rfl); (case hr => first | (go_simp; done) | (go_simp; rfl)); intro gb442 hg w31 hbox hb; have n0_ := Aside0.mk (Kd.R_below (HW.zR HO410.out) hb); have n1_ := Aside0.mk (Kd.R_below (HW.zR HO413.out) hb); have n2_ := Aside0.mk (Kd.R_below (HW.zR HO416.out) hb); have n3_ := Aside0.mk (Kd.R_below (HW.zR HO425.out) hb); have n4_ := Aside0.mk (Kd.R_below (HW.zR HO428.out) hb); have n5_ := Aside0.mk (Kd.R_below (HW.zR HO431.out) hb); have n6_ := Aside0.mk (Kd.R_below (HW.zR HO436.out) hb); have n7_ := Aside0.mk (Kd.R_below (HW.zR HO440.out) hb); have n8_ := Aside0.mk (blk_below (g := gb433) (o := .cells #[.int .i64 t417, .string t418, .string t419, .int .i64 t420, .int .u64 t421, .int .u64 t422, .slice Ao24 t423.length co24, .slice Ao25 t426.length co25] 44 (0, 0)) (HW.zB BK433.out) hb); have n9_ := Aside0.mk (below_step HW.zb hb); have n10_ := Aside0.mk (hbox); have n12_ := Aside0.mk ((by rw [hg]; exact (below_size HW.zb) : w.heap.size ≤ gb442)); have n13_ := Aside0.mk ((by rw [hg]; exact Nat.ne_of_lt (blk_lt (g := gb433) (o := .cells #[.int .i64 t417, .string t418, .string t419, .int .i64 t420, .int .u64 t421, .int .u64 t422, .slice Ao24 t423.length co24, .slice Ao25 t426.length co25] 44 (0, 0)) (HW.zB BK433.out)) : gb433 ≠ gb442)); have n14_ := Aside0.mk ((by rw [hg]; exact Nat.ne_of_gt (blk_lt (g := gb433) (o := .cells #[.int .i64 t417, .string t418, .string t419, .int .i64 t420, .int .u64 t421, .int .u64 t422, .slice Ao24 t423.length co24, .slice Ao25 t426.length co25] 44 (0, 0)) (HW.zB BK433.out)) : gb442 ≠ gb433)); clear HO410; clear HO413; clear HO416; clear HO425; clear HO428; clear HO431; clear HO436; clear HO440; clear BK433; clear HB; have HO410 := n0_; have HO413 := n1_; have HO416 := n2_; have HO425 := n3_; have HO428 := n4_; have HO431 := n5_; have HO436 := n6_; have HO440 := n7_; have BK433 := n8_; have HB := n9_; have BK442 := n10_; have GE442 := n12_; have NB433_442 := n13_; have NB442_433 := n14_; clear n0_ n1_ n2_ n3_ n4_ n5_ n6_ n7_ n8_ n9_ n10_ n12_ n13_ n14_; clear hb hbox hg; have hnb32 := NB442_433.out; have hnc32 := NB433_442.out; have hcz33_0 := HW.zc BK442.out 0 (.int .i64 0); have hcz33_1 := HW.zc BK442.out 1 (.slice none 0 0); have hfz34_0 := blk_frozen BK442.out 0; have hfz34_1 := blk_frozen BK442.out 1; obtain ⟨Ao35, co35, eo35⟩ := Kd.R_slice HO440.out; subst eo35) | ((with_reducible refine gate_store (t := 38) (p := 5) rfl ?_); refine store_event (t := 38) (p := 5) (v := ?vo_w36) (w1 := ((w31.setCell ⟨gb442, 0, none⟩ (.int .i64 t437)).setCell ⟨gb442, 1, none⟩ (.slice Ao35 t438.length co35))) ?hg ?ho ?hn ?hr ?_; (case ho => rfl); (case hg => rfl); (case hn => rfl); (case hr => first | (go_simp; done) | (go_simp; rfl)); intro w36 hw; have n0_ : Aside0 (Kd.R k95 95 w36 w.heap.size (fun k_ => some k_ ≠ (.slice Ao28 t411.length co28 : Value).ownBlock ∧ some k_ ≠ (.slice Ao19 y414.length co19 : Value).ownBlock ∧ some k_ ≠ (.slice Ao24 t423.length co24 : Value).ownBlock ∧ some k_ ≠ (.slice Ao25 t426.length co25 : Value).ownBlock ∧ some k_ ≠ (v430 : Value).ownBlock ∧ some k_ ≠ (.slice Ao35 t438.length co35 : Value).ownBlock) (.slice Ao15 y408.length co15) y408) := ⟨(by rw [hw]; exact (by (with_reducible repeat (first | apply Kd.R_alloc | apply Kd.R_drewN | apply Kd.R_drew)); exact Kd.R_mono (Kd.R_far (p := ⟨gb442, 1, none⟩) (Kd.R_far (p := ⟨gb442, 0, none⟩) (Kd.R_types HO410.out BK442.out (by decide)) (fun _ hk => hk.2) (.int .i64 t437)) (fun _ hk => hk.2) (.slice Ao35 t438.length co35)) (fun _ hk => ⟨hk.1.1.1.1.1.1.2, ⟨hk.1.1.1.1.1.2, ⟨hk.1.1.1.1.2, ⟨hk.1.1.1.2, ⟨hk.1.1.2, hk.1.2⟩⟩⟩⟩⟩)))⟩; have n1_ : Aside0 (Kd.R (Kd.int .u8) 5 w36 w.heap.size (fun k_ => some k_ ≠ (.slice Ao19 y414.length co19 : Value).ownBlock ∧ some k_ ≠ (.slice Ao24 t423.length co24 : Value).ownBlock ∧ some k_ ≠ (v430 : Value).ownBlock ∧ some k_ ≠ (.slice Ao35 t438.length co35 : Value).ownBlock) (.slice Ao28 t411.length co28) t411) := ⟨(by rw [hw]; exact (by (with_reducible repeat (first | apply Kd.R_alloc | apply Kd.R_drewN | apply Kd.R_drew)); exact Kd.R_mono (Kd.R_far (p := ⟨gb442, 1, none⟩) (Kd.R_far (p := ⟨gb442, 0, none⟩) (Kd.R_types HO413.out BK442.out (by decide)) (fun _ hk => hk.2) (.int .i64 t437)) (fun _ hk => hk.2) (.slice Ao35 t438.length co35)) (fun _ hk => ⟨hk.1.1.1.1.2, ⟨hk.1.1.1.2, ⟨hk.1.1.2, hk.1.2⟩⟩⟩)))⟩; have n2_ : Aside0 (Kd.R (Kd.int .u8) 5 w36 w.heap.size (fun k_ => some k_ ≠ (.slice Ao28 t411.length co28 : Value).ownBlock ∧ some k_ ≠ (.slice Ao24 t423.length co24 : Value).ownBlock ∧ some k_ ≠ (v430 : Value).ownBlock ∧ some k_ ≠ (.slice Ao35 t438.length co35 : Value).ownBlock) (.slice Ao19 y414.length co19) y414) := ⟨(by rw [hw]; exact (by (with_reducible repeat (first | apply Kd.R_alloc | apply Kd.R_drewN | apply Kd.R_drew)); exact Kd.R_mono (Kd.R_far (p := ⟨gb442, 1, none⟩) (Kd.R_far (p := ⟨gb442, 0, none⟩) (Kd.R_types HO416.out BK442.out (by decide)) (fun _ hk => hk.2) (.int .i64 t437)) (fun _ hk => hk.2) (.slice Ao35 t438.length co35)) (fun _ hk => ⟨hk.1.1.1.1.2, ⟨hk.1.1.1.2, ⟨hk.1.1.2, hk.1.2⟩⟩⟩)))⟩; have n3_ : Aside0 (Kd.R (Kd.int .u8) 5 w36 w.heap.size (fun k_ => some k_ ≠ (.slice Ao28 t411.length co28 : Value).ownBlock ∧ some k_ ≠ (.slice Ao19 y414.length co19 : Value).ownBlock ∧ some k_ ≠ (v430 : Value).ownBlock ∧ some k_ ≠ (.slice Ao35 t438.length co35 : Value).ownBlock) (.slice Ao24 t423.length co24) t423) := ⟨(by rw [hw]; exact (by (with_reducible repeat (first | apply Kd.R_alloc | apply Kd.R_drewN | apply Kd.R_drew)); exact Kd.R_mono (Kd.R_far (p := ⟨gb442, 1, none⟩) (Kd.R_far (p := ⟨gb442, 0, none⟩) (Kd.R_types HO425.out BK442.out (by decide)) (fun _ hk => hk.2) (.int .i64 t437)) (fun _ hk => hk.2) (.slice Ao35 t438.length co35)) (fun _ hk => ⟨hk.1.1.1.2, ⟨hk.1.1.2, ⟨hk.1.1.1.1, hk.1.2⟩⟩⟩)))⟩; have n4_ : Aside0 (Kd.R k95 95 w36 w.heap.size (fun k_ => some k_ ≠ (.slice Ao15 y408.length co15 : Value).ownBlock ∧ some k_ ≠ (.slice Ao28 t411.length co28 : Value).ownBlock ∧ some k_ ≠ (.slice Ao19 y414.length co19 : Value).ownBlock ∧ some k_ ≠ (.slice Ao24 t423.length co24 : Value).ownBlock ∧ some k_ ≠ (v430 : Value).ownBlock ∧ some k_ ≠ (.slice Ao35 t438.length co35 : Value).ownBlock) (.slice Ao25 t426.length co25) t426) := ⟨(by rw [hw]; exact (by (with_reducible repeat (first | apply Kd.R_alloc | apply Kd.R_drewN | apply Kd.R_drew)); exact Kd.R_mono (Kd.R_far (p := ⟨gb442, 1, none⟩) (Kd.R_far (p := ⟨gb442, 0, none⟩) (Kd.R_types HO428.out BK442.out (by decide)) (fun _ hk => hk.2) (.int .i64 t437)) (fun _ hk => hk.2) (.slice Ao35 t438.length co35)) (fun _ hk => ⟨hk.1.1.1.1.2, ⟨hk.1.1.1.2, ⟨hk.1.1.2, ⟨hk.1.1.1.1.1.1, ⟨hk.1.1.1.1.1.2, hk.1.2⟩⟩⟩⟩⟩)))⟩; have n5_ : Aside0 (Kd.R (Kd.int .u8) 5 w36 w.heap.size (fun k_ => some k_ ≠ (.slice Ao28 t411.length co28 : Value).ownBlock ∧ some k_ ≠ (.slice Ao19 y414.length co19 : Value).ownBlock ∧ some k_ ≠ (.slice Ao24 t423.length co24 : Value).ownBlock ∧ some k_ ≠ (.slice Ao35 t438.length co35 : Value).ownBlock) v430 t429) := ⟨(by rw [hw]; exact (by (with_reducible repeat (first | apply Kd.R_alloc | apply Kd.R_drewN | apply Kd.R_drew)); exact Kd.R_mono (Kd.R_far (p := ⟨gb442, 1, none⟩) (Kd.R_far (p := ⟨gb442, 0, none⟩) (Kd.R_types HO431.out BK442.out (by decide)) (fun _ hk => hk.2) (.int .i64 t437)) (fun _ hk => hk.2) (.slice Ao35 t438.length co35)) (fun _ hk => ⟨hk.1.1.1.2, ⟨hk.1.1.2, ⟨hk.1.1.1.1, hk.1.2⟩⟩⟩)))⟩; have n6_ : Aside0 (Kd.R Kd.string 9 w36 w.heap.size (fun _ => True) (.slice Ao29 y434.length co29) y434) := ⟨(by rw [hw]; exact (by (with_reducible repeat (first | apply Kd.R_alloc | apply Kd.R_drewN | apply Kd.R_drew)); exact Kd.R_mono (Kd.R_far (p := ⟨gb442, 1, none⟩) (Kd.R_far (p := ⟨gb442, 0, none⟩) (Kd.R_types HO436.out BK442.out (by decide)) (fun _ hk => hk.2) (.int .i64 t437)) (fun _ hk => hk.2) (.slice Ao35 t438.length co35)) (fun _ hk => trivial)))⟩; have n7_ : Aside0 (Kd.R (Kd.int .u8) 5 w36 w.heap.size (fun k_ => some k_ ≠ (.slice Ao28 t411.length co28 : Value).ownBlock ∧ some k_ ≠ (.slice Ao19 y414.length co19 : Value).ownBlock ∧ some k_ ≠ (.slice Ao24 t423.length co24 : Value).ownBlock ∧ some k_ ≠ (v430 : Value).ownBlock) (.slice Ao35 t438.length co35) t438) := ⟨(by rw [hw]; exact (by (with_reducible repeat (first | apply Kd.R_alloc | apply Kd.R_drewN | apply Kd.R_drew)); exact Kd.R_mono (Kd.R_far (p := ⟨gb442, 1, none⟩) (Kd.R_far (p := ⟨gb442, 0, none⟩) (Kd.R_types HO440.out BK442.out (by decide)) (fun _ hk => hk.2) (.int .i64 t437)) (fun _ hk => hk.2) (.slice Ao35 t438.length co35)) (fun _ hk => ⟨hk.1.1.1.1.2, ⟨hk.1.1.1.2, ⟨hk.1.1.2, hk.1.2⟩⟩⟩)))⟩; have n8_ : Aside0 (w36.heap[gb433]? = some (.cells #[.int .i64 t417, .string t418, .string t419, .int .i64 t420, .int .u64 t421, .int .u64 t422, .slice Ao24 t423.length co24, .slice Ao25 t426.length co25] 44 (0, 0))) := ⟨(by rw [hw]; exact (by (with_reducible repeat (first | refine blk_drewN ?_ _ | refine blk_drew ?_ | refine blk_alloc ?_ _)); refine blk_far ?_ NB433_442.out _; (with_reducible repeat (first | refine blk_drewN ?_ _ | refine blk_drew ?_ | refine blk_alloc ?_ _)); refine blk_far ?_ NB433_442.out _; (with_reducible repeat (first | refine blk_drewN ?_ _ | refine blk_drew ?_ | refine blk_alloc ?_ _)); exact BK433.out))⟩; have n9_ : Aside0 (w36.heap[gb442]? = some (.cells #[.int .i64 t437, .slice Ao35 t438.length co35] 38 (0, 0))) := ⟨(by rw [hw]; exact (by (with_reducible repeat (first | refine blk_drewN ?_ _ | refine blk_drew ?_ | refine blk_alloc ?_ _)); refine blk_put (cs := #[.int .i64 t437, .slice none 0 0]) ?_ 1 _ rfl; (with_reducible repeat (first | refine blk_drewN ?_ _ | refine blk_drew ?_ | refine blk_alloc ?_ _)); refine blk_put (cs := #[.int .i64 0, .slice none 0 0]) ?_ 0 _ rfl; (with_reducible repeat (first | refine blk_drewN ?_ _ | refine blk_drew ?_ | refine blk_alloc ?_ _)); exact BK442.out))⟩; have n10_ : Aside0 (Below w.heap.size w w36) := ⟨(by rw [hw]; exact HW.zb)⟩; clear hw; clear HO410; clear HO413; clear HO416; clear HO425; clear HO428; clear HO431; clear HO436; clear HO440; clear BK433; clear BK442; clear HB; have HO410 := n0_; have HO413 := n1_; have HO416 := n2_; have HO425 := n3_; have HO428 := n4_; have HO431 := n5_; have HO436 := n6_; have HO440 := n7_; have BK433 := n8_; have BK442 := n9_; have HB := n10_; clear n0_ n1_ n2_ n3_ n4_ n5_ n6_ n7_ n8_ n9_ n10_; have hcv37 := own_string (P := Tryz.prog) Tryz.underlying22 Tryz.underlying5 Tryz.underlying9 (Kd.own_of_R HO413.out); have hcz38_0 := HW.zc BK433.out 0 (.int .i64 t417); have hcz38_1 := HW.zc BK433.out 1 (.string t418); have hcz38_2 := HW.zc BK433.out 2 (.string t419); have hcz38_3 := HW.zc BK433.out 3 (.int .i64 t420); have hcz38_4 := HW.zc BK433.out 4 (.int .u64 t421); have hcz38_5 := HW.zc BK433.out 5 (.int .u64 t422); have hcz38_6 := HW.zc BK433.out 6 (.slice Ao24 t423.length co24); have hcz38_7 := HW.zc BK433.out 7 (.slice Ao25 t426.length co25); obtain ⟨Ao39, co39, eo39⟩ := Kd.R_slice HO431.out; subst eo39; have hcz40_0 := HW.zc BK442.out 0 (.int .i64 t437); have hcz40_1 := HW.zc BK442.out 1 (.slice Ao35 t438.length co35); have q41 : (11 : Int) ≤ ((t411.length : Int) : Int) := of_decide_eq_true (by first | (with_reducible assumption) | assumption); obtain ⟨i041, hi041, _, hsz41, _⟩ := info_parts info5; have hroom41 : t411.length ≤ co28 := (Kd.R_reads' HO413.out).2.1; have hC41 : Kd.C (Kd.int .u8) _ Ao28 t411.length t411 := (Kd.R_reads' HO413.out).2.2; have hcut41 := cut_to (P := Tryz.prog) 22 5 .i64 Tryz.underlying22 hi041 Ao28 t411.length co28 11 (by omega) q41 hroom41; have hr41 := Kd.C_take (m := 11) hC41 (by omega); have hy41 : y443.length = (11 : Int).toNat := (by rw [Ny443.out, List.length_take]; omega); rw [← Ny443.out] at hr41; rw [← hy41] at hcut41; have HR446 := Aside0.mk hr41; have HC446 := Aside0.mk (show y443.length ≤ co28 from by omega); clear hr41 hC41 hroom41 hi041 hsz41; have KY41 := Aside0.mk hy41; clear hy41; have KL41 := Aside0.mk (show 11 ≤ t411.length from by omega); replace q41 := eq_true q41) | (go_at_call 57; (with_reducible refine (impl_Validate.calls _ _ y443 t447 _ ?side1 ?side2 A12.out).mono ?_); (case side1 => repeat (first | exact (by repeat (first | (with_reducible exact HR446.out) | (with_reducible refine Kd.C_alloc ?_ _) | (with_reducible refine Kd.C_drewN ?_ _) | (with_reducible refine Kd.C_drew ?_) | exact HR446.out)) | (with_reducible refine Kd.C_alloc ?_ _) | (with_reducible refine Kd.C_drewN ?_ _) | (with_reducible refine Kd.C_drew ?_))); (case side2 => exact HC446.out); rintro e w42 ⟨rfl, hb⟩; have n11_ := Aside0.mk (below_step HW.zb hb); clear HB; have HB := n11_; clear n11_; (try clear hb); (try clear hb2); (try clear hk); (try clear hi)))
    go_ret
    exact ⟨by first | rfl | (simp [errW_none, errW_some] <;> rfl) | (simp [*, errW_none, errW_some] <;> rfl), HW.zb⟩

/-! ### laws_docModest: function 16 -/
def laws_docModest.f (l0 : List Int) : Option (Bool) := some (decide ((l0.length : Int) ≤ 5000))
set_option maxHeartbeats 8000000 in
set_option maxRecDepth 100000 in
theorem laws_docModest.calls (A0 : Option Addr) (c0 : Nat) (l0 : List Int) (r : Bool) (w : World) (hr0 : Kd.C (Kd.int .u8) w A0 l0.length l0) (hc0 : l0.length ≤ c0) (h : laws_docModest.f l0 = some r) :
    Calls Tryz.prog 16 #[.slice A0 l0.length c0] w fun e w' => e = .returned (.bool r) ∧ Drawn0 w w' := by
  have HR0 := Aside0.mk hr0
  have HC0 := Aside0.mk hc0
  clear hr0 hc0
  have H : (some (decide ((l0.length : Int) ≤ 5000))) = some r := h
  clear h
  as_aux_lemma =>
    obtain rfl := Option.some.inj H
    go_enter Tryz.func16, Tryz.ntmps16
    go_wp2
    go_ret
    exact ⟨by first | rfl | (simp; done) | (simp [*]; done), by repeat (first | exact Drawn0.refl _ | apply Drawn0.step)⟩

/-! ### spec_DocNumber: function 17 -/
def spec_DocNumber.f (l0 : List Int) : Option (Int × Bool) := if (l0.length : Int) < 4 then (some (0, false)) else (if 0 < (l0.length : Int) then (if 1 < (l0.length : Int) then (if 2 < (l0.length : Int) then (if 3 < (l0.length : Int) then (some (wrap64 (wrap32 (Go.bits .or .u32 (Go.bits .or .u32 (Go.bits .or .u32 ((rd l0 0) % 4294967296) ((((rd l0 1) % 4294967296) * 256) % 4294967296)) ((((rd l0 2) % 4294967296) * 65536) % 4294967296)) ((((rd l0 3) % 4294967296) * 16777216) % 4294967296))), true)) else (none)) else (none)) else (none)) else (none))
set_option maxHeartbeats 8000000 in
set_option maxRecDepth 100000 in
theorem spec_DocNumber.calls (A0 : Option Addr) (c0 : Nat) (l0 : List Int) (r1 : Int) (r2 : Bool) (w : World) (hr0 : Kd.C (Kd.int .u8) w A0 l0.length l0) (hc0 : l0.length ≤ c0) (h : spec_DocNumber.f l0 = some (r1, r2)) :
    Calls Tryz.prog 17 #[.slice A0 l0.length c0] w fun e w' => e = .returned (.tuple #[.int .i64 r1, .bool r2]) ∧ Drawn0 w w' := by
  have HR0 := Aside0.mk hr0
  have HC0 := Aside0.mk hc0
  clear hr0 hc0
  have H : (if (l0.length : Int) < 4 then (some (0, false)) else (if 0 < (l0.length : Int) then (if 1 < (l0.length : Int) then (if 2 < (l0.length : Int) then (if 3 < (l0.length : Int) then (some (wrap64 (wrap32 (Go.bits .or .u32 (Go.bits .or .u32 (Go.bits .or .u32 ((rd l0 0) % 4294967296) ((((rd l0 1) % 4294967296) * 256) % 4294967296)) ((((rd l0 2) % 4294967296) * 65536) % 4294967296)) ((((rd l0 3) % 4294967296) * 16777216) % 4294967296))), true)) else (none)) else (none)) else (none)) else (none))) = some (r1, r2) := h
  clear h
  by_cases c2 : (l0.length : Int) < 4
  · rw [if_pos c2] at H
    have c2b0 : decide ((l0.length : Int) < 4) = true := decide_eq_true c2
    have c2b1 : decide (l0.length < 4) = true := decide_eq_true (by omega)
    clear c2
    as_aux_lemma =>
      simp only [Option.some.injEq, Prod.mk.injEq] at H
      obtain ⟨rfl, rfl⟩ := H
      go_enter Tryz.func17, Tryz.ntmps17
      go_wp2
      repeat (go_quiet (fail); try go_wp2)
      go_ret2
      exact ⟨by first | rfl | (simp; done) | (simp [*]; done), by repeat (first | exact Drawn0.refl _ | apply Drawn0.step)⟩
  rw [if_neg c2] at H
  have c2b0 : decide ((l0.length : Int) < 4) = false := decide_eq_false c2
  have c2b1 : decide (l0.length < 4) = false := decide_eq_false (by omega)
  clear c2
  by_cases c3 : 0 < (l0.length : Int)
  rotate_left
  · rw [if_neg c3] at H
    exact absurd H (by simp)
  rw [if_pos c3] at H
  have c3b0 : decide (0 < (l0.length : Int)) = true := decide_eq_true c3
  have c3b1 : decide (0 < l0.length) = true := decide_eq_true (by omega)
  clear c3
  by_cases c4 : 1 < (l0.length : Int)
  rotate_left
  · rw [if_neg c4] at H
    exact absurd H (by simp)
  rw [if_pos c4] at H
  have c4b0 : decide (1 < (l0.length : Int)) = true := decide_eq_true c4
  have c4b1 : decide (1 < l0.length) = true := decide_eq_true (by omega)
  clear c4
  by_cases c5 : 2 < (l0.length : Int)
  rotate_left
  · rw [if_neg c5] at H
    exact absurd H (by simp)
  rw [if_pos c5] at H
  have c5b0 : decide (2 < (l0.length : Int)) = true := decide_eq_true c5
  have c5b1 : decide (2 < l0.length) = true := decide_eq_true (by omega)
  clear c5
  by_cases c6 : 3 < (l0.length : Int)
  rotate_left
  · rw [if_neg c6] at H
    exact absurd H (by simp)
  rw [if_pos c6] at H
  have c6b0 : decide (3 < (l0.length : Int)) = true := decide_eq_true c6
  have c6b1 : decide (3 < l0.length) = true := decide_eq_true (by omega)
  clear c6
  as_aux_lemma =>
    simp only [Option.some.injEq, Prod.mk.injEq] at H
    obtain ⟨rfl, rfl⟩ := H
    have p448 : 0 ≤ (0 : Int) := (by omega)
    have q448 : 0 < (l0.length : Int) := of_decide_eq_true (by first | (with_reducible assumption) | assumption)
    obtain ⟨ad448, e448, hx448_0⟩ := Kd.at_int HR0.out 0 p448 q448
    cases e448
    have qi448 : (0 < l0.length) = True := eq_true (by omega)
    (try rw [show ((0 : Int)).toNat = 0 from rfl] at hx448_0)
    (try rw [Addr.add_zero'] at hx448_0)
    replace p448 := eq_true p448
    replace q448 := eq_true q448
    have p449 : 0 ≤ (1 : Int) := (by omega)
    have q449 : 1 < (l0.length : Int) := of_decide_eq_true (by first | (with_reducible assumption) | assumption)
    obtain ⟨ad449, e449, hx449_0⟩ := Kd.at_int HR0.out 1 p449 q449
    obtain rfl : ad448 = ad449 := (by injection e449)
    (try simp only [show (1 : Int).toNat = 1 from rfl, Nat.reduceMul, Nat.reduceEqDiff, Go.Addr.add, ↓reduceIte] at hx449_0)
    have qi449 : (1 < l0.length) = True := eq_true (by omega)
    (try rw [show ((1 : Int)).toNat = 1 from rfl] at hx449_0)
    replace p449 := eq_true p449
    replace q449 := eq_true q449
    have p450 : 0 ≤ (2 : Int) := (by omega)
    have q450 : 2 < (l0.length : Int) := of_decide_eq_true (by first | (with_reducible assumption) | assumption)
    obtain ⟨ad450, e450, hx450_0⟩ := Kd.at_int HR0.out 2 p450 q450
    obtain rfl : ad448 = ad450 := (by injection e450)
    (try simp only [show (2 : Int).toNat = 2 from rfl, Nat.reduceMul, Nat.reduceEqDiff, Go.Addr.add, ↓reduceIte] at hx450_0)
    have qi450 : (2 < l0.length) = True := eq_true (by omega)
    (try rw [show ((2 : Int)).toNat = 2 from rfl] at hx450_0)
    replace p450 := eq_true p450
    replace q450 := eq_true q450
    have p451 : 0 ≤ (3 : Int) := (by omega)
    have q451 : 3 < (l0.length : Int) := of_decide_eq_true (by first | (with_reducible assumption) | assumption)
    obtain ⟨ad451, e451, hx451_0⟩ := Kd.at_int HR0.out 3 p451 q451
    obtain rfl : ad448 = ad451 := (by injection e451)
    (try simp only [show (3 : Int).toNat = 3 from rfl, Nat.reduceMul, Nat.reduceEqDiff, Go.Addr.add, ↓reduceIte] at hx451_0)
    have qi451 : (3 < l0.length) = True := eq_true (by omega)
    (try rw [show ((3 : Int)).toNat = 3 from rfl] at hx451_0)
    replace p451 := eq_true p451
    replace q451 := eq_true q451
    go_enter Tryz.func17, Tryz.ntmps17
    go_wp2
    repeat (go_quiet (fail); try go_wp2)
    go_ret2
    exact ⟨by first | rfl | (simp; done) | (simp [*]; done), by repeat (first | exact Drawn0.refl _ | apply Drawn0.step)⟩

/-! ### spec_DocName: function 14 -/
def spec_DocName.l0 : Nat → List Int → Int → Option (ByteArray × Int × Bool)
  | 0, _, _ => none
  | k + 1, x0, x5 => if x5 < (x0.length : Int) then (if 0 ≤ x5 then (if (rd x0 x5) = 0 then (if x5 ≤ (x0.length : Int) then (some (strOfNums (x0.take (x5 : Int).toNat), wrap64 (x5 + 1), true)) else (none)) else (spec_DocName.l0 k x0 (wrap64 (x5 + 1)))) else (none)) else (some ((⟨#[]⟩ : ByteArray), 0, false))
def spec_DocName.f (k : Nat) (l0 : List Int) : Option (ByteArray × Int × Bool) := spec_DocName.l0 k l0 0
theorem spec_DocName.mono_l : ∀ k, (∀ y0 y1, LeO (spec_DocName.l0 k y0 y1) (spec_DocName.l0 (k + 1) y0 y1))
  | 0 => fun _ _ r h => by simp [spec_DocName.l0] at h
  | k + 1 => by
    have ih0 := spec_DocName.mono_l k
    · intro y0 y1
      unfold spec_DocName.l0
      repeat' first
      | (with_reducible exact ih0 _ _)
      | (with_reducible exact LeO.refl _)
      | (with_reducible exact LeO.none _)
      | (with_reducible refine LeO.ite ?_ ?_)
      | (with_reducible refine LeO.bind ?_ (fun _ => ?_))
      | exact ih0 _ _
      | exact LeO.none _
      | refine LeO.ite ?_ ?_
      | refine LeO.bind ?_ (fun _ => ?_)
theorem spec_DocName.mono : ∀ a0 k, LeO (spec_DocName.f k a0) (spec_DocName.f (k + 1) a0) := by
  intro a0 k
  have ih0 := spec_DocName.mono_l k
  unfold spec_DocName.f
  repeat' first
      | (with_reducible exact ih0 _ _)
      | (with_reducible exact LeO.refl _)
      | (with_reducible exact LeO.none _)
      | (with_reducible refine LeO.ite ?_ ?_)
      | (with_reducible refine LeO.bind ?_ (fun _ => ?_))
      | exact ih0 _ _
      | exact LeO.none _
      | refine LeO.ite ?_ ?_
      | refine LeO.bind ?_ (fun _ => ?_)
set_option maxHeartbeats 8000000 in
set_option maxRecDepth 100000 in
theorem spec_DocName.calls (k : Nat) (A0 : Option Addr) (c0 : Nat) (l0 : List Int) (r1 : ByteArray) (r2 : Int) (r3 : Bool) (w : World) (hr0 : Kd.C (Kd.int .u8) w A0 l0.length l0) (hc0 : l0.length ≤ c0) (h : spec_DocName.f k l0 = some (r1, r2, r3)) :
    Calls Tryz.prog 14 #[.slice A0 l0.length c0] w fun e w' => e = .returned (.tuple #[.string r1, .int .i64 r2, .bool r3]) ∧ Drawn0 w w' := by
  have HR0 := Aside0.mk hr0
  have HC0 := Aside0.mk hc0
  clear hr0 hc0
  have H : (spec_DocName.l0 k l0 0) = some (r1, r2, r3) := h
  clear h
  have H' := Aside0.mk H
  clear H
  go_enter Tryz.func14, Tryz.ntmps14
  go_wp2
  go_loopg [5] k (fun kq v5 w' => ∃ (x5_1 : Int), v5 = .int .i64 x5_1 ∧ Aside0 (spec_DocName.l0 kq l0 x5_1 = some (r1, r2, r3)) ∧ Aside0 (kq ≤ k) ∧ Drawn0 w w')
  case atStart => exact ⟨(0), (by first | rfl | (simp; done) | (simp [*]; done)), H', ⟨Nat.le_refl _⟩, by repeat (first | exact Drawn0.refl _ | apply Drawn0.step)⟩
  case round =>
    clear H'
    try clear c1
    obtain ⟨x5_1, rfl, HA, HK1, ⟨m1, rfl⟩⟩ := hrel
    cases gk with
    | zero => exact absurd HA.out (by simp [spec_DocName.l0])
    | succ k1 =>
      have H := HA.out
      clear HA
      simp only [spec_DocName.l0] at H
      by_cases c2 : x5_1 < (l0.length : Int)
      rotate_left
      · rw [if_neg c2] at H
        have c2b0 : decide (x5_1 < (l0.length : Int)) = false := decide_eq_false c2
        clear c2
        as_aux_lemma =>
          simp only [Option.some.injEq, Prod.mk.injEq] at H
          obtain ⟨rfl, rfl, rfl⟩ := H
          go_wp2
          go_ret3
          exact ⟨by first | rfl | (simp; done) | (simp [*]; done), by repeat (first | exact Drawn0.refl _ | apply Drawn0.step)⟩
      rw [if_pos c2] at H
      have c2b0 : decide (x5_1 < (l0.length : Int)) = true := decide_eq_true c2
      clear c2
      by_cases c3 : 0 ≤ x5_1
      rotate_left
      · rw [if_neg c3] at H
        exact absurd H (by simp)
      rw [if_pos c3] at H
      have c3b0 : decide (0 ≤ x5_1) = true := decide_eq_true c3
      clear c3
      by_cases c4 : (rd l0 x5_1) = 0
      rotate_left
      · rw [if_neg c4] at H
        have c4b0 : ((rd l0 x5_1) == 0) = false := beq_eq_false_iff_ne.mpr c4
        have c4b1 : ((rd l0 x5_1) != 0) = true := bne_iff_ne.mpr c4
        as_aux_lemma =>
          have H' := Aside0.mk H
          clear H
          have p452 : 0 ≤ (x5_1 : Int) := of_decide_eq_true (by first | (with_reducible assumption) | assumption)
          have q452 : x5_1 < (l0.length : Int) := of_decide_eq_true (by first | (with_reducible assumption) | assumption)
          obtain ⟨ad452, e452, hx452_0⟩ := Kd.at_int HR0.out x5_1 p452 q452
          cases e452
          replace p452 := eq_true p452
          replace q452 := eq_true q452
          go_wp2
          go_roundg k1
          case measure => have := HK1.out; omega
          case rel => exact ⟨(wrap64 (x5_1 + 1)), (by first | rfl | (simp; done) | (simp [*]; done)), H', ⟨by have := HK1.out; omega⟩, by repeat (first | exact Drawn0.refl _ | apply Drawn0.step)⟩
      rw [if_pos c4] at H
      have c4b0 : ((rd l0 x5_1) == 0) = true := beq_iff_eq.mpr c4
      have c4b1 : ((rd l0 x5_1) != 0) = false := bne_eq_false_iff_eq.mpr c4
      clear c4
      have c5b0 := eq_true (of_decide_eq_true (by first | (with_reducible assumption) | assumption) : 0 ≤ x5_1)
      by_cases c6 : x5_1 ≤ (l0.length : Int)
      rotate_left
      · rw [if_neg c6] at H
        exact absurd H (by simp)
      rw [if_pos c6] at H
      have c6b0 := eq_true c6
      have c6b1 : decide (x5_1 ≤ (l0.length : Int)) = true := decide_eq_true c6
      clear c6
      obtain ⟨y453, hy453⟩ : ∃ y_ : List Int, y_ = (l0.take (x5_1 : Int).toNat) := ⟨_, rfl⟩
      replace H : (some (strOfNums y453, wrap64 (x5_1 + 1), true)) = some (r1, r2, r3) := by first | (rw [hy453]; with_reducible exact H) | (have H2_ := (Option.bind_some _ _).symm.trans H; rw [hy453]; with_reducible exact H2_) | (have H2_ := (Option.bind_some _ _).symm.trans H; with_reducible exact H2_) | with_reducible exact H | (rw [hy453]; exact H) | exact H
      have Ny453 := Aside0.mk hy453
      clear hy453
      as_aux_lemma =>
        simp only [Option.some.injEq, Prod.mk.injEq] at H
        obtain ⟨rfl, rfl, rfl⟩ := H
        have p452 : 0 ≤ (x5_1 : Int) := of_decide_eq_true (by first | (with_reducible assumption) | assumption)
        have q452 : x5_1 < (l0.length : Int) := of_decide_eq_true (by first | (with_reducible assumption) | assumption)
        obtain ⟨ad452, e452, hx452_0⟩ := Kd.at_int HR0.out x5_1 p452 q452
        cases e452
        replace p452 := eq_true p452
        replace q452 := eq_true q452
        have q7 : (x5_1 : Int) ≤ ((l0.length : Int) : Int) := of_decide_eq_true (by first | (with_reducible assumption) | assumption)
        obtain ⟨i07, hi07, _, hsz7, _⟩ := info_parts info5
        have hroom7 : l0.length ≤ c0 := HC0.out
        have hC7 : Kd.C (Kd.int .u8) _ (some ad452) l0.length l0 := HR0.out
        have hcut7 := cut_to (P := Tryz.prog) 22 5 .i64 Tryz.underlying22 hi07 (some ad452) l0.length c0 x5_1 (of_decide_eq_true (by first | (with_reducible assumption) | assumption)) q7 hroom7
        have hr7 := Kd.C_take (m := (x5_1 : Int).toNat) hC7 (by omega)
        have hy7 : y453.length = (x5_1 : Int).toNat := (by rw [Ny453.out, List.length_take]; omega)
        rw [← Ny453.out] at hr7
        rw [← hy7] at hcut7
        have HR456 := Aside0.mk hr7
        have HC456 := Aside0.mk (show y453.length ≤ c0 from by omega)
        clear hr7 hC7 hroom7 hi07 hsz7
        have KY7 := Aside0.mk hy7
        clear hy7
        replace q7 := eq_true q7
        have hcv8 := Kd.C_string (P := Tryz.prog) (A := (some ad452)) (c := c0) Tryz.underlying22 Tryz.underlying5 Tryz.underlying9 HR456.out
        have hcv9 := fun m_ : Nat => Kd.C_string (P := Tryz.prog) (A := (some ad452)) (c := c0) Tryz.underlying22 Tryz.underlying5 Tryz.underlying9 (Kd.C_drewN HR456.out m_)
        go_wp2
        go_ret3
        exact ⟨by first | rfl | (simp; done) | (simp [*]; done), by repeat (first | exact Drawn0.refl _ | apply Drawn0.step)⟩

end Go.Proofs.YtanecebppagakaaGreatDoor.PAl
