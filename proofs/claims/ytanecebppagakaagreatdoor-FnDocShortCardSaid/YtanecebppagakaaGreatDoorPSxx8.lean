import Derived.Test.YtanecebppagakaaGreatDoorPSxx0
import Derived.Test.YtanecebppagakaaGreatDoorPSxx1
import Derived.Test.YtanecebppagakaaGreatDoorPSxx3
import Derived.Test.YtanecebppagakaaGreatDoorPSxx7
namespace Go.Proofs.YtanecebppagakaaGreatDoor.PSx
open Go.RowKit Go.Proofs.YtanecebppagakaaGreatDoorW.PrintWords Go.Proofs.YtanecebppagakaaGreatDoorW.PrintLast Go.Proofs.YtanecebppagakaaGreatDoorW.PrintMore
attribute [local go_sem] max2_int min2_int max_two min_two max_three min_three max_four min_four
set_option linter.unusedVariables false
set_option maxHeartbeats 8000000
set_option maxRecDepth 100000
set_option linter.unusedSimpArgs false
def bsoncore_AppendHeader.f (l0 : List Int) (a1 : Int) (a2 : ByteArray) : Option (List Int) := (bsoncore_isValidCString.f a2).bind fun t482 => (if t482 = true then ((bsoncore_AppendType.f l0 a1).bind fun t483 => (if t483.length + a2.size < 140737488355328 then ((some (t483 ++ bytesOf a2 : List Int)).bind fun y486 => (if y486.length < 140737488355328 then (some (y486 ++ [0])) else (none))) else (none))) else (none))
theorem bsoncore_AppendHeader.calls (P0_ : Nat → Prop) (u9000_ : Value) (l0 : List Int) (a1 : Int) (a2 : ByteArray) (r : List Int) (w0 w : World) (hB : Below w0.heap.size w0 w) (ho0 : Kd.R (Kd.int .u8) 5 w w0.heap.size P0_ u9000_ l0) (h : bsoncore_AppendHeader.f l0 a1 a2 = some r) :
    Calls Tryz.prog 175 #[u9000_, .int .u8 a1, .string a2] w fun e w' => ∃ v0_ : Value, e = .returned (v0_) ∧ Kd.R (Kd.int .u8) 5 w' w0.heap.size (fun k_ => (P0_ k_ ∨ w.heap.size ≤ k_)) v0_ r ∧ Below w0.heap.size w0 w' ∧ Kept w w' (fun k_ => P0_ k_) := by
  have HO0 := Aside0.mk (show Kd.R (Kd.int .u8) 5 w w0.heap.size (fun k_ => (P0_ k_ ∨ w.heap.size ≤ k_)) u9000_ l0 from Kd.R_mono ho0 (fun k_ hk => (.inl hk))); have HK := Aside0.mk (Kept.refl w (fun k_ => P0_ k_)); have HW0 := Aside0.mk hB.size; have HB := Aside0.mk hB; clear hB; have H : ((bsoncore_isValidCString.f a2).bind fun t482 => (if t482 = true then ((bsoncore_AppendType.f l0 a1).bind fun t483 => (if t483.length + a2.size < 140737488355328 then ((some (t483 ++ bytesOf a2 : List Int)).bind fun y486 => (if y486.length < 140737488355328 then (some (y486 ++ [0])) else (none))) else (none))) else (none))) = some r := h; clear h; replace H := Option.bind_eq_some_iff.mp H; obtain ⟨t482, A40, H⟩ := H; replace H : (if t482 = true then ((bsoncore_AppendType.f l0 a1).bind fun t483 => (if t483.length + a2.size < 140737488355328 then ((some (t483 ++ bytesOf a2 : List Int)).bind fun y486 => (if y486.length < 140737488355328 then (some (y486 ++ [0])) else (none))) else (none))) else (none)) = some r := H; have A4 := Aside0.mk A40; clear A40
  by_cases c5 : t482 = true
  rotate_left
  · replace c5 := Bool.eq_false_iff.mpr c5
    subst c5
    have H1 : (none) = some r := by rw [if_neg (show ¬ (false = true) by decide)] at H; exact H
    clear H; have H := H1; clear H1
    exact absurd H (by simp)
  subst c5
  have H1 : ((bsoncore_AppendType.f l0 a1).bind fun t483 => (if t483.length + a2.size < 140737488355328 then ((some (t483 ++ bytesOf a2 : List Int)).bind fun y486 => (if y486.length < 140737488355328 then (some (y486 ++ [0])) else (none))) else (none))) = some r := by rw [if_pos rfl] at H; exact H
  clear H; have H := H1; clear H1; replace H := Option.bind_eq_some_iff.mp H; obtain ⟨t483, A60, H⟩ := H; replace H : (if t483.length + a2.size < 140737488355328 then ((some (t483 ++ bytesOf a2 : List Int)).bind fun y486 => (if y486.length < 140737488355328 then (some (y486 ++ [0])) else (none))) else (none)) = some r := H; have A6 := Aside0.mk A60; clear A60
  by_cases c7 : t483.length + a2.size < 140737488355328
  rotate_left
  · rw [if_neg c7] at H
    exact absurd H (by simp)
  rw [if_pos c7] at H; have LMc7 := Aside0.mk c7; clear c7; obtain ⟨y486, hy486⟩ : ∃ y_ : List Int, y_ = (t483 ++ bytesOf a2) := ⟨_, rfl⟩
  replace H : (if y486.length < 140737488355328 then (some (y486 ++ [0])) else (none)) = some r := by (try rw [hy486]); exact HW.rp
  have Ny486 := Aside0.mk hy486; clear hy486
  by_cases c8 : y486.length < 140737488355328
  rotate_left
  · rw [if_neg c8] at H
    exact absurd H (by simp)
  rw [if_pos c8] at H; have LMc8 := Aside0.mk c8; clear c8; obtain ⟨y489, hy489⟩ : ∃ y_ : List Int, y_ = (y486 ++ [0]) := ⟨_, rfl⟩
  replace H : (some y489) = some r := by (try rw [hy489]); exact HW.rp
  have Ny489 := Aside0.mk hy489; clear hy489
  as_aux_lemma =>
    obtain rfl := Option.some.inj H
    go_enter Tryz.func175, Tryz.ntmps175
    go_wp2_with (first | ((with_reducible refine gate_callee (f := 203) rfl ?_); refine HW.gz (some 8) rfl rfl Tryz.func203 (by kernel_rfl) rfl #[.string a2] rfl ?_; (with_reducible refine (bsoncore_isValidCString.calls a2 true _ A4.out).mono ?_); rintro e w9 ⟨rfl, hb⟩; refine ⟨_, rfl, ?_⟩; replace HO0 := Aside0.mk (Kd.R_below (HW.zR HO0.out) hb); replace HK := Aside0.mk (Kept.below (S := (fun k_ => P0_ k_)) HW.zk hb); replace HB := Aside0.mk (below_step HW.zb hb); (try clear hb); obtain ⟨Ao10, co10, eo10⟩ := Kd.R_slice HO0.out; subst eo10) | ((with_reducible refine gate_callee (f := 204) rfl ?_); refine HW.gz (some 13) rfl rfl Tryz.func204 (by kernel_rfl) rfl #[.slice Ao10 l0.length co10, .int .u8 a1] rfl ?_; (with_reducible refine (bsoncore_AppendType.calls (fun k_ => some k_ = (.slice Ao10 l0.length co10 : Value).ownBlock) (.slice Ao10 l0.length co10) l0 a1 t483 w0 _ ?side1 ?side2 A6.out).mono ?_); (case side1 => exact HW.zb); (case side2 => exact Kd.R_tight rfl HO0.out); rintro e w11 ⟨v484, rfl, ho0, hb, hkp⟩; refine ⟨_, rfl, ?_⟩; have n0_ := Aside0.mk (Kd.R_mono (ok' := fun k_ => (P0_ k_ ∨ w.heap.size ≤ k_)) ho0 (fun k_ hk_ => Or.elim hk_ (fun hs_ => (HO0.out.1 k_ (hs_).symm)) (fun hn_ => (.inr (Nat.le_trans (HW.zk1 (w := w) (fun k_ => P0_ k_)) hn_))))); have n1_ := Aside0.mk (Kept.then_ (S := (fun k_ => P0_ k_)) HW.zk hkp (fun k_ hs_ => (fun e_ => (HO0.out.1 k_ e_.symm)) hs_)); have n2_ := Aside0.mk (hb); clear HK; clear HB; clear HO0; have HO485 := n0_; have HK := n1_; have HB := n2_; clear n0_ n1_ n2_; (try clear hb); (try clear hkp); (try clear ho0)) | (at_builtin; refine HW.R_append_str (w0 := w0) w0.heap.size rfl (.tmp 14) _ 22 9 5 rfl Tryz.underlying22 Tryz.underlying9 info5 v484 t483 a2 (fun k_ => (P0_ k_ ∨ w.heap.size ≤ k_)) rfl rfl ?aO ?aF ?aB ?aS ?aL ?_; (case aB => exact HW.zb); (case aF => exact (fun k_ hk => (.inr (Nat.le_trans (HW.zk1 (w := w) (fun k_ => P0_ k_)) hk)))); (case aO => exact (HW.zR HO485.out)); (case aS => exact (below_size HW.zb)); (case aL => have := LMc7.out; omega); intro v487 w12 ho hb hg hat; rw [← Ny486.out] at ho; have n0_ := Aside0.mk (hb); have n1_ := Aside0.mk (Kept.of_grown (S := (fun k_ => P0_ k_)) hg HW.zk (fun k_ e_ => (HO485.out.1 k_ e_))); have n2_ := Aside0.mk (ho); clear HB; clear HK; clear HO485; have HB := n0_; have HK := n1_; have HO488 := n2_; clear n0_ n1_ n2_; clear ho hb hg hat) | ((with_reducible refine gate_builtin (b := .append) (xs := #[.tmp 17, .tmp 18]) rfl ?_); at_builtin; refine Kd.R_append (Kd.int .u8) (w0 := w0) w0.heap.size rfl (.tmp 17) (.tmp 18) 22 5 (.int .u8 0) 1 rfl Tryz.underlying22 info5 rfl (by decide) (by omega) v487 y486 0 [.int .u8 0] (fun k_ => (P0_ k_ ∨ w.heap.size ≤ k_)) (fun _ => False) rfl rfl ?aP (fun _ hk => hk.elim) ?aF ?aO ?aB ?aS ?aL ?_; (case aP => exact rfl); (case aB => exact HW.zb); (case aF => exact (fun k_ hk => (.inr (Nat.le_trans (HW.zk1 (w := w) (fun k_ => P0_ k_)) hk)))); (case aO => exact (HW.zR HO488.out)); (case aS => exact (below_size HW.zb)); (case aL => have := LMc8.out; omega); intro v490 w13 ho hb hg hat; rw [← Ny489.out] at ho; have n0_ := Aside0.mk (hb); have n1_ := Aside0.mk (Kept.of_grown (S := (fun k_ => P0_ k_)) hg HW.zk (fun k_ e_ => (HO488.out.1 k_ e_))); have n2_ := Aside0.mk (ho); clear HB; clear HK; clear HO488; have HB := n0_; have HK := n1_; have HO491 := n2_; clear n0_ n1_ n2_; clear ho hb hg hat))
    go_ret
    exact ⟨_, rfl, HW.zR HO491.out, HW.zb, HW.zk⟩
def binaryutil_Append32_int32.f (l0 : List Int) (a1 : Int) : Option (List Int) := (some (([(a1) % 256, (a1 / 256) % 256, (a1 / 65536) % 256, (a1 / 16777216) % 256] : List Int) : List Int)).bind fun y492 => (if l0.length + y492.length < 140737488355328 then (some (l0 ++ y492)) else (none))
theorem binaryutil_Append32_int32.calls (P0_ : Nat → Prop) (u9000_ : Value) (l0 : List Int) (a1 : Int) (r : List Int) (w0 w : World) (hB : Below w0.heap.size w0 w) (ho0 : Kd.R (Kd.int .u8) 5 w w0.heap.size P0_ u9000_ l0) (h : binaryutil_Append32_int32.f l0 a1 = some r) :
    Calls Tryz.prog 252 #[u9000_, .int .i32 a1] w fun e w' => ∃ v0_ : Value, e = .returned (v0_) ∧ Kd.R (Kd.int .u8) 5 w' w0.heap.size (fun k_ => (P0_ k_ ∨ w.heap.size ≤ k_)) v0_ r ∧ Below w0.heap.size w0 w' ∧ Kept w w' (fun k_ => P0_ k_) := by
  have HO0 := Aside0.mk (show Kd.R (Kd.int .u8) 5 w w0.heap.size (fun k_ => (P0_ k_ ∨ w.heap.size ≤ k_)) u9000_ l0 from Kd.R_mono ho0 (fun k_ hk => (.inl hk))); have HK := Aside0.mk (Kept.refl w (fun k_ => P0_ k_)); have HW0 := Aside0.mk hB.size; have HB := Aside0.mk hB; clear hB; have H : ((some (([(a1) % 256, (a1 / 256) % 256, (a1 / 65536) % 256, (a1 / 16777216) % 256] : List Int) : List Int)).bind fun y492 => (if l0.length + y492.length < 140737488355328 then (some (l0 ++ y492)) else (none))) = some r := h; clear h; obtain ⟨y492, hy492⟩ : ∃ y_ : List Int, y_ = (([(a1) % 256, (a1 / 256) % 256, (a1 / 65536) % 256, (a1 / 16777216) % 256] : List Int)) := ⟨_, rfl⟩
  replace H : (if l0.length + y492.length < 140737488355328 then (some (l0 ++ y492)) else (none)) = some r := by (try rw [hy492]); exact HW.rp
  have Ny492 := Aside0.mk hy492; clear hy492
  by_cases c3 : l0.length + y492.length < 140737488355328
  rotate_left
  · rw [if_neg c3] at H
    exact absurd H (by simp)
  rw [if_pos c3] at H; have LMc3 := Aside0.mk c3; clear c3; obtain ⟨y495, hy495⟩ : ∃ y_ : List Int, y_ = (l0 ++ y492) := ⟨_, rfl⟩
  replace H : (some y495) = some r := by (try rw [hy495]); exact HW.rp
  have Ny495 := Aside0.mk hy495; clear hy495
  as_aux_lemma =>
    obtain rfl := Option.some.inj H
    go_enter Tryz.func252, Tryz.ntmps252
    go_wp2_with (first | ((with_reducible refine gate_dst (N := 17) rfl ?_); refine Kd.R_lit (Kd.int .u8) _ 5 ?hg (N := 17) ?hd (xs := ([(a1) % 256, (a1 / 256) % 256, (a1 / 65536) % 256, (a1 / 16777216) % 256] : List Int)) (inner := [.int .u8 ((a1) % 256), .int .u8 ((a1 / 256) % 256), .int .u8 ((a1 / 65536) % 256), .int .u8 ((a1 / 16777216) % 256)]) (ok := fun _ => True) (okp := fun _ => True) ?hr ?hp (fun _ hk => hk) trivial (Below.refl _ _) (Nat.le_refl _) (by simp) ?_; (case hd => rfl); (case hg => rfl); (case hr => first | (go_simp; done) | (go_simp; rfl)); (case hp => exact (Reps.one (show Kd.M (Kd.int .u8) _ _ _ ((a1) % 256) [.int .u8 ((a1) % 256)] from rfl) (Reps.one (show Kd.M (Kd.int .u8) _ _ _ ((a1 / 256) % 256) [.int .u8 ((a1 / 256) % 256)] from rfl) (Reps.one (show Kd.M (Kd.int .u8) _ _ _ ((a1 / 65536) % 256) [.int .u8 ((a1 / 65536) % 256)] from rfl) (Reps.one (show Kd.M (Kd.int .u8) _ _ _ ((a1 / 16777216) % 256) [.int .u8 ((a1 / 16777216) % 256)] from rfl) (Reps.none _ _)))))); intro v493 w4 ho5 hb hg_ hnew_; clear hg_ hnew_; (first | rw [← Ny492.out] at ho5 | (simp only [Int.reduceToNat] at ho5; rw [← Ny492.out] at ho5)); have HO494 := Aside0.mk (Kd.R_lower (Kd.R_new' (Kd.R_newM (M := fun k_ => (P0_ k_ ∨ w.heap.size ≤ k_)) ho5 (HW.zk1 (w := w) (fun k_ => P0_ k_)) (fun k_ h_ => .inr h_)) (Kd.R_lt (HW.zR HO0.out))) (below_size HW.zb)); replace HO0 := Aside0.mk (Kd.R_elder' (HW.zR HO0.out) (Kd.R_base ho5) hb); replace HK := Aside0.mk (Kept.below (S := (fun k_ => P0_ k_)) HW.zk hb); replace HB := Aside0.mk (below_step HW.zb hb); clear hb ho5; obtain ⟨Ao7, co7, eo7⟩ := Kd.R_slice HO494.out; subst eo7) | ((with_reducible refine gate_builtin (b := .append) (xs := #[.tmp 5, .tmp 17]) rfl ?_); at_builtin; refine Kd.R_append_rows (Kd.int .u8) (w0 := w0) w0.heap.size rfl (.tmp 5) (.tmp 17) 22 5 (.int .u8 0) 1 rfl Tryz.underlying22 info5 rfl (by decide) (by omega) u9000_ l0 y492 _ _ _ (fun k_ => (P0_ k_ ∨ w.heap.size ≤ k_) ∧ some k_ ≠ (.slice Ao7 y492.length co7 : Value).ownBlock) (fun _ => False) rfl rfl ?aO ?aR (fun _ _ h => h) (fun _ h => h.elim) ?aF ?aB ?aS ?aL ?_; (case aR => repeat (first | exact (Kd.R_reads' HO494.out).2.2 | (with_reducible refine Kd.C_alloc ?_ _) | (with_reducible refine Kd.C_drewN ?_ _) | (with_reducible refine Kd.C_drew ?_))); (case aB => exact HW.zb); (case aF => exact (fun k_ hk => ⟨(.inr (Nat.le_trans (HW.zk1 (w := w) (fun k_ => P0_ k_)) hk)), Kd.fresh' (Kd.R_lt (HW.zR HO494.out)) k_ hk⟩)); (case aO => exact (HW.zR HO0.out)); (case aS => exact (below_size HW.zb)); (case aL => have := LMc3.out; omega); intro v496 w6 ho hb hg hat; rw [← Ny495.out] at ho; have n1_ := Aside0.mk (hb); have n2_ := Aside0.mk (Kept.of_grown (S := (fun k_ => P0_ k_)) hg HW.zk (fun k_ e_ => (HO0.out.1 k_ e_).1)); have n3_ := Aside0.mk (ho); clear HB; clear HK; clear HO0; have HB := n1_; have HK := n2_; have HO497 := n3_; clear n1_ n2_ n3_; clear ho hb hg hat))
    go_ret
    exact ⟨_, rfl, by (with_reducible repeat (first | apply Kd.R_alloc | apply Kd.R_drewN | apply Kd.R_drew)); exact Kd.R_mono HO497.out (fun _ hk => hk.1), HW.zb, HW.zk⟩
def bsoncore_AppendInt32.f (l0 : List Int) (a1 : Int) : Option (List Int) := (binaryutil_Append32_int32.f l0 a1).bind fun t498 => (some t498)
theorem bsoncore_AppendInt32.calls (P0_ : Nat → Prop) (u9000_ : Value) (l0 : List Int) (a1 : Int) (r : List Int) (w0 w : World) (hB : Below w0.heap.size w0 w) (ho0 : Kd.R (Kd.int .u8) 5 w w0.heap.size P0_ u9000_ l0) (h : bsoncore_AppendInt32.f l0 a1 = some r) :
    Calls Tryz.prog 238 #[u9000_, .int .i32 a1] w fun e w' => ∃ v0_ : Value, e = .returned (v0_) ∧ Kd.R (Kd.int .u8) 5 w' w0.heap.size (fun k_ => (P0_ k_ ∨ w.heap.size ≤ k_)) v0_ r ∧ Below w0.heap.size w0 w' ∧ Kept w w' (fun k_ => P0_ k_) := by
  have HO0 := Aside0.mk (show Kd.R (Kd.int .u8) 5 w w0.heap.size (fun k_ => (P0_ k_ ∨ w.heap.size ≤ k_)) u9000_ l0 from Kd.R_mono ho0 (fun k_ hk => (.inl hk))); have HK := Aside0.mk (Kept.refl w (fun k_ => P0_ k_)); have HW0 := Aside0.mk hB.size; have HB := Aside0.mk hB; clear hB; have H : ((binaryutil_Append32_int32.f l0 a1).bind fun t498 => (some t498)) = some r := h; clear h; replace H := Option.bind_eq_some_iff.mp H; obtain ⟨t498, A30, H⟩ := H; replace H : (some t498) = some r := H; have A3 := Aside0.mk A30; clear A30
  as_aux_lemma =>
    obtain rfl := Option.some.inj H; obtain ⟨Ao4, co4, eo4⟩ := Kd.R_slice HO0.out; subst eo4
    go_enter Tryz.func238, Tryz.ntmps238
    go_wp2_with (first | ((with_reducible refine gate_callee (f := 252) rfl ?_); refine HW.gz (some 7) rfl rfl Tryz.func252 (by kernel_rfl) rfl #[.slice Ao4 l0.length co4, .int .i32 a1] rfl ?_; (with_reducible refine (binaryutil_Append32_int32.calls (fun k_ => some k_ = (.slice Ao4 l0.length co4 : Value).ownBlock) (.slice Ao4 l0.length co4) l0 a1 t498 w0 _ ?side1 ?side2 A3.out).mono ?_); (case side1 => exact HW.zb); (case side2 => exact Kd.R_tight rfl HO0.out); rintro e w5 ⟨v499, rfl, ho0, hb, hkp⟩; refine ⟨_, rfl, ?_⟩; have n0_ := Aside0.mk (Kd.R_mono (ok' := fun k_ => (P0_ k_ ∨ w.heap.size ≤ k_)) ho0 (fun k_ hk_ => Or.elim hk_ (fun hs_ => (HO0.out.1 k_ (hs_).symm)) (fun hn_ => (.inr (Nat.le_trans (HW.zk1 (w := w) (fun k_ => P0_ k_)) hn_))))); have n1_ := Aside0.mk (Kept.then_ (S := (fun k_ => P0_ k_)) HW.zk hkp (fun k_ hs_ => (fun e_ => (HO0.out.1 k_ e_.symm)) hs_)); have n2_ := Aside0.mk (hb); clear HK; clear HB; clear HO0; have HO500 := n0_; have HK := n1_; have HB := n2_; clear n0_ n1_ n2_; (try clear hb); (try clear hkp); (try clear ho0)))
    go_ret
    exact ⟨_, rfl, HW.zR HO500.out, HW.zb, HW.zk⟩
def bsoncore_AppendInt32Element.f (l0 : List Int) (a1 : ByteArray) (a2 : Int) : Option (List Int) := (bsoncore_AppendHeader.f l0 16 a1).bind fun t501 => ((bsoncore_AppendInt32.f t501 a2).bind fun t504 => (some t504))
theorem bsoncore_AppendInt32Element.calls (P0_ : Nat → Prop) (u9000_ : Value) (l0 : List Int) (a1 : ByteArray) (a2 : Int) (r : List Int) (w0 w : World) (hB : Below w0.heap.size w0 w) (ho0 : Kd.R (Kd.int .u8) 5 w w0.heap.size P0_ u9000_ l0) (h : bsoncore_AppendInt32Element.f l0 a1 a2 = some r) :
    Calls Tryz.prog 191 #[u9000_, .string a1, .int .i32 a2] w fun e w' => ∃ v0_ : Value, e = .returned (v0_) ∧ Kd.R (Kd.int .u8) 5 w' w0.heap.size (fun k_ => (P0_ k_ ∨ w.heap.size ≤ k_)) v0_ r ∧ Below w0.heap.size w0 w' ∧ Kept w w' (fun k_ => P0_ k_) := by
  have HO0 := Aside0.mk (show Kd.R (Kd.int .u8) 5 w w0.heap.size (fun k_ => (P0_ k_ ∨ w.heap.size ≤ k_)) u9000_ l0 from Kd.R_mono ho0 (fun k_ hk => (.inl hk))); have HK := Aside0.mk (Kept.refl w (fun k_ => P0_ k_)); have HW0 := Aside0.mk hB.size; have HB := Aside0.mk hB; clear hB; have H : ((bsoncore_AppendHeader.f l0 16 a1).bind fun t501 => ((bsoncore_AppendInt32.f t501 a2).bind fun t504 => (some t504))) = some r := h; clear h; replace H := Option.bind_eq_some_iff.mp H; obtain ⟨t501, A40, H⟩ := H; replace H : ((bsoncore_AppendInt32.f t501 a2).bind fun t504 => (some t504)) = some r := H; have A4 := Aside0.mk A40; clear A40; replace H := Option.bind_eq_some_iff.mp H; obtain ⟨t504, A50, H⟩ := H; replace H : (some t504) = some r := H; have A5 := Aside0.mk A50; clear A50
  as_aux_lemma =>
    obtain rfl := Option.some.inj H; obtain ⟨Ao6, co6, eo6⟩ := Kd.R_slice HO0.out; subst eo6
    go_enter Tryz.func191, Tryz.ntmps191
    go_wp2_with (first | ((with_reducible refine gate_callee (f := 175) rfl ?_); refine HW.gz (some 9) rfl rfl Tryz.func175 (by kernel_rfl) rfl #[.slice Ao6 l0.length co6, .int .u8 16, .string a1] rfl ?_; (with_reducible refine (bsoncore_AppendHeader.calls (fun k_ => some k_ = (.slice Ao6 l0.length co6 : Value).ownBlock) (.slice Ao6 l0.length co6) l0 16 a1 t501 w0 _ ?side1 ?side2 A4.out).mono ?_); (case side1 => exact HW.zb); (case side2 => exact Kd.R_tight rfl HO0.out); rintro e w7 ⟨v502, rfl, ho0, hb, hkp⟩; refine ⟨_, rfl, ?_⟩; have n0_ := Aside0.mk (Kd.R_mono (ok' := fun k_ => (P0_ k_ ∨ w.heap.size ≤ k_)) ho0 (fun k_ hk_ => Or.elim hk_ (fun hs_ => (HO0.out.1 k_ (hs_).symm)) (fun hn_ => (.inr (Nat.le_trans (HW.zk1 (w := w) (fun k_ => P0_ k_)) hn_))))); have n1_ := Aside0.mk (Kept.then_ (S := (fun k_ => P0_ k_)) HW.zk hkp (fun k_ hs_ => (fun e_ => (HO0.out.1 k_ e_.symm)) hs_)); have n2_ := Aside0.mk (hb); clear HK; clear HB; clear HO0; have HO503 := n0_; have HK := n1_; have HB := n2_; clear n0_ n1_ n2_; (try clear hb); (try clear hkp); (try clear ho0); obtain ⟨Ao8, co8, eo8⟩ := Kd.R_slice HO503.out; subst eo8) | ((with_reducible refine gate_callee (f := 238) rfl ?_); refine HW.gz (some 11) rfl rfl Tryz.func238 (by kernel_rfl) rfl #[.slice Ao8 t501.length co8, .int .i32 a2] rfl ?_; (with_reducible refine (bsoncore_AppendInt32.calls (fun k_ => some k_ = (.slice Ao8 t501.length co8 : Value).ownBlock) (.slice Ao8 t501.length co8) t501 a2 t504 w0 _ ?side1 ?side2 A5.out).mono ?_); (case side1 => exact HW.zb); (case side2 => exact Kd.R_tight rfl HO503.out); rintro e w9 ⟨v505, rfl, ho0, hb, hkp⟩; refine ⟨_, rfl, ?_⟩; have n0_ := Aside0.mk (Kd.R_mono (ok' := fun k_ => (P0_ k_ ∨ w.heap.size ≤ k_)) ho0 (fun k_ hk_ => Or.elim hk_ (fun hs_ => (HO503.out.1 k_ (hs_).symm)) (fun hn_ => (.inr (Nat.le_trans (HW.zk1 (w := w) (fun k_ => P0_ k_)) hn_))))); have n1_ := Aside0.mk (Kept.then_ (S := (fun k_ => P0_ k_)) HW.zk hkp (fun k_ hs_ => (fun e_ => (HO503.out.1 k_ e_.symm)) hs_)); have n2_ := Aside0.mk (hb); clear HK; clear HB; clear HO503; have HO506 := n0_; have HK := n1_; have HB := n2_; clear n0_ n1_ n2_; (try clear hb); (try clear hkp); (try clear ho0)))
    go_ret
    exact ⟨_, rfl, HW.zR HO506.out, HW.zb, HW.zk⟩
theorem info_i32 : (Tryz.prog.info? 21).map (fun i => (i.zero, i.size, i.bytes)) = some (some (.int .i32 0), 1, 4) := by kernel_rfl
structure DB (w0 w : World) (g : Nat) (l ix : List Int) : Prop where
  ex : ∃ v0 v1, w.heap[g]? = some (.cells #[v0, v1] 194 (0, 0)) ∧ Kd.R (Kd.int .u8) 5 w w0.heap.size (fun k => v0.ownBlock = some k) v0 l ∧ Kd.R (Kd.int .i32) 21 w w0.heap.size (fun k => v1.ownBlock = some k) v1 ix
  hg : w0.heap.size ≤ g
  hB : Below w0.heap.size w0 w
theorem own_self {α : Type} {enc : α → Value} {h1 : ∀ x, (enc x).oneCell' = true} {e base : Nat} {w : World} {ok : Nat → Prop} {v : Value} {xs : List α} (h : (Kd.scalar enc h1).R e w base ok v xs) : (Kd.scalar enc h1).R e w base (fun k => v.ownBlock = some k) v xs := Kd.R_of_own (Kd.own_of_R h) (fun _ hk => hk)
theorem own_type {α : Type} {d : Kd α} {e base : Nat} {w : World} {ok : Nat → Prop} {v : Value} {xs : List α} (h : d.R e w base ok v xs) {k t : Nat} {cells : Array Value} (hk : v.ownBlock = some k) (hb : w.heap[k]? = some (.cells cells t (0, 0))) : e = t := by
  obtain ⟨inner, ho⟩ := Kd.R_own h; obtain ⟨cells', hc⟩ := own_typed ho k hk; rw [hb] at hc; injection hc with hc; injection hc with _ hc
  exact hc.symm
theorem own_apart {α β : Type} {d : Kd α} {d' : Kd β} {e e' base base' : Nat} {w : World} {ok ok' : Nat → Prop} {v v' : Value} {xs : List α} {ys : List β} (h : d.R e w base ok v xs) (h' : d'.R e' w base' ok' v' ys) (hne : e ≠ e') {k : Nat} (hk : v.ownBlock = some k) (hk' : v'.ownBlock = some k) : False := by
  obtain ⟨inner, ho⟩ := Kd.R_own h'; obtain ⟨cells', hc⟩ := own_typed ho k hk'
  exact hne (own_type h hk hc)
theorem DB.handed {w0 w w1 : World} {g : Nat} {v0 v1 v0' : Value} {l ix r : List Int} (hz : w.heap[g]? = some (.cells #[v0, v1] 194 (0, 0))) (hR0 : Kd.R (Kd.int .u8) 5 w w0.heap.size (fun k => v0.ownBlock = some k) v0 l) (hR1 : Kd.R (Kd.int .i32) 21 w w0.heap.size (fun k => v1.ownBlock = some k) v1 ix) (hg : w0.heap.size ≤ g)
    (hR : Kd.R (Kd.int .u8) 5 w1 w0.heap.size (fun k => v0.ownBlock = some k ∨ w.heap.size ≤ k) v0' r) (hB : Below w0.heap.size w0 w1) (hK : Kept w w1 (fun k => v0.ownBlock = some k)) :
    w1.heap[g]? = some (.cells #[v0, v1] 194 (0, 0)) ∧ Kd.R (Kd.int .i32) 21 w1 w0.heap.size (fun k => v1.ownBlock = some k) v1 ix ∧ Kd.R (Kd.int .u8) 5 w1 w0.heap.size (fun k => v0'.ownBlock = some k) v0' r := by
  have hlt : g < w.heap.size := (Array.getElem?_eq_some_iff.1 hz).1
  refine ⟨(hK.2 g hlt (fun hk => ?_)).trans hz, Kd.R_step hR1 (fun k hk hl => hK.2 k hl (fun hk' => own_apart hR0 hR1 (by decide) hk' hk)), own_self hR⟩
  have := own_type hR0 hk hz
  exact absurd this (by decide)
theorem DB.put {w0 w1 : World} {g : Nat} {v0 v1 v0' : Value} {ix r : List Int} (hz : w1.heap[g]? = some (.cells #[v0, v1] 194 (0, 0))) (hR1 : Kd.R (Kd.int .i32) 21 w1 w0.heap.size (fun k => v1.ownBlock = some k) v1 ix) (hR : Kd.R (Kd.int .u8) 5 w1 w0.heap.size (fun k => v0'.ownBlock = some k) v0' r) (hg : w0.heap.size ≤ g) (hB : Below w0.heap.size w0 w1) :
    (w1.setCell ⟨g, 0, none⟩ v0').heap[g]? = some (.cells #[v0', v1] 194 (0, 0)) ∧ Kd.R (Kd.int .u8) 5 (w1.setCell ⟨g, 0, none⟩ v0') w0.heap.size (fun k => v0'.ownBlock = some k) v0' r ∧ Kd.R (Kd.int .i32) 21 (w1.setCell ⟨g, 0, none⟩ v0') w0.heap.size (fun k => v1.ownBlock = some k) v1 ix ∧ Below w0.heap.size w0 (w1.setCell ⟨g, 0, none⟩ v0') := by
  refine ⟨blk_put hz 0 v0' rfl, Kd.R_far hR (fun k hk => ?_) v0', Kd.R_far hR1 (fun k hk => ?_) v0', below_set hB hg⟩
  · rintro rfl
    exact absurd (own_type hR hk hz) (by decide)
  rintro rfl
  exact absurd (own_type hR1 hk hz) (by decide)
theorem DB.mk' {w0 w1 : World} {g : Nat} {v0 v1 : Value} {ix r : List Int} (hz : w1.heap[g]? = some (.cells #[v0, v1] 194 (0, 0)) ∧ Kd.R (Kd.int .u8) 5 w1 w0.heap.size (fun k => v0.ownBlock = some k) v0 r ∧ Kd.R (Kd.int .i32) 21 w1 w0.heap.size (fun k => v1.ownBlock = some k) v1 ix ∧ Below w0.heap.size w0 w1) (hg : w0.heap.size ≤ g) : DB w0 w1 g r ix := ⟨⟨v0, v1, hz.1, hz.2.1, hz.2.2.1⟩, hg, hz.2.2.2⟩
theorem db_start {w0 w : World} {g : Nat} {l ix r : List Int} {i : Int} (h : DB w0 w g l ix) (hf : bsoncore_AppendDocumentStart.f l = some (i, r)) (hix : ix.length ≤ 1000000) :
    Calls Tryz.prog 130 #[.pointer (some ⟨g, 0, none⟩)] w fun e w' => e = .returned (.pointer (some ⟨g, 0, none⟩)) ∧ DB w0 w' g r (ix ++ [i]) := by
  obtain ⟨⟨v0, v1, hz, hR0, hR1⟩, hg, hB⟩ := h; have c0 := (blk_cell hz 0).trans rfl
  go_enter Tryz.func130, Tryz.ntmps130
  go_wp2_with (first
    | (go_at_call 172; refine (bsoncore_AppendDocumentStart.calls (fun k => v0.ownBlock = some k) v0 l i r w0 w hB hR0 hf).mono ?_; rintro e w1 ⟨v0', rfl, hR, hB1, hK1⟩; obtain ⟨A2, c2, hv2⟩ := Kd.R_slice hR; subst hv2; obtain ⟨hz1, hR1a, hRa⟩ := DB.handed hz hR0 hR1 hg hR hB1 hK1; clear c0; have c0 := (blk_cell hz1 0).trans rfl; have f0 := blk_frozen hz1 0; have P1 := DB.put hz1 hR1a hRa hg hB1; have d1 := (blk_cell P1.1 1).trans rfl)
    | (at_builtin; refine Kd.R_append (Kd.int .i32) (w0 := w0) w0.heap.size rfl (.tmp 19) (.tmp 21) 192 21 (.int .i32 0) 4 rfl Tryz.underlying192 info_i32 rfl (by decide) (by omega) v1 ix i [.int .i32 i] (fun k => v1.ownBlock = some k ∨ (w1.setCell ⟨g, 0, none⟩ (.slice A2 r.length c2)).heap.size ≤ k) (fun _ => False) rfl (by rw [World.size_setCell]; rfl) ?aP (fun _ hk => hk.elim) ?aF ?aO ?aB ?aS ?aL ?_; (case aP => exact rfl); (case aF => exact fun k hk => .inr hk); (case aO => exact Kd.R_mono P1.2.2.1 (fun k hk => .inl hk)); (case aB => exact P1.2.2.2); (case aS => exact P1.2.2.2.size); (case aL => omega); intro v1' w2 ho hb2 hg2 hat2; obtain ⟨A3, c3, hv3⟩ := Kd.R_slice ho; subst hv3; have hne : some g ≠ v1.ownBlock := (fun he => absurd (own_type P1.2.2.1 he.symm P1.1) (by decide)); have hz2 := (hg2.block g (Array.getElem?_eq_some_iff.1 P1.1).1 hne).trans P1.1; have hRb := Kd.R_grown P1.2.1 hg2 (fun k hk he => own_apart P1.2.1 P1.2.2.1 (by decide) hk he.symm); have e1 := (blk_cell hz2 1).trans rfl; have f1 := blk_frozen hz2 1))
  go_ret
  rw [show (ix ++ [i]).length = ix.length + 1 by simp] at ho
  refine ⟨rfl, ⟨_, _, blk_put hz2 1 _ rfl, Kd.R_far hRb (fun k hk => ?_) _, Kd.R_far (own_self ho) (fun k hk => ?_) _⟩, hg, below_set hb2 hg⟩
  · rintro rfl
    exact absurd (own_type hRb hk hz2) (by decide)
  rintro rfl
  exact absurd (own_type ho hk hz2) (by decide)
theorem db_int32 {w0 w : World} {g : Nat} {l ix r : List Int} {s : ByteArray} {n : Int} (h : DB w0 w g l ix) (hf : bsoncore_AppendInt32Element.f l s n = some r) :
    Calls Tryz.prog 150 #[.pointer (some ⟨g, 0, none⟩), .string s, .int .i32 n] w fun e w' => e = .returned (.pointer (some ⟨g, 0, none⟩)) ∧ DB w0 w' g r ix := by
  obtain ⟨⟨v0, v1, hz, hR0, hR1⟩, hg, hB⟩ := h; have c0 := (blk_cell hz 0).trans rfl
  go_enter Tryz.func150, Tryz.ntmps150
  go_wp2_with (go_at_call 191; refine (bsoncore_AppendInt32Element.calls (fun k => v0.ownBlock = some k) v0 l s n r w0 w hB hR0 hf).mono ?_; rintro e w1 ⟨v0', rfl, hR, hB1, hK1⟩; obtain ⟨A2, c2, hv2⟩ := Kd.R_slice hR; subst hv2; obtain ⟨hz1, hR1a, hRa⟩ := DB.handed hz hR0 hR1 hg hR hB1 hK1; clear c0; have c0 := (blk_cell hz1 0).trans rfl; have f0 := blk_frozen hz1 0)
  go_ret
  exact ⟨rfl, DB.mk' (DB.put hz1 hR1a hRa hg hB1) hg⟩
theorem DB.new_ {w0 w : World} (hB : Below w0.heap.size w0 w) : DB w0 (w.alloc (.cells #[.slice none 0 0, .slice none 0 0] 194)) w.heap.size [] [] :=
  ⟨⟨_, _, blk_new w _, Kd.R_nil _ _ _ _ _, Kd.R_nil _ _ _ _ _⟩, hB.size, hB.alloc hB.size _⟩
theorem db_new {w0 w : World} {r : List Int} {i : Int} (hB : Below w0.heap.size w0 w) (hf : bsoncore_AppendDocumentStart.f [] = some (i, r)) :
    Calls Tryz.prog 103 #[] w fun e w' => ∃ g, e = .returned (.pointer (some ⟨g, 0, none⟩)) ∧ DB w0 w' g r [i] := by
  go_enter Tryz.func103, Tryz.ntmps103
  go_wp2_with (go_at_call 130; refine (db_start (DB.new_ hB) hf (by simp)).mono ?_; rintro e w1 ⟨rfl, hD⟩)
  go_ret
  exact ⟨_, rfl, hD⟩
theorem db_build {w0 w : World} {g : Nat} {l r : List Int} {i : Int} (h : DB w0 w g l [i]) (hf : bsoncore_AppendDocumentEnd.f l i = some (r, none)) :
    Calls Tryz.prog 105 #[.pointer (some ⟨g, 0, none⟩)] w fun e w' => ∃ v, e = .returned v ∧ Kd.R (Kd.int .u8) 5 w' w0.heap.size (fun _ => True) v r ∧ Below w0.heap.size w0 w' := by
  obtain ⟨⟨v0, v1, hz, hR0, hR1⟩, hg, hB⟩ := h; obtain ⟨A0, k0, hv0⟩ := Kd.R_slice hR0; subst hv0; obtain ⟨A1, k1, hv1, hk1, hC1⟩ := Kd.R_reads hR1; subst hv1
  obtain ⟨a1, rfl, hx1⟩ := Kd.at_int hC1 0 (by omega) (by simp)
  rw [show (0 : Int).toNat = 0 from rfl, Addr.add_zero', show rd [i] 0 = i from rfl] at hx1; obtain ⟨i0, hi0, hz0⟩ := Option.map_eq_some_iff.1 info_i32
  have hcut := cut_to (P := Tryz.prog) 192 21 .i64 Tryz.underlying192 hi0 (some a1) 1 k1 0 (by omega) (by omega) hk1
  change ∀ W, _ = Result.ok (Value.slice (some a1) 0 k1) W at hcut
  have c0 := (blk_cell hz 0).trans rfl; have c1 := (blk_cell hz 1).trans rfl
  go_enter Tryz.func105, Tryz.ntmps105
  go_wp2
  go_region_with (go_at_call 156; refine (bsoncore_AppendDocumentEnd.calls (fun k => (Value.slice A0 l.length k0).ownBlock = some k) (.slice A0 l.length k0) l i r none w0 _ (below_drew hB) hR0 hf).mono ?_; rintro e w1 ⟨v0', rfl, hR, hB1, hK1⟩; obtain ⟨A2, c2, hv2⟩ := Kd.R_slice hR; subst hv2; obtain ⟨hz1, hR1a, hRa⟩ := DB.handed hz hR0 hR1 hg hR hB1 hK1; clear c0 c1; have c0 := (blk_cell hz1 0).trans rfl; have f0 := blk_frozen hz1 0; have c1 := (blk_cell hz1 1).trans rfl; have f1 := blk_frozen hz1 1)
  all_goals
    go_wp2
    go_ret
    have P1 := DB.put hz1 hR1a hRa hg hB1
    refine ⟨_, rfl, Kd.R_mono (Kd.R_far P1.2.1 (fun k hk => ?_) _) (fun _ _ => trivial), below_set P1.2.2.2 hg⟩
    rintro rfl
    exact absurd (own_type P1.2.1 hk P1.1) (by decide)
theorem build_one {w0 w : World} {g : Nat} {l ix r : List Int} {A : Option Addr} {c : Nat} {e : S95} (hD : DB w0 w g l ix) (hC : Kd.C k95 w A [e].length [e]) (hc : 1 ≤ c) (hk : e.f1.f0 = 16) (hf : bsoncore_AppendInt32Element.f l e.f0 (wrap32 e.f1.f3) = some r) :
    Calls Tryz.prog 104 #[.pointer (some ⟨g, 0, none⟩), .slice A 1 c] w fun en w' => en = .returned (.tuple #[]) ∧ DB w0 w' g r ix := by
  obtain ⟨ad, A7, c7, A8, c8, rfl, e0, e1, e2, e3, e4, e5, e6, e7, e8, l7, g7, l8, g8⟩ := at_T95 hC 0 (by omega) (by simp)
  have hrd : rd_T95 [e] 0 = e := rfl; rw [hrd] at e0 e1 e2 e3 e4 e5 e6 e7 e8; obtain ⟨s, ek, et, em, en, eb, eh, eB, eK⟩ := e
  simp only at e0 e1 e2 e3 e4 e5 e6 e7 e8 hf hk
  subst hk; rw [show (0 : Int).toNat * 9 = 0 from rfl, Addr.add_zero'] at e0 e1 e2 e3 e4 e5 e6 e7 e8; clear l7 g7 l8 g8 hC hrd
  have al : ∀ {w1 : World} (o : Obj), DB w0 w1 g l ix → DB w0 (w1.alloc o) g l ix := fun o h => by
    obtain ⟨⟨v0, v1, hz, hR0, hR1⟩, hg, hB⟩ := h
    exact ⟨⟨v0, v1, blk_alloc hz o, Kd.R_alloc hR0 o, Kd.R_alloc hR1 o⟩, hg, hB.alloc hB.size _⟩
  go_enter Tryz.func104, Tryz.ntmps104
  go_wp2
  refine wp_loop_rounds 2 ?_
  rw [rounds_succ]
  go_wp2_with (go_at_call 150; refine (db_int32 (al _ (al _ hD)) hf).mono ?_; rintro e w1 ⟨rfl, hD1⟩)
  rw [rounds_succ]
  go_wp2
  go_end0
  exact ⟨rfl, hD1⟩
def impl_Built.f (l0 : List S95) : Option (List Int) := match l0 with
  | [e] => if e.f1.f0 = 16 then (bsoncore_AppendDocumentStart.f []).bind fun x => (bsoncore_AppendInt32Element.f x.2 e.f0 (wrap32 e.f1.f3)).bind fun y => (bsoncore_AppendDocumentEnd.f y x.1).bind fun z => (if z.2 = none then some z.1 else none) else none
  | _ => none
theorem impl_Built.calls (A0 : Option Addr) (c0 : Nat) (l0 : List S95) (r : List Int) (w : World) (hr0 : Kd.C k95 w A0 l0.length l0) (hc0 : l0.length ≤ c0) (h : impl_Built.f l0 = some r) :
    Calls Tryz.prog 56 #[.slice A0 l0.length c0] w fun e w' => ∃ v0_ : Value, e = .returned (v0_) ∧ Kd.R (Kd.int .u8) 5 w' w.heap.size (fun _ => True) v0_ r ∧ Below w.heap.size w w' := by
  unfold impl_Built.f at h
  split at h
  next e =>
    split at h
    next hk =>
      obtain ⟨⟨i, y⟩, h1, h⟩ := Option.bind_eq_some_iff.1 h; obtain ⟨z, h2, h⟩ := Option.bind_eq_some_iff.1 h; obtain ⟨⟨x, er⟩, h3, h⟩ := Option.bind_eq_some_iff.1 h
      cases er with
      | some _ => cases h
      | none =>
        obtain rfl := Option.some.inj h
        go_enter Tryz.func56, Tryz.ntmps56
        go_wp2_with (first
          | (go_at_call 103; refine (db_new (Below.refl _ _) h1).mono ?_; rintro e w1 ⟨g, rfl, hD1⟩)
          | (go_at_call 104; refine (build_one hD1 (Kd.C_below hr0 hD1.hB) hc0 hk h2).mono ?_; rintro e w2 ⟨rfl, hD2⟩)
          | (go_at_call 105; refine (db_build hD2 h3).mono ?_; rintro e w3 ⟨v, rfl, hR, hB⟩))
        go_ret
        exact ⟨v, rfl, hR, hB⟩
    next => cases h
  next => cases h
theorem code_text (s : ByteArray) (w : World) (h1 : (s.toList == ([100, 111, 99, 117, 109, 101, 110, 116, 32, 111, 114, 32, 97, 114, 114, 97, 121, 32, 108, 101, 110, 103, 116, 104, 32, 105, 115, 32, 105, 110, 118, 97, 108, 105, 100] : List UInt8)) = false) (h2 : (s.toList == ([100, 111, 99, 117, 109, 101, 110, 116, 32, 111, 114, 32, 97, 114, 114, 97, 121, 32, 101, 110, 100, 32, 105, 115, 32, 109, 105, 115, 115, 105, 110, 103, 32, 110, 117, 108, 108, 32, 98, 121, 116, 101] : List UInt8)) = false) :
    Calls Tryz.prog 92 #[.iface 178 (.string s)] w fun e w' => e = .returned (.int .i64 4) ∧ Below w.heap.size w w' := by
  have t1 : ∀ W : World, (Instr.typeAssert (.iface 178 (.string s)) 150 177 true).run Tryz.prog W = .ok (.tuple #[.agg #[.slice none 0 0, .slice none 0 0], .bool false]) W := fun W => by rfl
  have t2 : ∀ W : World, (Instr.typeAssert (.iface 178 (.string s)) 150 178 true).run Tryz.prog W = .ok (.tuple #[.string s, .bool true]) W := fun W => by rfl
  go_enter Tryz.func92, Tryz.ntmps92
  go_wp2
  go_ret
  exact ⟨rfl, Below.refl _ _⟩
theorem length_error (a b : Int) (w : World) : Calls Tryz.prog 157 #[.int .i64 a, .int .i64 b] w fun e w' => ∃ s, e = .returned (.iface 178 (.string s)) ∧ s = (⟨#[100, 111, 99, 117, 109, 101, 110, 116]⟩ : ByteArray) ++ ⟨#[32, 108, 101, 110, 103, 116, 104, 32, 101, 120, 99, 101, 101, 100, 115, 32, 97, 118, 97, 105, 108, 97, 98, 108, 101, 32, 98, 121, 116, 101, 115]⟩ ∧ Below w.heap.size w w' := by
  go_enter Tryz.func157, Tryz.ntmps157
  go_wp2
  go_ret
  exact ⟨_, rfl, rfl, Below.refl _ _⟩
theorem dv_long (A : Option Addr) (c : Nat) (l rest : List Int) (n : Int) (w : World) (hC : Kd.C (Kd.int .u8) w A l.length l) (hc : l.length ≤ c) (hl : l.length ≤ 1000000) (hf : bsoncore_ReadLength.f l = some (n, rest, true)) (hn : (l.length : Int) < n) (hn2 : n ≤ 2147483647) :
    Calls Tryz.prog 106 #[.slice A l.length c] w fun e w' => ∃ s, e = .returned (.iface 178 (.string s)) ∧ s = (⟨#[100, 111, 99, 117, 109, 101, 110, 116]⟩ : ByteArray) ++ ⟨#[32, 108, 101, 110, 103, 116, 104, 32, 101, 120, 99, 101, 101, 100, 115, 32, 97, 118, 97, 105, 108, 97, 98, 108, 101, 32, 98, 121, 116, 101, 115]⟩ ∧ Below w.heap.size w w' := by
  have hV : Kd.V (Kd.int .u8) 5 w w.heap.size (fun _ => True) (.slice A l.length c) l := Kd.V_mk hc (Kd.F_mono (Kd.C_F (Kd.heap_int _) hC) (fun _ _ => trivial))
  have hw : wrap64 n = n := by unfold wrap64; omega
  have d0 : decide ((l.length : Int) < n) = true := decide_eq_true hn; clear hC hc
  go_enter Tryz.func106, Tryz.ntmps106
  go_wp2_with (first | (go_at_call 113; refine (bsoncore_ReadLength.calls (fun _ => True) A c l n rest true w hV hf).mono ?_; rintro e w1 ⟨v1, rfl, _, hb1⟩) | (go_at_call 157; refine (length_error _ _ _).mono ?_; rintro e w2 ⟨s, rfl, hs, hb2⟩))
  go_ret
  exact ⟨_, rfl, rfl, below_step hb1 hb2⟩
def impl_Validate.f (l0 : List Int) : Option (Int) := match bsoncore_ReadLength.f l0 with
  | some (n, _, true) => if (l0.length : Int) < n ∧ l0.length ≤ 1000000 ∧ n ≤ 2147483647 then some 4 else none
  | _ => none
theorem impl_Validate.calls (A0 : Option Addr) (c0 : Nat) (l0 : List Int) (r : Int) (w : World) (hr0 : Kd.C (Kd.int .u8) w A0 l0.length l0) (hc0 : l0.length ≤ c0) (h : impl_Validate.f l0 = some r) :
    Calls Tryz.prog 57 #[.slice A0 l0.length c0] w fun e w' => e = .returned (.int .i64 r) ∧ Below w.heap.size w w' := by
  unfold impl_Validate.f at h
  split at h
  next n rest hf =>
    split at h
    next hc =>
      obtain rfl := Option.some.inj h
      go_enter Tryz.func57, Tryz.ntmps57
      go_wp2_with (first | (go_at_call 106; refine (dv_long A0 c0 l0 rest n w hr0 hc0 hc.2.1 hf hc.1 hc.2.2).mono ?_; rintro e w1 ⟨s, rfl, hs, hb1⟩; subst hs) | (go_at_call 92; refine (code_text _ _ (by decide +kernel) (by decide +kernel)).mono ?_; rintro e w2 ⟨rfl, hb2⟩))
      go_ret
      exact ⟨rfl, below_step hb1 hb2⟩
    next => cases h
  next => cases h
def laws_docAwake.f (k : Nat)  : Option (Bool) := (impl_Built.f (([(⟨(⟨#[97]⟩ : ByteArray), (⟨16, (⟨#[]⟩ : ByteArray), (⟨#[]⟩ : ByteArray), 7, 0, 0, ([] : List Int), ([] : List (S95))⟩ : S44)⟩ : S95)] : List (S95)))).bind fun t510 => ((impl_Read.f k 16 (([7, 0, 0, 0, 9] : List Int))).bind fun bt516 => ((impl_Lookup.f k t510 (([(⟨#[97]⟩ : ByteArray)] : List ByteArray))).bind fun bt536 => (if (strOfNums t510).toList = ([12, 0, 0, 0, 16, 97, 0, 7, 0, 0, 0, 0] : List UInt8) then (if bt516.2.2.2.2.2.2.2.2.2 = true then (if bt516.2.2.2.1 = 7 then (if (bt516.2.2.2.2.2.2.2.2.1.length : Int) = 1 then (if bt536.2.2 = 0 then (if bt536.1 = 16 then (if (bt536.2.1.length : Int) = 4 then (if 11 ≤ (t510.length : Int) then ((impl_Validate.f (t510.take 11)).bind fun t546 => (some (t546 != 0))) else (none)) else (none)) else (none)) else (none)) else (none)) else (none)) else (none)) else (none))))
theorem laws_docAwake.mono : ∀ k, LeO (laws_docAwake.f k ) (laws_docAwake.f (k + 1) ) := by
  intro  k
  unfold laws_docAwake.f
  have m0_ := @impl_Lookup.mono; have m1_ := @impl_Read.mono; exact HW.mo
theorem laws_docAwake.calls (k : Nat)  (r : Bool) (w : World) (h : laws_docAwake.f k  = some r) :
    Calls Tryz.prog 15 #[] w fun e w' => e = .returned (.bool r) ∧ Below w.heap.size w w' := by
  have hu44 := Tryz.underlying44; have hu95 := Tryz.underlying95; have hu38 := Tryz.underlying38; have HB := Aside0.mk (Below.refl w.heap.size w)
  have H : ((impl_Built.f (([(⟨(⟨#[97]⟩ : ByteArray), (⟨16, (⟨#[]⟩ : ByteArray), (⟨#[]⟩ : ByteArray), 7, 0, 0, ([] : List Int), ([] : List (S95))⟩ : S44)⟩ : S95)] : List (S95)))).bind fun t510 => ((impl_Read.f k 16 (([7, 0, 0, 0, 9] : List Int))).bind fun bt516 => ((impl_Lookup.f k t510 (([(⟨#[97]⟩ : ByteArray)] : List ByteArray))).bind fun bt536 => (if (strOfNums t510).toList = ([12, 0, 0, 0, 16, 97, 0, 7, 0, 0, 0, 0] : List UInt8) then (if bt516.2.2.2.2.2.2.2.2.2 = true then (if bt516.2.2.2.1 = 7 then (if (bt516.2.2.2.2.2.2.2.2.1.length : Int) = 1 then (if bt536.2.2 = 0 then (if bt536.1 = 16 then (if (bt536.2.1.length : Int) = 4 then (if 11 ≤ (t510.length : Int) then ((impl_Validate.f (t510.take 11)).bind fun t546 => (some (t546 != 0))) else (none)) else (none)) else (none)) else (none)) else (none)) else (none)) else (none)) else (none))))) = some r := h
  clear h; obtain ⟨y507, hy507⟩ : ∃ y_ : List (S95), y_ = (([(⟨(⟨#[97]⟩ : ByteArray), (⟨16, (⟨#[]⟩ : ByteArray), (⟨#[]⟩ : ByteArray), 7, 0, 0, ([] : List Int), ([] : List (S95))⟩ : S44)⟩ : S95)] : List (S95))) := ⟨_, rfl⟩
  replace H : ((impl_Built.f y507).bind fun t510 => ((impl_Read.f k 16 (([7, 0, 0, 0, 9] : List Int))).bind fun bt516 => ((impl_Lookup.f k t510 (([(⟨#[97]⟩ : ByteArray)] : List ByteArray))).bind fun bt536 => (if (strOfNums t510).toList = ([12, 0, 0, 0, 16, 97, 0, 7, 0, 0, 0, 0] : List UInt8) then (if bt516.2.2.2.2.2.2.2.2.2 = true then (if bt516.2.2.2.1 = 7 then (if (bt516.2.2.2.2.2.2.2.2.1.length : Int) = 1 then (if bt536.2.2 = 0 then (if bt536.1 = 16 then (if (bt536.2.1.length : Int) = 4 then (if 11 ≤ (t510.length : Int) then ((impl_Validate.f (t510.take 11)).bind fun t546 => (some (t546 != 0))) else (none)) else (none)) else (none)) else (none)) else (none)) else (none)) else (none)) else (none))))) = some r := by (try rw [hy507]); exact HW.rp
  have Ny507 := Aside0.mk hy507; clear hy507; replace H := Option.bind_eq_some_iff.mp H; obtain ⟨t510, A10, H⟩ := H
  replace H : ((impl_Read.f k 16 (([7, 0, 0, 0, 9] : List Int))).bind fun bt516 => ((impl_Lookup.f k t510 (([(⟨#[97]⟩ : ByteArray)] : List ByteArray))).bind fun bt536 => (if (strOfNums t510).toList = ([12, 0, 0, 0, 16, 97, 0, 7, 0, 0, 0, 0] : List UInt8) then (if bt516.2.2.2.2.2.2.2.2.2 = true then (if bt516.2.2.2.1 = 7 then (if (bt516.2.2.2.2.2.2.2.2.1.length : Int) = 1 then (if bt536.2.2 = 0 then (if bt536.1 = 16 then (if (bt536.2.1.length : Int) = 4 then (if 11 ≤ (t510.length : Int) then ((impl_Validate.f (t510.take 11)).bind fun t546 => (some (t546 != 0))) else (none)) else (none)) else (none)) else (none)) else (none)) else (none)) else (none)) else (none)))) = some r := H
  have A1 := Aside0.mk A10; clear A10; obtain ⟨y513, hy513⟩ : ∃ y_ : List Int, y_ = (([7, 0, 0, 0, 9] : List Int)) := ⟨_, rfl⟩
  replace H : ((impl_Read.f k 16 y513).bind fun bt516 => ((impl_Lookup.f k t510 (([(⟨#[97]⟩ : ByteArray)] : List ByteArray))).bind fun bt536 => (if (strOfNums t510).toList = ([12, 0, 0, 0, 16, 97, 0, 7, 0, 0, 0, 0] : List UInt8) then (if bt516.2.2.2.2.2.2.2.2.2 = true then (if bt516.2.2.2.1 = 7 then (if (bt516.2.2.2.2.2.2.2.2.1.length : Int) = 1 then (if bt536.2.2 = 0 then (if bt536.1 = 16 then (if (bt536.2.1.length : Int) = 4 then (if 11 ≤ (t510.length : Int) then ((impl_Validate.f (t510.take 11)).bind fun t546 => (some (t546 != 0))) else (none)) else (none)) else (none)) else (none)) else (none)) else (none)) else (none)) else (none)))) = some r := by (try rw [hy513]); exact HW.rp
  have Ny513 := Aside0.mk hy513; clear hy513; replace H := Option.bind_eq_some_iff.mp H; obtain ⟨⟨t516, t517, t518, t519, t520, t521, t522, t525, t528, t531⟩, A20, H⟩ := H; replace H : ((impl_Lookup.f k t510 (([(⟨#[97]⟩ : ByteArray)] : List ByteArray))).bind fun bt536 => (if (strOfNums t510).toList = ([12, 0, 0, 0, 16, 97, 0, 7, 0, 0, 0, 0] : List UInt8) then (if t531 = true then (if t519 = 7 then (if (t528.length : Int) = 1 then (if bt536.2.2 = 0 then (if bt536.1 = 16 then (if (bt536.2.1.length : Int) = 4 then (if 11 ≤ (t510.length : Int) then ((impl_Validate.f (t510.take 11)).bind fun t546 => (some (t546 != 0))) else (none)) else (none)) else (none)) else (none)) else (none)) else (none)) else (none)) else (none))) = some r := H; have A2 := Aside0.mk A20; clear A20; obtain ⟨y533, hy533⟩ : ∃ y_ : List ByteArray, y_ = (([(⟨#[97]⟩ : ByteArray)] : List ByteArray)) := ⟨_, rfl⟩
  replace H : ((impl_Lookup.f k t510 y533).bind fun bt536 => (if (strOfNums t510).toList = ([12, 0, 0, 0, 16, 97, 0, 7, 0, 0, 0, 0] : List UInt8) then (if t531 = true then (if t519 = 7 then (if (t528.length : Int) = 1 then (if bt536.2.2 = 0 then (if bt536.1 = 16 then (if (bt536.2.1.length : Int) = 4 then (if 11 ≤ (t510.length : Int) then ((impl_Validate.f (t510.take 11)).bind fun t546 => (some (t546 != 0))) else (none)) else (none)) else (none)) else (none)) else (none)) else (none)) else (none)) else (none))) = some r := by (try rw [hy533]); exact HW.rp
  have Ny533 := Aside0.mk hy533; clear hy533; replace H := Option.bind_eq_some_iff.mp H; obtain ⟨⟨t536, t537, t540⟩, A30, H⟩ := H; replace H : (if (strOfNums t510).toList = ([12, 0, 0, 0, 16, 97, 0, 7, 0, 0, 0, 0] : List UInt8) then (if t531 = true then (if t519 = 7 then (if (t528.length : Int) = 1 then (if t540 = 0 then (if t536 = 16 then (if (t537.length : Int) = 4 then (if 11 ≤ (t510.length : Int) then ((impl_Validate.f (t510.take 11)).bind fun t546 => (some (t546 != 0))) else (none)) else (none)) else (none)) else (none)) else (none)) else (none)) else (none)) else (none)) = some r := H; have A3 := Aside0.mk A30; clear A30
  by_cases c4 : (strOfNums t510).toList = ([12, 0, 0, 0, 16, 97, 0, 7, 0, 0, 0, 0] : List UInt8)
  rotate_left
  · rw [if_neg c4] at H
    exact absurd H (by simp)
  rw [if_pos c4] at H; have c4b0 : ((strOfNums t510).toList == ([12, 0, 0, 0, 16, 97, 0, 7, 0, 0, 0, 0] : List UInt8)) = true := beq_iff_eq.mpr c4; have c4b1 : ((strOfNums t510).toList != ([12, 0, 0, 0, 16, 97, 0, 7, 0, 0, 0, 0] : List UInt8)) = false := bne_eq_false_iff_eq.mpr c4; clear c4
  by_cases c5 : t531 = true
  rotate_left
  · replace c5 := Bool.eq_false_iff.mpr c5
    subst c5
    have H1 : (none) = some r := by rw [if_neg (show ¬ (false = true) by decide)] at H; exact H
    clear H; have H := H1; clear H1
    exact absurd H (by simp)
  subst c5
  have H1 : (if t519 = 7 then (if (t528.length : Int) = 1 then (if t540 = 0 then (if t536 = 16 then (if (t537.length : Int) = 4 then (if 11 ≤ (t510.length : Int) then ((impl_Validate.f (t510.take 11)).bind fun t546 => (some (t546 != 0))) else (none)) else (none)) else (none)) else (none)) else (none)) else (none)) = some r := by rw [if_pos rfl] at H; exact H
  clear H; have H := H1; clear H1
  by_cases c6 : t519 = 7
  rotate_left
  · rw [if_neg c6] at H
    exact absurd H (by simp)
  rw [if_pos c6] at H; have c6b0 : (t519 == 7) = true := beq_iff_eq.mpr c6; have c6b1 : (t519 != 7) = false := bne_eq_false_iff_eq.mpr c6; clear c6
  by_cases c7 : (t528.length : Int) = 1
  rotate_left
  · rw [if_neg c7] at H
    exact absurd H (by simp)
  rw [if_pos c7] at H; have c7b0 : ((t528.length : Int) == 1) = true := beq_iff_eq.mpr c7; have c7b1 : ((t528.length : Int) != 1) = false := bne_eq_false_iff_eq.mpr c7; clear c7
  by_cases c8 : t540 = 0
  rotate_left
  · rw [if_neg c8] at H
    exact absurd H (by simp)
  rw [if_pos c8] at H; have c8b0 : (t540 == 0) = true := beq_iff_eq.mpr c8; have c8b1 : (t540 != 0) = false := bne_eq_false_iff_eq.mpr c8; clear c8
  by_cases c9 : t536 = 16
  rotate_left
  · rw [if_neg c9] at H
    exact absurd H (by simp)
  rw [if_pos c9] at H; have c9b0 : (t536 == 16) = true := beq_iff_eq.mpr c9; have c9b1 : (t536 != 16) = false := bne_eq_false_iff_eq.mpr c9; clear c9
  by_cases c10 : (t537.length : Int) = 4
  rotate_left
  · rw [if_neg c10] at H
    exact absurd H (by simp)
  rw [if_pos c10] at H; have c10b0 : ((t537.length : Int) == 4) = true := beq_iff_eq.mpr c10; have c10b1 : ((t537.length : Int) != 4) = false := bne_eq_false_iff_eq.mpr c10; clear c10
  by_cases c11 : 11 ≤ (t510.length : Int)
  rotate_left
  · rw [if_neg c11] at H
    exact absurd H (by simp)
  rw [if_pos c11] at H; have c11b0 := eq_true c11; have c11b1 : decide (11 ≤ (t510.length : Int)) = true := decide_eq_true c11; clear c11; obtain ⟨y542, hy542⟩ : ∃ y_ : List Int, y_ = (t510.take 11) := ⟨_, rfl⟩
  replace H : ((impl_Validate.f y542).bind fun t546 => (some (t546 != 0))) = some r := by (try rw [hy542]); exact HW.rp
  have Ny542 := Aside0.mk hy542; clear hy542; replace H := Option.bind_eq_some_iff.mp H; obtain ⟨t546, A120, H⟩ := H; replace H : (some (t546 != 0)) = some r := H; have A12 := Aside0.mk A120; clear A120
  focus
    obtain rfl := Option.some.inj H
    go_enter Tryz.func15, Tryz.ntmps15
    go_wp2_with (first | ((with_reducible refine gate_dst (N := 9) rfl ?_); (try (refine gate_guard (by rfl) ?_; dsimp only)); refine Kd.R_lit k95 _ 95 ?hg (N := 9) ?hd (xs := ([(⟨(⟨#[97]⟩ : ByteArray), (⟨16, (⟨#[]⟩ : ByteArray), (⟨#[]⟩ : ByteArray), 7, 0, 0, ([] : List Int), ([] : List (S95))⟩ : S44)⟩ : S95)] : List (S95))) (inner := [.string (⟨#[97]⟩ : ByteArray), .int .i64 16, .string (⟨#[]⟩ : ByteArray), .string (⟨#[]⟩ : ByteArray), .int .i64 7, .int .u64 0, .int .u64 0, .slice none 0 0, .slice none 0 0]) (ok := fun _ => True) (okp := fun _ => True) ?hr ?hp (fun _ hk => hk) trivial (Below.refl _ _) (Nat.le_refl _) (by simp) ?_; (case hd => rfl); (case hg => rfl); (case hr => first | (go_simp; done) | (go_simp; rfl)); (case hp => exact (Reps.c9 (show Kd.M k95 _ _ _ (⟨(⟨#[97]⟩ : ByteArray), (⟨16, (⟨#[]⟩ : ByteArray), (⟨#[]⟩ : ByteArray), 7, 0, 0, ([] : List Int), ([] : List (S95))⟩ : S44)⟩ : S95) [.string (⟨#[97]⟩ : ByteArray), .int .i64 16, .string (⟨#[]⟩ : ByteArray), .string (⟨#[]⟩ : ByteArray), .int .i64 7, .int .u64 0, .int .u64 0, .slice none 0 0, .slice none 0 0] from (k95_mkM _ _ _ (⟨(⟨#[97]⟩ : ByteArray), (⟨16, (⟨#[]⟩ : ByteArray), (⟨#[]⟩ : ByteArray), 7, 0, 0, ([] : List Int), ([] : List (S95))⟩ : S44)⟩ : S95) (Kd.R_nil _ _ _ _ _) (Kd.R_nil _ _ _ _ _))) (Reps.none _ _))); intro v508 w13 ho14 hb hg_ hnew_; clear hg_ hnew_; (first | rw [← Ny507.out] at ho14 | (simp only [Int.reduceToNat] at ho14; rw [← Ny507.out] at ho14)); have HO509 := Aside0.mk (Kd.R_lower ho14 (below_size HW.zb)); replace HB := Aside0.mk (below_step HW.zb hb); clear hb ho14; obtain ⟨Ao15, co15, eo15⟩ := Kd.R_slice HO509.out; subst eo15) | ((with_reducible refine gate_callee (f := 56) rfl ?_); refine HW.gz (some 10) rfl rfl Tryz.func56 (by kernel_rfl) rfl #[.slice Ao15 y507.length co15] rfl ?_; (with_reducible refine (impl_Built.calls _ _ y507 t510 _ ?side1 ?side2 A1.out).mono ?_); (case side1 => repeat (first | exact (Kd.R_reads' HO509.out).2.2 | (with_reducible refine Kd.C_alloc ?_ _) | (with_reducible refine Kd.C_drewN ?_ _) | (with_reducible refine Kd.C_drew ?_))); (case side2 => exact (Kd.R_reads' HO509.out).2.1); rintro e w16 ⟨v511, rfl, ho0, hb⟩; refine ⟨_, rfl, ?_⟩; have HO512 := Aside0.mk (Kd.R_lower ho0 (below_size HW.zb)); replace HB := Aside0.mk (below_step HW.zb hb); (try clear hb); (try clear ho0)) | ((with_reducible refine gate_dst (N := 12) rfl ?_); (try (refine gate_guard (by rfl) ?_; dsimp only)); refine Kd.R_lit (Kd.int .u8) _ 5 ?hg (N := 12) ?hd (xs := ([7, 0, 0, 0, 9] : List Int)) (inner := [.int .u8 7, .int .u8 0, .int .u8 0, .int .u8 0, .int .u8 9]) (ok := fun _ => True) (okp := fun _ => True) ?hr ?hp (fun _ hk => hk) trivial (Below.refl _ _) (Nat.le_refl _) (by simp) ?_; (case hd => rfl); (case hg => rfl); (case hr => first | (go_simp; done) | (go_simp; rfl)); (case hp => exact (Reps.one (show Kd.M (Kd.int .u8) _ _ _ 7 [.int .u8 7] from rfl) (Reps.one (show Kd.M (Kd.int .u8) _ _ _ 0 [.int .u8 0] from rfl) (Reps.one (show Kd.M (Kd.int .u8) _ _ _ 0 [.int .u8 0] from rfl) (Reps.one (show Kd.M (Kd.int .u8) _ _ _ 0 [.int .u8 0] from rfl) (Reps.one (show Kd.M (Kd.int .u8) _ _ _ 9 [.int .u8 9] from rfl) (Reps.none _ _))))))); intro v514 w17 ho18 hb hg_ hnew_; clear hg_ hnew_; (first | rw [← Ny513.out] at ho18 | (simp only [Int.reduceToNat] at ho18; rw [← Ny513.out] at ho18)); have n0_ := Aside0.mk (Kd.R_below (HW.zR HO512.out) hb); have n1_ := Aside0.mk (Kd.R_lower ho18 (below_size HW.zb)); have n2_ := Aside0.mk (below_step HW.zb hb); clear HO512; clear HB; (try clear HO509); have HO512 := n0_; have HO515 := n1_; have HB := n2_; clear n0_ n1_ n2_; clear hb ho18; obtain ⟨Ao19, co19, eo19⟩ := Kd.R_slice HO515.out; subst eo19) | ((with_reducible refine gate_callee (f := 34) rfl ?_); refine HW.gz (some 13) rfl rfl Tryz.func34 (by kernel_rfl) rfl #[.int .i64 16, .slice Ao19 y513.length co19] rfl ?_; (with_reducible refine (impl_Read.calls k 16 _ _ y513 t516 t517 t518 t519 t520 t521 t522 t525 t528 true _ ?side1 ?side2 A2.out).mono ?_); (case side1 => repeat (first | exact (Kd.R_reads' HO515.out).2.2 | (with_reducible refine Kd.C_alloc ?_ _) | (with_reducible refine Kd.C_drewN ?_ _) | (with_reducible refine Kd.C_drew ?_))); (case side2 => exact (Kd.R_reads' HO515.out).2.1); rintro e w20 ⟨v523, v526, v529, rfl, ho0, ho1, ho2, hb⟩; refine ⟨_, rfl, ?_⟩; replace HO512 := Aside0.mk (Kd.R_below (HW.zR HO512.out) hb); have HO524 := Aside0.mk (Kd.R_lower ho0 (below_size HW.zb)); have HO527 := Aside0.mk (Kd.R_lower ho1 (below_size HW.zb)); have HO530 := Aside0.mk (Kd.R_lower ho2 (below_size HW.zb)); replace HB := Aside0.mk (below_step HW.zb hb); (try clear hb); (try clear ho0); (try clear ho1); (try clear ho2)) | ((with_reducible refine gate_dst (N := 2) rfl ?_); (try (refine gate_guard (by rfl) ?_; dsimp only)); refine box_event ?hg (N := 2) ?hd (cs := #[.int .i64 0, .string (⟨#[]⟩ : ByteArray), .string (⟨#[]⟩ : ByteArray), .int .i64 0, .int .u64 0, .int .u64 0, .slice none 0 0, .slice none 0 0]) (t := 44) ?hr ?_; (case hd => rfl); (case hg => rfl); (case hr => first | (go_simp; done) | (go_simp; rfl)); intro gb532 hg w21 hbox hb; have n0_ := Aside0.mk (Kd.R_below (HW.zR HO512.out) hb); have n1_ := Aside0.mk (Kd.R_below (HW.zR HO524.out) hb); have n2_ := Aside0.mk (Kd.R_below (HW.zR HO527.out) hb); have n3_ := Aside0.mk (Kd.R_below (HW.zR HO530.out) hb); have n4_ := Aside0.mk (below_step HW.zb hb); have n5_ := Aside0.mk (hbox); have n6_ := Aside0.mk ((by rw [hg]; exact (below_size HW.zb) : w.heap.size ≤ gb532)); have n7_ := Aside0.mk ((by rw [hg]; exact (below_size HW.zb) : w.heap.size ≤ gb532)); clear HO512; clear HO524; clear HO527; clear HO530; clear HB; (try clear HO515); have HO512 := n0_; have HO524 := n1_; have HO527 := n2_; have HO530 := n3_; have HB := n4_; have BK532 := n5_; have GW532 := n6_; have GE532 := n7_; clear n0_ n1_ n2_ n3_ n4_ n5_ n6_ n7_; clear hb hbox hg; obtain ⟨hcz22_0, hcz22_1, hcz22_2, hcz22_3, hcz22_4, hcz22_5, hcz22_6, hcz22_7, hfz23_0, hfz23_1, hfz23_2, hfz23_3, hfz23_4, hfz23_5, hfz23_6, hfz23_7⟩ := HW.k8f BK532.out; obtain ⟨Ao24, co24, eo24⟩ := Kd.R_slice HO524.out; subst eo24; obtain ⟨Ao25, co25, eo25⟩ := Kd.R_slice HO527.out; subst eo25) | ((with_reducible refine gate_dst (N := 19) rfl ?_); (try (refine gate_guard (by rfl) ?_; dsimp only)); refine Kd.R_lit Kd.string _ 9 ?hg (N := 19) ?hd (xs := ([(⟨#[97]⟩ : ByteArray)] : List ByteArray)) (inner := [.string (⟨#[97]⟩ : ByteArray)]) (ok := fun _ => True) (okp := fun _ => True) ?hr ?hp (fun _ hk => hk) trivial (Below.refl _ _) (Nat.le_refl _) (by simp) ?_; (case hd => rfl); (case hg => rfl); (case hr => first | (go_simp; done) | (go_simp; rfl)); (case hp => exact (Reps.one (show Kd.M Kd.string _ _ _ (⟨#[97]⟩ : ByteArray) [.string (⟨#[97]⟩ : ByteArray)] from rfl) (Reps.none _ _))); intro v534 w26 ho27 hb hg_ hnew_; clear hg_ hnew_; (first | rw [← Ny533.out] at ho27 | (simp only [Int.reduceToNat] at ho27; rw [← Ny533.out] at ho27)); have n0_ := Aside0.mk (Kd.R_below (by (with_reducible repeat (first | apply Kd.R_alloc | apply Kd.R_drewN | apply Kd.R_drew)); exact (Kd.R_mono (Kd.R_far (p := ⟨gb532, 7, none⟩) (Kd.R_far (p := ⟨gb532, 6, none⟩) (Kd.R_far (p := ⟨gb532, 5, none⟩) (Kd.R_far (p := ⟨gb532, 4, none⟩) (Kd.R_far (p := ⟨gb532, 3, none⟩) (Kd.R_far (p := ⟨gb532, 2, none⟩) (Kd.R_far (p := ⟨gb532, 1, none⟩) (Kd.R_far (p := ⟨gb532, 0, none⟩) (Kd.R_types HO512.out BK532.out (by decide)) (fun _ hk => hk.2) (.int .i64 t516)) (fun _ hk => hk.2) (.string t517)) (fun _ hk => hk.2) (.string t518)) (fun _ hk => hk.2) (.int .i64 t519)) (fun _ hk => hk.2) (.int .u64 t520)) (fun _ hk => hk.2) (.int .u64 t521)) (fun _ hk => hk.2) (.slice Ao24 t522.length co24)) (fun _ hk => hk.2) (.slice Ao25 t525.length co25)) (fun _ h_ => h_.1))) hb); have n3_ := Aside0.mk (Kd.R_below (by (with_reducible repeat (first | apply Kd.R_alloc | apply Kd.R_drewN | apply Kd.R_drew)); exact (Kd.R_mono (Kd.R_far (p := ⟨gb532, 7, none⟩) (Kd.R_far (p := ⟨gb532, 6, none⟩) (Kd.R_far (p := ⟨gb532, 5, none⟩) (Kd.R_far (p := ⟨gb532, 4, none⟩) (Kd.R_far (p := ⟨gb532, 3, none⟩) (Kd.R_far (p := ⟨gb532, 2, none⟩) (Kd.R_far (p := ⟨gb532, 1, none⟩) (Kd.R_far (p := ⟨gb532, 0, none⟩) (Kd.R_types HO530.out BK532.out (by decide)) (fun _ hk => hk.2) (.int .i64 t516)) (fun _ hk => hk.2) (.string t517)) (fun _ hk => hk.2) (.string t518)) (fun _ hk => hk.2) (.int .i64 t519)) (fun _ hk => hk.2) (.int .u64 t520)) (fun _ hk => hk.2) (.int .u64 t521)) (fun _ hk => hk.2) (.slice Ao24 t522.length co24)) (fun _ hk => hk.2) (.slice Ao25 t525.length co25)) (fun _ h_ => h_.1))) hb); have n4_ := Aside0.mk (Kd.R_lower ho27 (below_size HW.zb)); have n5_ := Aside0.mk (blk_below (g := gb532) (o := .cells #[.int .i64 t516, .string t517, .string t518, .int .i64 t519, .int .u64 t520, .int .u64 t521, .slice Ao24 t522.length co24, .slice Ao25 t525.length co25] 44 (0, 0)) (by (with_reducible repeat (first | refine blk_drewN ?_ _ | refine blk_drew ?_ | refine blk_alloc ?_ _)); refine blk_put (cs := #[.int .i64 t516, .string t517, .string t518, .int .i64 t519, .int .u64 t520, .int .u64 t521, .slice Ao24 t522.length co24, .slice none 0 0]) ?_ 7 _ rfl; (with_reducible repeat (first | refine blk_drewN ?_ _ | refine blk_drew ?_ | refine blk_alloc ?_ _)); refine blk_put (cs := #[.int .i64 t516, .string t517, .string t518, .int .i64 t519, .int .u64 t520, .int .u64 t521, .slice none 0 0, .slice none 0 0]) ?_ 6 _ rfl; (with_reducible repeat (first | refine blk_drewN ?_ _ | refine blk_drew ?_ | refine blk_alloc ?_ _)); refine blk_put (cs := #[.int .i64 t516, .string t517, .string t518, .int .i64 t519, .int .u64 t520, .int .u64 0, .slice none 0 0, .slice none 0 0]) ?_ 5 _ rfl; (with_reducible repeat (first | refine blk_drewN ?_ _ | refine blk_drew ?_ | refine blk_alloc ?_ _)); refine blk_put (cs := #[.int .i64 t516, .string t517, .string t518, .int .i64 t519, .int .u64 0, .int .u64 0, .slice none 0 0, .slice none 0 0]) ?_ 4 _ rfl; (with_reducible repeat (first | refine blk_drewN ?_ _ | refine blk_drew ?_ | refine blk_alloc ?_ _)); refine blk_put (cs := #[.int .i64 t516, .string t517, .string t518, .int .i64 0, .int .u64 0, .int .u64 0, .slice none 0 0, .slice none 0 0]) ?_ 3 _ rfl; (with_reducible repeat (first | refine blk_drewN ?_ _ | refine blk_drew ?_ | refine blk_alloc ?_ _)); refine blk_put (cs := #[.int .i64 t516, .string t517, .string (⟨#[]⟩ : ByteArray), .int .i64 0, .int .u64 0, .int .u64 0, .slice none 0 0, .slice none 0 0]) ?_ 2 _ rfl; (with_reducible repeat (first | refine blk_drewN ?_ _ | refine blk_drew ?_ | refine blk_alloc ?_ _)); refine blk_put (cs := #[.int .i64 t516, .string (⟨#[]⟩ : ByteArray), .string (⟨#[]⟩ : ByteArray), .int .i64 0, .int .u64 0, .int .u64 0, .slice none 0 0, .slice none 0 0]) ?_ 1 _ rfl; (with_reducible repeat (first | refine blk_drewN ?_ _ | refine blk_drew ?_ | refine blk_alloc ?_ _)); refine blk_put (cs := #[.int .i64 0, .string (⟨#[]⟩ : ByteArray), .string (⟨#[]⟩ : ByteArray), .int .i64 0, .int .u64 0, .int .u64 0, .slice none 0 0, .slice none 0 0]) ?_ 0 _ rfl; exact HW.zB BK532.out) hb); have n6_ := Aside0.mk (below_step HW.zb hb); clear HO512; clear HO530; clear BK532; clear HB; have HO512 := n0_; have HO530 := n3_; have HO535 := n4_; have BK532 := n5_; have HB := n6_; clear n0_ n3_ n4_ n5_ n6_; clear hb ho27; obtain ⟨Ao28, co28, eo28⟩ := Kd.R_slice HO512.out; subst eo28; obtain ⟨Ao29, co29, eo29⟩ := Kd.R_slice HO535.out; subst eo29) | ((with_reducible refine gate_callee (f := 45) rfl ?_); refine HW.gz (some 20) rfl rfl Tryz.func45 (by kernel_rfl) rfl #[.slice Ao28 t510.length co28, .slice Ao29 y533.length co29] rfl ?_; (with_reducible refine (impl_Lookup.calls k _ _ t510 _ _ y533 t536 t537 t540 _ ?side1 ?side2 ?side3 ?side4 A3.out).mono ?_); (case side1 => repeat (first | exact (Kd.R_reads' HO512.out).2.2 | (with_reducible refine Kd.C_alloc ?_ _) | (with_reducible refine Kd.C_drewN ?_ _) | (with_reducible refine Kd.C_drew ?_))); (case side2 => exact (Kd.R_reads' HO512.out).2.1); (case side3 => repeat (first | exact (Kd.R_reads' HO535.out).2.2 | (with_reducible refine Kd.C_alloc ?_ _) | (with_reducible refine Kd.C_drewN ?_ _) | (with_reducible refine Kd.C_drew ?_))); (case side4 => exact (Kd.R_reads' HO535.out).2.1); rintro e w30 ⟨v538, rfl, ho0, hb⟩; refine ⟨_, rfl, ?_⟩; have n0_ := Aside0.mk (Kd.R_below (HW.zR HO512.out) hb); have n1_ := Aside0.mk (Kd.R_below (HW.zR HO530.out) hb); have n2_ := Aside0.mk (Kd.R_below (HW.zR HO535.out) hb); have n3_ := Aside0.mk (Kd.R_lower ho0 (below_size HW.zb)); have n4_ := Aside0.mk (blk_below (HW.zB BK532.out) hb); have n5_ := Aside0.mk (below_step HW.zb hb); clear HO512; clear HO530; clear HO535; clear BK532; clear HB; (try clear HO524); (try clear HO527); have HO512 := n0_; have HO530 := n1_; have HO535 := n2_; have HO539 := n3_; have BK532 := n4_; have HB := n5_; clear n0_ n1_ n2_ n3_ n4_ n5_; (try clear hb); (try clear ho0)) | ((with_reducible refine gate_dst (N := 5) rfl ?_); (try (refine gate_guard (by rfl) ?_; dsimp only)); refine box_event ?hg (N := 5) ?hd (cs := #[.int .i64 0, .slice none 0 0]) (t := 38) ?hr ?_; (case hd => rfl); (case hg => rfl); (case hr => first | (go_simp; done) | (go_simp; rfl)); intro gb541 hg w31 hbox hb; have n0_ := Aside0.mk (Kd.R_below (HW.zR HO512.out) hb); have n1_ := Aside0.mk (Kd.R_below (HW.zR HO530.out) hb); have n2_ := Aside0.mk (Kd.R_below (HW.zR HO539.out) hb); have n3_ := Aside0.mk (blk_below (HW.zB BK532.out) hb); have n4_ := Aside0.mk (below_step HW.zb hb); have n5_ := Aside0.mk (hbox); have n6_ := Aside0.mk ((by rw [hg]; exact (below_size HW.zb) : w.heap.size ≤ gb541)); have n7_ := Aside0.mk ((by rw [hg]; exact (below_size HW.zb) : w.heap.size ≤ gb541)); have n8_ := Aside0.mk ((by rw [hg]; exact Nat.ne_of_lt (blk_lt (g := gb532) (o := .cells #[.int .i64 t516, .string t517, .string t518, .int .i64 t519, .int .u64 t520, .int .u64 t521, .slice Ao24 t522.length co24, .slice Ao25 t525.length co25] 44 (0, 0)) (HW.zB BK532.out)) : gb532 ≠ gb541)); have n9_ := Aside0.mk ((by rw [hg]; exact Nat.ne_of_gt (blk_lt (g := gb532) (o := .cells #[.int .i64 t516, .string t517, .string t518, .int .i64 t519, .int .u64 t520, .int .u64 t521, .slice Ao24 t522.length co24, .slice Ao25 t525.length co25] 44 (0, 0)) (HW.zB BK532.out)) : gb541 ≠ gb532)); clear HO512; clear HO530; clear HO539; clear BK532; clear HB; (try clear HO535); have HO512 := n0_; have HO530 := n1_; have HO539 := n2_; have BK532 := n3_; have HB := n4_; have BK541 := n5_; have GW541 := n6_; have GE541 := n7_; have NB532_541 := n8_; have NB541_532 := n9_; clear n0_ n1_ n2_ n3_ n4_ n5_ n6_ n7_ n8_ n9_; clear hb hbox hg; have hnb32 := NB541_532.out; have hnc32 := NB532_541.out; obtain ⟨hcz33_0, hcz33_1, hfz34_0, hfz34_1⟩ := HW.k2f BK541.out; obtain ⟨Ao35, co35, eo35⟩ := Kd.R_slice HO539.out; subst eo35) | ((with_reducible refine gate_store (t := 38) (p := 5) rfl ?_); refine store_event (t := 38) (p := 5) (v := ?vo_w36) (w1 := ((w31.setCell ⟨gb541, 0, none⟩ (.int .i64 t536)).setCell ⟨gb541, 1, none⟩ (.slice Ao35 t537.length co35))) ?hg ?ho ?hn ?hr ?_; (case ho => rfl); (case hg => rfl); (case hn => rfl); (case hr => first | (go_simp; done) | (go_simp; rfl)); intro w36 hw; have n0_ : Aside0 (Kd.R (Kd.int .u8) 5 w36 w.heap.size (fun _ => True) (.slice Ao28 t510.length co28) t510) := ⟨(by rw [hw]; exact (by (with_reducible repeat (first | apply Kd.R_alloc | apply Kd.R_drewN | apply Kd.R_drew)); exact Kd.R_mono (Kd.R_far (p := ⟨gb541, 1, none⟩) (Kd.R_far (p := ⟨gb541, 0, none⟩) (Kd.R_types HO512.out BK541.out (by decide)) (fun _ hk => hk.2) (.int .i64 t536)) (fun _ hk => hk.2) (.slice Ao35 t537.length co35)) (fun _ hk => trivial)))⟩; have n1_ : Aside0 (Kd.R (Kd.int .u8) 5 w36 w.heap.size (fun _ => True) v529 t528) := ⟨(by rw [hw]; exact (by (with_reducible repeat (first | apply Kd.R_alloc | apply Kd.R_drewN | apply Kd.R_drew)); exact Kd.R_mono (Kd.R_far (p := ⟨gb541, 1, none⟩) (Kd.R_far (p := ⟨gb541, 0, none⟩) (Kd.R_types HO530.out BK541.out (by decide)) (fun _ hk => hk.2) (.int .i64 t536)) (fun _ hk => hk.2) (.slice Ao35 t537.length co35)) (fun _ hk => trivial)))⟩; have n2_ : Aside0 (Kd.R (Kd.int .u8) 5 w36 w.heap.size (fun _ => True) (.slice Ao35 t537.length co35) t537) := ⟨(by rw [hw]; exact (by (with_reducible repeat (first | apply Kd.R_alloc | apply Kd.R_drewN | apply Kd.R_drew)); exact Kd.R_mono (Kd.R_far (p := ⟨gb541, 1, none⟩) (Kd.R_far (p := ⟨gb541, 0, none⟩) (Kd.R_types HO539.out BK541.out (by decide)) (fun _ hk => hk.2) (.int .i64 t536)) (fun _ hk => hk.2) (.slice Ao35 t537.length co35)) (fun _ hk => trivial)))⟩; have n3_ : Aside0 (w36.heap[gb532]? = some (.cells #[.int .i64 t516, .string t517, .string t518, .int .i64 t519, .int .u64 t520, .int .u64 t521, .slice Ao24 t522.length co24, .slice Ao25 t525.length co25] 44 (0, 0))) := ⟨(by rw [hw]; exact (by (with_reducible repeat (first | refine blk_drewN ?_ _ | refine blk_drew ?_ | refine blk_alloc ?_ _)); refine blk_far ?_ NB532_541.out _; (with_reducible repeat (first | refine blk_drewN ?_ _ | refine blk_drew ?_ | refine blk_alloc ?_ _)); refine blk_far ?_ NB532_541.out _; exact HW.zB BK532.out))⟩; have n4_ : Aside0 (w36.heap[gb541]? = some (.cells #[.int .i64 t536, .slice Ao35 t537.length co35] 38 (0, 0))) := ⟨(by rw [hw]; exact (by (with_reducible repeat (first | refine blk_drewN ?_ _ | refine blk_drew ?_ | refine blk_alloc ?_ _)); refine blk_put (cs := #[.int .i64 t536, .slice none 0 0]) ?_ 1 _ rfl; (with_reducible repeat (first | refine blk_drewN ?_ _ | refine blk_drew ?_ | refine blk_alloc ?_ _)); refine blk_put (cs := #[.int .i64 0, .slice none 0 0]) ?_ 0 _ rfl; exact HW.zB BK541.out))⟩; have n5_ : Aside0 (Below w.heap.size w w36) := ⟨(by rw [hw]; exact HW.zb)⟩; clear hw; clear HO512; clear HO530; clear HO539; clear BK532; clear BK541; clear HB; have HO512 := n0_; have HO530 := n1_; have HO539 := n2_; have BK532 := n3_; have BK541 := n4_; have HB := n5_; clear n0_ n1_ n2_ n3_ n4_ n5_; have hcv37 := own_string (P := Tryz.prog) Tryz.underlying22 Tryz.underlying5 Tryz.underlying9 (Kd.own_of_R HO512.out); obtain ⟨hcz38_0, hcz38_1, hcz38_2, hcz38_3, hcz38_4, hcz38_5, hcz38_6, hcz38_7⟩ := HW.k8 BK532.out; obtain ⟨Ao39, co39, eo39⟩ := Kd.R_slice HO530.out; subst eo39; obtain ⟨hcz40_0, hcz40_1⟩ := HW.k2 BK541.out; have q41 : (11 : Int) ≤ ((t510.length : Int) : Int) := HW.od; obtain ⟨i041, hi041, _, hsz41, _⟩ := info_parts info5; have hroom41 : t510.length ≤ co28 := (Kd.R_reads' HO512.out).2.1; have hC41 : Kd.C (Kd.int .u8) _ Ao28 t510.length t510 := (Kd.R_reads' HO512.out).2.2; have hcut41 := cut_to (P := Tryz.prog) 22 5 .i64 Tryz.underlying22 hi041 Ao28 t510.length co28 11 (by omega) q41 hroom41; have hr41 := Kd.C_take (m := 11) hC41 (by omega); have hy41 : y542.length = (11 : Int).toNat := (by rw [Ny542.out, List.length_take]; omega); rw [← Ny542.out] at hr41; rw [← hy41] at hcut41; have HR545 := Aside0.mk hr41; have HC545 := Aside0.mk (show y542.length ≤ co28 from by omega); clear hr41 hC41 hroom41 hi041 hsz41; have KY41 := Aside0.mk hy41; clear hy41; have KL41 := Aside0.mk (show 11 ≤ t510.length from by omega); replace q41 := eq_true q41) | (go_at_call 57; (with_reducible refine (impl_Validate.calls _ _ y542 t546 _ ?side1 ?side2 A12.out).mono ?_); (case side1 => repeat (first | exact (by repeat (first | (with_reducible exact HR545.out) | (with_reducible refine Kd.C_alloc ?_ _) | (with_reducible refine Kd.C_drewN ?_ _) | (with_reducible refine Kd.C_drew ?_) | exact HR545.out)) | (with_reducible refine Kd.C_alloc ?_ _) | (with_reducible refine Kd.C_drewN ?_ _) | (with_reducible refine Kd.C_drew ?_))); (case side2 => exact HC545.out); rintro e w42 ⟨rfl, hb⟩; have n0_ := Aside0.mk (Kd.R_below (HW.zR HO512.out) hb); have n1_ := Aside0.mk (Kd.C_below (by repeat (first | (with_reducible exact HR545.out) | (with_reducible refine Kd.C_alloc ?_ _) | (with_reducible refine Kd.C_drewN ?_ _) | (with_reducible refine Kd.C_drew ?_) | exact HR545.out)) hb); have n2_ := Aside0.mk (below_step HW.zb hb); clear HO512; clear HR545; clear HB; (try clear BK532); (try clear HO530); (try clear BK541); (try clear HO539); have HO512 := n0_; have HR545 := n1_; have HB := n2_; clear n0_ n1_ n2_; (try clear hb)))
    go_ret
    exact ⟨rfl, HW.zb⟩
def laws_zzFits1.f (a0_0 : Int) (a0_1 : ByteArray) (a0_2 : ByteArray) (a0_3 : Int) (a0_4 : Int) (a0_5 : Int) (l0_6 : List Int) (l0_7 : List (S95)) : Option (Bool) := if (a0_1.size : Int) > 2147483647 then (some false) else (if (a0_2.size : Int) > 2147483647 then (some false) else (if (l0_6.length : Int) > 2147483647 then (some false) else (if (l0_7.length : Int) > 2147483647 then (some false) else (some true))))
theorem laws_zzFits1.calls (a0_0 : Int) (a0_1 : ByteArray) (a0_2 : ByteArray) (a0_3 : Int) (a0_4 : Int) (a0_5 : Int) (A0_6 : Option Addr) (c0_6 : Nat) (l0_6 : List Int) (A0_7 : Option Addr) (c0_7 : Nat) (l0_7 : List (S95)) (r : Bool) (w : World) (hr0_6 : Kd.C (Kd.int .u8) w A0_6 l0_6.length l0_6) (hc0_6 : l0_6.length ≤ c0_6) (hr0_7 : Kd.C k95 w A0_7 l0_7.length l0_7) (hc0_7 : l0_7.length ≤ c0_7) (h : laws_zzFits1.f a0_0 a0_1 a0_2 a0_3 a0_4 a0_5 l0_6 l0_7 = some r) :
    Calls Tryz.prog 30 #[.agg #[.int .i64 a0_0, .string a0_1, .string a0_2, .int .i64 a0_3, .int .u64 a0_4, .int .u64 a0_5, .slice A0_6 l0_6.length c0_6, .slice A0_7 l0_7.length c0_7]] w fun e w' => e = .returned (.bool r) ∧ Below w.heap.size w w' := by
  have hu44 := Tryz.underlying44; have HR0_6 := Aside0.mk hr0_6; have HC0_6 := Aside0.mk hc0_6; clear hr0_6 hc0_6; have HR0_7 := Aside0.mk hr0_7; have HC0_7 := Aside0.mk hc0_7; clear hr0_7 hc0_7; have HB := Aside0.mk (Below.refl w.heap.size w); have H : (if (a0_1.size : Int) > 2147483647 then (some false) else (if (a0_2.size : Int) > 2147483647 then (some false) else (if (l0_6.length : Int) > 2147483647 then (some false) else (if (l0_7.length : Int) > 2147483647 then (some false) else (some true))))) = some r := h; clear h
  by_cases c2 : (a0_1.size : Int) > 2147483647
  · rw [if_pos c2] at H
    have c2b0 : decide (2147483647 < (a0_1.size : Int)) = true := decide_eq_true c2
    have c2b1 : decide (2147483647 < a0_1.size) = true := decide_eq_true (by omega)
    clear c2
    as_aux_lemma =>
      obtain rfl := Option.some.inj H
      go_enter Tryz.func30, Tryz.ntmps30
      go_wp2_with (first | ((with_reducible refine gate_dst (N := 1) rfl ?_); refine box_event ?hg (N := 1) ?hd (cs := #[.int .i64 a0_0, .string a0_1, .string a0_2, .int .i64 a0_3, .int .u64 a0_4, .int .u64 a0_5, .slice A0_6 l0_6.length c0_6, .slice A0_7 l0_7.length c0_7]) (t := 44) ?hr ?_; (case hd => rfl); (case hg => rfl); (case hr => first | (go_simp; done) | (go_simp; rfl)); intro gb547 hg w3 hbox hb; have n0_ := Aside0.mk (below_step HW.zb hb); have n1_ := Aside0.mk (hbox); have n3_ := Aside0.mk ((by rw [hg]; exact (below_size HW.zb) : w.heap.size ≤ gb547)); clear HB; have HB := n0_; have BK547 := n1_; have GE547 := n3_; clear n0_ n1_ n3_; clear hb hbox hg; obtain ⟨hcz4_0, hcz4_1, hcz4_2, hcz4_3, hcz4_4, hcz4_5, hcz4_6, hcz4_7⟩ := HW.k8 BK547.out))
      go_ret
      exact ⟨rfl, HW.zb⟩
  rw [if_neg c2] at H; have c2b0 : decide (2147483647 < (a0_1.size : Int)) = false := decide_eq_false c2
  have c2b1 : decide (2147483647 < a0_1.size) = false := decide_eq_false (by omega)
  clear c2
  by_cases c5 : (a0_2.size : Int) > 2147483647
  · rw [if_pos c5] at H
    have c5b0 : decide (2147483647 < (a0_2.size : Int)) = true := decide_eq_true c5
    have c5b1 : decide (2147483647 < a0_2.size) = true := decide_eq_true (by omega)
    clear c5
    as_aux_lemma =>
      obtain rfl := Option.some.inj H
      go_enter Tryz.func30, Tryz.ntmps30
      go_wp2_with (first | ((with_reducible refine gate_dst (N := 1) rfl ?_); refine box_event ?hg (N := 1) ?hd (cs := #[.int .i64 a0_0, .string a0_1, .string a0_2, .int .i64 a0_3, .int .u64 a0_4, .int .u64 a0_5, .slice A0_6 l0_6.length c0_6, .slice A0_7 l0_7.length c0_7]) (t := 44) ?hr ?_; (case hd => rfl); (case hg => rfl); (case hr => first | (go_simp; done) | (go_simp; rfl)); intro gb547 hg w6 hbox hb; have n0_ := Aside0.mk (below_step HW.zb hb); have n1_ := Aside0.mk (hbox); have n3_ := Aside0.mk ((by rw [hg]; exact (below_size HW.zb) : w.heap.size ≤ gb547)); clear HB; have HB := n0_; have BK547 := n1_; have GE547 := n3_; clear n0_ n1_ n3_; clear hb hbox hg; obtain ⟨hcz7_0, hcz7_1, hcz7_2, hcz7_3, hcz7_4, hcz7_5, hcz7_6, hcz7_7⟩ := HW.k8 BK547.out))
      go_ret
      exact ⟨rfl, HW.zb⟩
  rw [if_neg c5] at H; have c5b0 : decide (2147483647 < (a0_2.size : Int)) = false := decide_eq_false c5
  have c5b1 : decide (2147483647 < a0_2.size) = false := decide_eq_false (by omega)
  clear c5
  by_cases c8 : (l0_6.length : Int) > 2147483647
  · rw [if_pos c8] at H
    have c8b0 : decide (2147483647 < (l0_6.length : Int)) = true := decide_eq_true c8
    have c8b1 : decide (2147483647 < l0_6.length) = true := decide_eq_true (by omega)
    clear c8
    as_aux_lemma =>
      obtain rfl := Option.some.inj H
      go_enter Tryz.func30, Tryz.ntmps30
      go_wp2_with (first | ((with_reducible refine gate_dst (N := 1) rfl ?_); refine box_event ?hg (N := 1) ?hd (cs := #[.int .i64 a0_0, .string a0_1, .string a0_2, .int .i64 a0_3, .int .u64 a0_4, .int .u64 a0_5, .slice A0_6 l0_6.length c0_6, .slice A0_7 l0_7.length c0_7]) (t := 44) ?hr ?_; (case hd => rfl); (case hg => rfl); (case hr => first | (go_simp; done) | (go_simp; rfl)); intro gb547 hg w9 hbox hb; have n0_ := Aside0.mk (below_step HW.zb hb); have n1_ := Aside0.mk (hbox); have n3_ := Aside0.mk ((by rw [hg]; exact (below_size HW.zb) : w.heap.size ≤ gb547)); clear HB; have HB := n0_; have BK547 := n1_; have GE547 := n3_; clear n0_ n1_ n3_; clear hb hbox hg; obtain ⟨hcz10_0, hcz10_1, hcz10_2, hcz10_3, hcz10_4, hcz10_5, hcz10_6, hcz10_7⟩ := HW.k8 BK547.out))
      go_ret
      exact ⟨rfl, HW.zb⟩
  rw [if_neg c8] at H; have c8b0 : decide (2147483647 < (l0_6.length : Int)) = false := decide_eq_false c8
  have c8b1 : decide (2147483647 < l0_6.length) = false := decide_eq_false (by omega)
  clear c8
  by_cases c11 : (l0_7.length : Int) > 2147483647
  · rw [if_pos c11] at H
    have c11b0 : decide (2147483647 < (l0_7.length : Int)) = true := decide_eq_true c11
    have c11b1 : decide (2147483647 < l0_7.length) = true := decide_eq_true (by omega)
    clear c11
    as_aux_lemma =>
      obtain rfl := Option.some.inj H
      go_enter Tryz.func30, Tryz.ntmps30
      go_wp2_with (first | ((with_reducible refine gate_dst (N := 1) rfl ?_); refine box_event ?hg (N := 1) ?hd (cs := #[.int .i64 a0_0, .string a0_1, .string a0_2, .int .i64 a0_3, .int .u64 a0_4, .int .u64 a0_5, .slice A0_6 l0_6.length c0_6, .slice A0_7 l0_7.length c0_7]) (t := 44) ?hr ?_; (case hd => rfl); (case hg => rfl); (case hr => first | (go_simp; done) | (go_simp; rfl)); intro gb547 hg w12 hbox hb; have n0_ := Aside0.mk (below_step HW.zb hb); have n1_ := Aside0.mk (hbox); have n3_ := Aside0.mk ((by rw [hg]; exact (below_size HW.zb) : w.heap.size ≤ gb547)); clear HB; have HB := n0_; have BK547 := n1_; have GE547 := n3_; clear n0_ n1_ n3_; clear hb hbox hg; obtain ⟨hcz13_0, hcz13_1, hcz13_2, hcz13_3, hcz13_4, hcz13_5, hcz13_6, hcz13_7⟩ := HW.k8 BK547.out))
      go_ret
      exact ⟨rfl, HW.zb⟩
  rw [if_neg c11] at H; have c11b0 : decide (2147483647 < (l0_7.length : Int)) = false := decide_eq_false c11
  have c11b1 : decide (2147483647 < l0_7.length) = false := decide_eq_false (by omega)
  clear c11
  as_aux_lemma =>
    obtain rfl := Option.some.inj H
    go_enter Tryz.func30, Tryz.ntmps30
    go_wp2_with (first | ((with_reducible refine gate_dst (N := 1) rfl ?_); refine box_event ?hg (N := 1) ?hd (cs := #[.int .i64 a0_0, .string a0_1, .string a0_2, .int .i64 a0_3, .int .u64 a0_4, .int .u64 a0_5, .slice A0_6 l0_6.length c0_6, .slice A0_7 l0_7.length c0_7]) (t := 44) ?hr ?_; (case hd => rfl); (case hg => rfl); (case hr => first | (go_simp; done) | (go_simp; rfl)); intro gb547 hg w14 hbox hb; have n0_ := Aside0.mk (below_step HW.zb hb); have n1_ := Aside0.mk (hbox); have n3_ := Aside0.mk ((by rw [hg]; exact (below_size HW.zb) : w.heap.size ≤ gb547)); clear HB; have HB := n0_; have BK547 := n1_; have GE547 := n3_; clear n0_ n1_ n3_; clear hb hbox hg; obtain ⟨hcz15_0, hcz15_1, hcz15_2, hcz15_3, hcz15_4, hcz15_5, hcz15_6, hcz15_7⟩ := HW.k8 BK547.out))
    go_ret
    exact ⟨rfl, HW.zb⟩
def spec_DocPlain.l0 : Nat → ByteArray → Int → Option (Bool)
  | 0, _, _ => none
  | k + 1, x0, x3 => if x3 < (x0.size : Int) then (if 0 ≤ x3 then (if (bt x0 x3) = 0 then (some false) else (spec_DocPlain.l0 k x0 (wrap64 (x3 + 1)))) else (none)) else (some true)
def spec_DocPlain.f (k : Nat) (a0 : ByteArray) : Option (Bool) := spec_DocPlain.l0 k a0 0
theorem spec_DocPlain.mono_l : ∀ k, (∀ y0 y1, LeO (spec_DocPlain.l0 k y0 y1) (spec_DocPlain.l0 (k + 1) y0 y1))
  | 0 => fun _ _ r h => by simp [spec_DocPlain.l0] at h
  | k + 1 => by
    have ih0 := spec_DocPlain.mono_l k
    · intro y0 y1
      unfold spec_DocPlain.l0
      have m0_ := @ih0; exact HW.mo
theorem spec_DocPlain.mono : ∀ a0 k, LeO (spec_DocPlain.f k a0) (spec_DocPlain.f (k + 1) a0) := by
  intro a0 k
  have ih0 := spec_DocPlain.mono_l k
  unfold spec_DocPlain.f
  have m0_ := @ih0; exact HW.mo
theorem spec_DocPlain.calls (k : Nat) (a0 : ByteArray) (r : Bool) (w : World) (h : spec_DocPlain.f k a0 = some r) :
    Calls Tryz.prog 31 #[.string a0] w fun e w' => e = .returned (.bool r) ∧ Drawn0 w w' := by
  have H : (spec_DocPlain.l0 k a0 0) = some r := h; clear h; have H' := Aside0.mk H; clear H
  go_enter Tryz.func31, Tryz.ntmps31
  go_wp2
  go_loopg [3] k (fun kq v3 w' => ∃ (x3_1 : Int), v3 = .int .i64 x3_1 ∧ Aside0 (spec_DocPlain.l0 kq a0 x3_1 = some r) ∧ Aside0 (kq ≤ k) ∧ Drawn0 w w')
  case atStart => exact ⟨(0), HW.rs, H', ⟨Nat.le_refl _⟩, by repeat (first | exact Drawn0.refl _ | apply Drawn0.step)⟩
  case round =>
    clear H'; obtain ⟨x3_1, rfl, HA, HK1, ⟨m1, rfl⟩⟩ := hrel
    cases gk with
    | zero => exact absurd HA.out (by simp [spec_DocPlain.l0])
    | succ k1 =>
      have H := HA.out; clear HA
      simp only [spec_DocPlain.l0] at H
      by_cases c2 : x3_1 < (a0.size : Int)
      rotate_left
      · rw [if_neg c2] at H
        have c2b0 : decide (x3_1 < (a0.size : Int)) = false := decide_eq_false c2; clear c2
        as_aux_lemma =>
          obtain rfl := Option.some.inj H
          go_wp2
          go_ret
          exact ⟨by first | rfl | (simp; done) | (simp [*]; done), by repeat (first | exact Drawn0.refl _ | apply Drawn0.step)⟩
      rw [if_pos c2] at H; have c2b0 : decide (x3_1 < (a0.size : Int)) = true := decide_eq_true c2; clear c2
      by_cases c3 : 0 ≤ x3_1
      rotate_left
      · rw [if_neg c3] at H
        exact absurd H (by simp)
      rw [if_pos c3] at H; have c3b0 : decide (0 ≤ x3_1) = true := decide_eq_true c3; clear c3
      by_cases c5 : (bt a0 x3_1) = 0
      · rw [if_pos c5] at H
        have c5b0 : ((bt a0 x3_1) == 0) = true := beq_iff_eq.mpr c5; have c5b1 : ((bt a0 x3_1) != 0) = false := bne_eq_false_iff_eq.mpr c5; clear c5
        as_aux_lemma =>
          obtain rfl := Option.some.inj H
          have p4 : 0 ≤ (x3_1 : Int) := HW.od
          have q4 : x3_1 < (a0.size : Int) := HW.od
          have hx4 := bt_at a0 x3_1; replace p4 := eq_true p4; replace q4 := eq_true q4
          go_wp2
          go_ret
          exact ⟨by first | rfl | (simp; done) | (simp [*]; done), by repeat (first | exact Drawn0.refl _ | apply Drawn0.step)⟩
      rw [if_neg c5] at H; have c5b0 : ((bt a0 x3_1) == 0) = false := beq_eq_false_iff_ne.mpr c5; have c5b1 : ((bt a0 x3_1) != 0) = true := bne_iff_ne.mpr c5
      as_aux_lemma =>
        have H' := Aside0.mk H; clear H
        have p4 : 0 ≤ (x3_1 : Int) := HW.od
        have q4 : x3_1 < (a0.size : Int) := HW.od
        have hx4 := bt_at a0 x3_1; replace p4 := eq_true p4; replace q4 := eq_true q4
        go_wp2
        go_roundg k1
        case measure => have := HK1.out; omega
        case rel => exact ⟨(wrap64 (x3_1 + 1)), HW.rs, H', ⟨by have := HK1.out; omega⟩, by repeat (first | exact Drawn0.refl _ | apply Drawn0.step)⟩
end Go.Proofs.YtanecebppagakaaGreatDoor.PSx
