import Derived.Test.YtanecebppagakaaGreatDoorPRxx0
import Derived.Test.YtanecebppagakaaGreatDoorPRxx1
import Derived.Test.YtanecebppagakaaGreatDoorPRxx6
import Derived.Test.YtanecebppagakaaGreatDoorPRxx9
namespace Go.Proofs.YtanecebppagakaaGreatDoor.PRx
open Go.RowKit Go.Proofs.YtanecebppagakaaGreatDoorW.PrintWords Go.Proofs.YtanecebppagakaaGreatDoorW.PrintLast Go.Proofs.YtanecebppagakaaGreatDoorW.PrintMore
attribute [local go_sem] max2_int min2_int max_two min_two max_three min_three max_four min_four
set_option linter.unusedVariables false
set_option maxHeartbeats 8000000
set_option maxRecDepth 100000
set_option linter.unusedSimpArgs false
def bsoncore_AppendHeader.f (l0 : List Int) (a1 : Int) (a2 : ByteArray) : Option (List Int) := (bsoncore_isValidCString.f a2).bind fun t543 => (if t543 = true then ((bsoncore_AppendType.f l0 a1).bind fun t544 => (if t544.length + a2.size < 140737488355328 then ((some (t544 ++ bytesOf a2 : List Int)).bind fun y547 => (if y547.length < 140737488355328 then (some (y547 ++ [0])) else (none))) else (none))) else (none))
theorem bsoncore_AppendHeader.calls (P0_ : Nat → Prop) (u9000_ : Value) (l0 : List Int) (a1 : Int) (a2 : ByteArray) (r : List Int) (w0 w : World) (hB : Below w0.heap.size w0 w) (ho0 : Kd.R (Kd.int .u8) 5 w w0.heap.size P0_ u9000_ l0) (h : bsoncore_AppendHeader.f l0 a1 a2 = some r) :
    Calls Tryz.prog 175 #[u9000_, .int .u8 a1, .string a2] w fun e w' => ∃ v0_ : Value, e = .returned (v0_) ∧ Kd.R (Kd.int .u8) 5 w' w0.heap.size (fun k_ => (P0_ k_ ∨ w.heap.size ≤ k_)) v0_ r ∧ Below w0.heap.size w0 w' ∧ Kept w w' (fun k_ => P0_ k_) := by
  have HO0 := Aside0.mk (show Kd.R (Kd.int .u8) 5 w w0.heap.size (fun k_ => (P0_ k_ ∨ w.heap.size ≤ k_)) u9000_ l0 from Kd.R_mono ho0 (fun k_ hk => (.inl hk))); have HK := Aside0.mk (Kept.refl w (fun k_ => P0_ k_)); have HW0 := Aside0.mk hB.size; have HB := Aside0.mk hB; clear hB; have H : ((bsoncore_isValidCString.f a2).bind fun t543 => (if t543 = true then ((bsoncore_AppendType.f l0 a1).bind fun t544 => (if t544.length + a2.size < 140737488355328 then ((some (t544 ++ bytesOf a2 : List Int)).bind fun y547 => (if y547.length < 140737488355328 then (some (y547 ++ [0])) else (none))) else (none))) else (none))) = some r := h; clear h; replace H := Option.bind_eq_some_iff.mp H; obtain ⟨t543, A40, H⟩ := H; replace H : (if t543 = true then ((bsoncore_AppendType.f l0 a1).bind fun t544 => (if t544.length + a2.size < 140737488355328 then ((some (t544 ++ bytesOf a2 : List Int)).bind fun y547 => (if y547.length < 140737488355328 then (some (y547 ++ [0])) else (none))) else (none))) else (none)) = some r := H; have A4 := Aside0.mk A40; clear A40
  by_cases c5 : t543 = true
  rotate_left
  · replace c5 := Bool.eq_false_iff.mpr c5
    subst c5
    have H1 : (none) = some r := by rw [if_neg (show ¬ (false = true) by decide)] at H; exact H
    clear H; have H := H1; clear H1
    exact absurd H (by simp)
  subst c5
  have H1 : ((bsoncore_AppendType.f l0 a1).bind fun t544 => (if t544.length + a2.size < 140737488355328 then ((some (t544 ++ bytesOf a2 : List Int)).bind fun y547 => (if y547.length < 140737488355328 then (some (y547 ++ [0])) else (none))) else (none))) = some r := by rw [if_pos rfl] at H; exact H
  clear H; have H := H1; clear H1; replace H := Option.bind_eq_some_iff.mp H; obtain ⟨t544, A60, H⟩ := H; replace H : (if t544.length + a2.size < 140737488355328 then ((some (t544 ++ bytesOf a2 : List Int)).bind fun y547 => (if y547.length < 140737488355328 then (some (y547 ++ [0])) else (none))) else (none)) = some r := H; have A6 := Aside0.mk A60; clear A60
  by_cases c7 : t544.length + a2.size < 140737488355328
  rotate_left
  · rw [if_neg c7] at H
    exact absurd H (by simp)
  rw [if_pos c7] at H; have LMc7 := Aside0.mk c7; clear c7; obtain ⟨y547, hy547⟩ : ∃ y_ : List Int, y_ = (t544 ++ bytesOf a2) := ⟨_, rfl⟩
  replace H : (if y547.length < 140737488355328 then (some (y547 ++ [0])) else (none)) = some r := by (try rw [hy547]); exact HW.rp
  have Ny547 := Aside0.mk hy547; clear hy547
  by_cases c8 : y547.length < 140737488355328
  rotate_left
  · rw [if_neg c8] at H
    exact absurd H (by simp)
  rw [if_pos c8] at H; have LMc8 := Aside0.mk c8; clear c8; obtain ⟨y550, hy550⟩ : ∃ y_ : List Int, y_ = (y547 ++ [0]) := ⟨_, rfl⟩
  replace H : (some y550) = some r := by (try rw [hy550]); exact HW.rp
  have Ny550 := Aside0.mk hy550; clear hy550
  as_aux_lemma =>
    obtain rfl := Option.some.inj H
    go_enter Tryz.func175, Tryz.ntmps175
    go_wp2_with (first | ((with_reducible refine gate_callee (f := 203) rfl ?_); refine HW.gz (some 8) rfl rfl Tryz.func203 (by kernel_rfl) rfl #[.string a2] rfl ?_; (with_reducible refine (bsoncore_isValidCString.calls a2 true _ A4.out).mono ?_); rintro e w9 ⟨rfl, hb⟩; refine ⟨_, rfl, ?_⟩; replace HO0 := Aside0.mk (Kd.R_below (HW.zR HO0.out) hb); replace HK := Aside0.mk (Kept.below (S := (fun k_ => P0_ k_)) HW.zk hb); replace HB := Aside0.mk (below_step HW.zb hb); (try clear hb); obtain ⟨Ao10, co10, eo10⟩ := Kd.R_slice HO0.out; subst eo10) | ((with_reducible refine gate_callee (f := 204) rfl ?_); refine HW.gz (some 13) rfl rfl Tryz.func204 (by kernel_rfl) rfl #[.slice Ao10 l0.length co10, .int .u8 a1] rfl ?_; (with_reducible refine (bsoncore_AppendType.calls (fun k_ => some k_ = (.slice Ao10 l0.length co10 : Value).ownBlock) (.slice Ao10 l0.length co10) l0 a1 t544 w0 _ ?side1 ?side2 A6.out).mono ?_); (case side1 => exact HW.zb); (case side2 => exact Kd.R_tight rfl HO0.out); rintro e w11 ⟨v545, rfl, ho0, hb, hkp⟩; refine ⟨_, rfl, ?_⟩; have n0_ := Aside0.mk (Kd.R_mono (ok' := fun k_ => (P0_ k_ ∨ w.heap.size ≤ k_)) ho0 (fun k_ hk_ => Or.elim hk_ (fun hs_ => (HO0.out.1 k_ (hs_).symm)) (fun hn_ => (.inr (Nat.le_trans (HW.zk1 (w := w) (fun k_ => P0_ k_)) hn_))))); have n1_ := Aside0.mk (Kept.then_ (S := (fun k_ => P0_ k_)) HW.zk hkp (fun k_ hs_ => (fun e_ => (HO0.out.1 k_ e_.symm)) hs_)); have n2_ := Aside0.mk (hb); clear HK; clear HB; clear HO0; have HO546 := n0_; have HK := n1_; have HB := n2_; clear n0_ n1_ n2_; (try clear hb); (try clear hkp); (try clear ho0)) | (at_builtin; refine HW.R_append_str (w0 := w0) w0.heap.size rfl (.tmp 14) _ 22 9 5 rfl Tryz.underlying22 Tryz.underlying9 info5 v545 t544 a2 (fun k_ => (P0_ k_ ∨ w.heap.size ≤ k_)) rfl rfl ?aO ?aF ?aB ?aS ?aL ?_; (case aB => exact HW.zb); (case aF => exact (fun k_ hk => (.inr (Nat.le_trans (HW.zk1 (w := w) (fun k_ => P0_ k_)) hk)))); (case aO => exact (HW.zR HO546.out)); (case aS => exact (below_size HW.zb)); (case aL => have := LMc7.out; omega); intro v548 w12 ho hb hg hat; rw [← Ny547.out] at ho; have n0_ := Aside0.mk (hb); have n1_ := Aside0.mk (Kept.of_grown (S := (fun k_ => P0_ k_)) hg HW.zk (fun k_ e_ => (HO546.out.1 k_ e_))); have n2_ := Aside0.mk (ho); clear HB; clear HK; clear HO546; have HB := n0_; have HK := n1_; have HO549 := n2_; clear n0_ n1_ n2_; clear ho hb hg hat) | ((with_reducible refine gate_builtin (b := .append) (xs := #[.tmp 17, .tmp 18]) rfl ?_); at_builtin; refine Kd.R_append (Kd.int .u8) (w0 := w0) w0.heap.size rfl (.tmp 17) (.tmp 18) 22 5 (.int .u8 0) 1 rfl Tryz.underlying22 info5 rfl (by decide) (by omega) v548 y547 0 [.int .u8 0] (fun k_ => (P0_ k_ ∨ w.heap.size ≤ k_)) (fun _ => False) rfl rfl ?aP (fun _ hk => hk.elim) ?aF ?aO ?aB ?aS ?aL ?_; (case aP => exact rfl); (case aB => exact HW.zb); (case aF => exact (fun k_ hk => (.inr (Nat.le_trans (HW.zk1 (w := w) (fun k_ => P0_ k_)) hk)))); (case aO => exact (HW.zR HO549.out)); (case aS => exact (below_size HW.zb)); (case aL => have := LMc8.out; omega); intro v551 w13 ho hb hg hat; rw [← Ny550.out] at ho; have n0_ := Aside0.mk (hb); have n1_ := Aside0.mk (Kept.of_grown (S := (fun k_ => P0_ k_)) hg HW.zk (fun k_ e_ => (HO549.out.1 k_ e_))); have n2_ := Aside0.mk (ho); clear HB; clear HK; clear HO549; have HB := n0_; have HK := n1_; have HO552 := n2_; clear n0_ n1_ n2_; clear ho hb hg hat))
    go_ret
    exact ⟨_, rfl, HW.zR HO552.out, HW.zb, HW.zk⟩
def binaryutil_Append32_int32.f (l0 : List Int) (a1 : Int) : Option (List Int) := (some (([(a1) % 256, (a1 / 256) % 256, (a1 / 65536) % 256, (a1 / 16777216) % 256] : List Int) : List Int)).bind fun y553 => (if l0.length + y553.length < 140737488355328 then (some (l0 ++ y553)) else (none))
theorem binaryutil_Append32_int32.calls (P0_ : Nat → Prop) (u9000_ : Value) (l0 : List Int) (a1 : Int) (r : List Int) (w0 w : World) (hB : Below w0.heap.size w0 w) (ho0 : Kd.R (Kd.int .u8) 5 w w0.heap.size P0_ u9000_ l0) (h : binaryutil_Append32_int32.f l0 a1 = some r) :
    Calls Tryz.prog 252 #[u9000_, .int .i32 a1] w fun e w' => ∃ v0_ : Value, e = .returned (v0_) ∧ Kd.R (Kd.int .u8) 5 w' w0.heap.size (fun k_ => (P0_ k_ ∨ w.heap.size ≤ k_)) v0_ r ∧ Below w0.heap.size w0 w' ∧ Kept w w' (fun k_ => P0_ k_) := by
  have HO0 := Aside0.mk (show Kd.R (Kd.int .u8) 5 w w0.heap.size (fun k_ => (P0_ k_ ∨ w.heap.size ≤ k_)) u9000_ l0 from Kd.R_mono ho0 (fun k_ hk => (.inl hk))); have HK := Aside0.mk (Kept.refl w (fun k_ => P0_ k_)); have HW0 := Aside0.mk hB.size; have HB := Aside0.mk hB; clear hB; have H : ((some (([(a1) % 256, (a1 / 256) % 256, (a1 / 65536) % 256, (a1 / 16777216) % 256] : List Int) : List Int)).bind fun y553 => (if l0.length + y553.length < 140737488355328 then (some (l0 ++ y553)) else (none))) = some r := h; clear h; obtain ⟨y553, hy553⟩ : ∃ y_ : List Int, y_ = (([(a1) % 256, (a1 / 256) % 256, (a1 / 65536) % 256, (a1 / 16777216) % 256] : List Int)) := ⟨_, rfl⟩
  replace H : (if l0.length + y553.length < 140737488355328 then (some (l0 ++ y553)) else (none)) = some r := by (try rw [hy553]); exact HW.rp
  have Ny553 := Aside0.mk hy553; clear hy553
  by_cases c3 : l0.length + y553.length < 140737488355328
  rotate_left
  · rw [if_neg c3] at H
    exact absurd H (by simp)
  rw [if_pos c3] at H; have LMc3 := Aside0.mk c3; clear c3; obtain ⟨y556, hy556⟩ : ∃ y_ : List Int, y_ = (l0 ++ y553) := ⟨_, rfl⟩
  replace H : (some y556) = some r := by (try rw [hy556]); exact HW.rp
  have Ny556 := Aside0.mk hy556; clear hy556
  as_aux_lemma =>
    obtain rfl := Option.some.inj H
    go_enter Tryz.func252, Tryz.ntmps252
    go_wp2_with (first | ((with_reducible refine gate_dst (N := 17) rfl ?_); refine Kd.R_lit (Kd.int .u8) _ 5 ?hg (N := 17) ?hd (xs := ([(a1) % 256, (a1 / 256) % 256, (a1 / 65536) % 256, (a1 / 16777216) % 256] : List Int)) (inner := [.int .u8 ((a1) % 256), .int .u8 ((a1 / 256) % 256), .int .u8 ((a1 / 65536) % 256), .int .u8 ((a1 / 16777216) % 256)]) (ok := fun _ => True) (okp := fun _ => True) ?hr ?hp (fun _ hk => hk) trivial (Below.refl _ _) (Nat.le_refl _) (by simp) ?_; (case hd => rfl); (case hg => rfl); (case hr => first | (go_simp; done) | (go_simp; rfl)); (case hp => exact (Reps.one (show Kd.M (Kd.int .u8) _ _ _ ((a1) % 256) [.int .u8 ((a1) % 256)] from rfl) (Reps.one (show Kd.M (Kd.int .u8) _ _ _ ((a1 / 256) % 256) [.int .u8 ((a1 / 256) % 256)] from rfl) (Reps.one (show Kd.M (Kd.int .u8) _ _ _ ((a1 / 65536) % 256) [.int .u8 ((a1 / 65536) % 256)] from rfl) (Reps.one (show Kd.M (Kd.int .u8) _ _ _ ((a1 / 16777216) % 256) [.int .u8 ((a1 / 16777216) % 256)] from rfl) (Reps.none _ _)))))); intro v554 w4 ho5 hb hg_ hnew_; clear hg_ hnew_; (first | rw [← Ny553.out] at ho5 | (simp only [Int.reduceToNat] at ho5; rw [← Ny553.out] at ho5)); have HO555 := Aside0.mk (Kd.R_lower (Kd.R_new' (Kd.R_newM (M := fun k_ => (P0_ k_ ∨ w.heap.size ≤ k_)) ho5 (HW.zk1 (w := w) (fun k_ => P0_ k_)) (fun k_ h_ => .inr h_)) (Kd.R_lt (HW.zR HO0.out))) (below_size HW.zb)); replace HO0 := Aside0.mk (Kd.R_elder' (HW.zR HO0.out) (Kd.R_base ho5) hb); replace HK := Aside0.mk (Kept.below (S := (fun k_ => P0_ k_)) HW.zk hb); replace HB := Aside0.mk (below_step HW.zb hb); clear hb ho5; obtain ⟨Ao7, co7, eo7⟩ := Kd.R_slice HO555.out; subst eo7) | ((with_reducible refine gate_builtin (b := .append) (xs := #[.tmp 5, .tmp 17]) rfl ?_); at_builtin; refine Kd.R_append_rows (Kd.int .u8) (w0 := w0) w0.heap.size rfl (.tmp 5) (.tmp 17) 22 5 (.int .u8 0) 1 rfl Tryz.underlying22 info5 rfl (by decide) (by omega) u9000_ l0 y553 _ _ _ (fun k_ => (P0_ k_ ∨ w.heap.size ≤ k_) ∧ some k_ ≠ (.slice Ao7 y553.length co7 : Value).ownBlock) (fun _ => False) rfl rfl ?aO ?aR (fun _ _ h => h) (fun _ h => h.elim) ?aF ?aB ?aS ?aL ?_; (case aR => repeat (first | exact (Kd.R_reads' HO555.out).2.2 | (with_reducible refine Kd.C_alloc ?_ _) | (with_reducible refine Kd.C_drewN ?_ _) | (with_reducible refine Kd.C_drew ?_))); (case aB => exact HW.zb); (case aF => exact (fun k_ hk => ⟨(.inr (Nat.le_trans (HW.zk1 (w := w) (fun k_ => P0_ k_)) hk)), Kd.fresh' (Kd.R_lt (HW.zR HO555.out)) k_ hk⟩)); (case aO => exact (HW.zR HO0.out)); (case aS => exact (below_size HW.zb)); (case aL => have := LMc3.out; omega); intro v557 w6 ho hb hg hat; rw [← Ny556.out] at ho; have n1_ := Aside0.mk (hb); have n2_ := Aside0.mk (Kept.of_grown (S := (fun k_ => P0_ k_)) hg HW.zk (fun k_ e_ => (HO0.out.1 k_ e_).1)); have n3_ := Aside0.mk (ho); clear HB; clear HK; clear HO0; have HB := n1_; have HK := n2_; have HO558 := n3_; clear n1_ n2_ n3_; clear ho hb hg hat))
    go_ret
    exact ⟨_, rfl, by (with_reducible repeat (first | apply Kd.R_alloc | apply Kd.R_drewN | apply Kd.R_drew)); exact Kd.R_mono HO558.out (fun _ hk => hk.1), HW.zb, HW.zk⟩
def bsoncore_AppendInt32.f (l0 : List Int) (a1 : Int) : Option (List Int) := (binaryutil_Append32_int32.f l0 a1).bind fun t559 => (some t559)
theorem bsoncore_AppendInt32.calls (P0_ : Nat → Prop) (u9000_ : Value) (l0 : List Int) (a1 : Int) (r : List Int) (w0 w : World) (hB : Below w0.heap.size w0 w) (ho0 : Kd.R (Kd.int .u8) 5 w w0.heap.size P0_ u9000_ l0) (h : bsoncore_AppendInt32.f l0 a1 = some r) :
    Calls Tryz.prog 238 #[u9000_, .int .i32 a1] w fun e w' => ∃ v0_ : Value, e = .returned (v0_) ∧ Kd.R (Kd.int .u8) 5 w' w0.heap.size (fun k_ => (P0_ k_ ∨ w.heap.size ≤ k_)) v0_ r ∧ Below w0.heap.size w0 w' ∧ Kept w w' (fun k_ => P0_ k_) := by
  have HO0 := Aside0.mk (show Kd.R (Kd.int .u8) 5 w w0.heap.size (fun k_ => (P0_ k_ ∨ w.heap.size ≤ k_)) u9000_ l0 from Kd.R_mono ho0 (fun k_ hk => (.inl hk))); have HK := Aside0.mk (Kept.refl w (fun k_ => P0_ k_)); have HW0 := Aside0.mk hB.size; have HB := Aside0.mk hB; clear hB; have H : ((binaryutil_Append32_int32.f l0 a1).bind fun t559 => (some t559)) = some r := h; clear h; replace H := Option.bind_eq_some_iff.mp H; obtain ⟨t559, A30, H⟩ := H; replace H : (some t559) = some r := H; have A3 := Aside0.mk A30; clear A30
  as_aux_lemma =>
    obtain rfl := Option.some.inj H; obtain ⟨Ao4, co4, eo4⟩ := Kd.R_slice HO0.out; subst eo4
    go_enter Tryz.func238, Tryz.ntmps238
    go_wp2_with (first | ((with_reducible refine gate_callee (f := 252) rfl ?_); refine HW.gz (some 7) rfl rfl Tryz.func252 (by kernel_rfl) rfl #[.slice Ao4 l0.length co4, .int .i32 a1] rfl ?_; (with_reducible refine (binaryutil_Append32_int32.calls (fun k_ => some k_ = (.slice Ao4 l0.length co4 : Value).ownBlock) (.slice Ao4 l0.length co4) l0 a1 t559 w0 _ ?side1 ?side2 A3.out).mono ?_); (case side1 => exact HW.zb); (case side2 => exact Kd.R_tight rfl HO0.out); rintro e w5 ⟨v560, rfl, ho0, hb, hkp⟩; refine ⟨_, rfl, ?_⟩; have n0_ := Aside0.mk (Kd.R_mono (ok' := fun k_ => (P0_ k_ ∨ w.heap.size ≤ k_)) ho0 (fun k_ hk_ => Or.elim hk_ (fun hs_ => (HO0.out.1 k_ (hs_).symm)) (fun hn_ => (.inr (Nat.le_trans (HW.zk1 (w := w) (fun k_ => P0_ k_)) hn_))))); have n1_ := Aside0.mk (Kept.then_ (S := (fun k_ => P0_ k_)) HW.zk hkp (fun k_ hs_ => (fun e_ => (HO0.out.1 k_ e_.symm)) hs_)); have n2_ := Aside0.mk (hb); clear HK; clear HB; clear HO0; have HO561 := n0_; have HK := n1_; have HB := n2_; clear n0_ n1_ n2_; (try clear hb); (try clear hkp); (try clear ho0)))
    go_ret
    exact ⟨_, rfl, HW.zR HO561.out, HW.zb, HW.zk⟩
def bsoncore_AppendInt32Element.f (l0 : List Int) (a1 : ByteArray) (a2 : Int) : Option (List Int) := (bsoncore_AppendHeader.f l0 16 a1).bind fun t562 => ((bsoncore_AppendInt32.f t562 a2).bind fun t565 => (some t565))
theorem bsoncore_AppendInt32Element.calls (P0_ : Nat → Prop) (u9000_ : Value) (l0 : List Int) (a1 : ByteArray) (a2 : Int) (r : List Int) (w0 w : World) (hB : Below w0.heap.size w0 w) (ho0 : Kd.R (Kd.int .u8) 5 w w0.heap.size P0_ u9000_ l0) (h : bsoncore_AppendInt32Element.f l0 a1 a2 = some r) :
    Calls Tryz.prog 191 #[u9000_, .string a1, .int .i32 a2] w fun e w' => ∃ v0_ : Value, e = .returned (v0_) ∧ Kd.R (Kd.int .u8) 5 w' w0.heap.size (fun k_ => (P0_ k_ ∨ w.heap.size ≤ k_)) v0_ r ∧ Below w0.heap.size w0 w' ∧ Kept w w' (fun k_ => P0_ k_) := by
  have HO0 := Aside0.mk (show Kd.R (Kd.int .u8) 5 w w0.heap.size (fun k_ => (P0_ k_ ∨ w.heap.size ≤ k_)) u9000_ l0 from Kd.R_mono ho0 (fun k_ hk => (.inl hk))); have HK := Aside0.mk (Kept.refl w (fun k_ => P0_ k_)); have HW0 := Aside0.mk hB.size; have HB := Aside0.mk hB; clear hB; have H : ((bsoncore_AppendHeader.f l0 16 a1).bind fun t562 => ((bsoncore_AppendInt32.f t562 a2).bind fun t565 => (some t565))) = some r := h; clear h; replace H := Option.bind_eq_some_iff.mp H; obtain ⟨t562, A40, H⟩ := H; replace H : ((bsoncore_AppendInt32.f t562 a2).bind fun t565 => (some t565)) = some r := H; have A4 := Aside0.mk A40; clear A40; replace H := Option.bind_eq_some_iff.mp H; obtain ⟨t565, A50, H⟩ := H; replace H : (some t565) = some r := H; have A5 := Aside0.mk A50; clear A50
  as_aux_lemma =>
    obtain rfl := Option.some.inj H; obtain ⟨Ao6, co6, eo6⟩ := Kd.R_slice HO0.out; subst eo6
    go_enter Tryz.func191, Tryz.ntmps191
    go_wp2_with (first | ((with_reducible refine gate_callee (f := 175) rfl ?_); refine HW.gz (some 9) rfl rfl Tryz.func175 (by kernel_rfl) rfl #[.slice Ao6 l0.length co6, .int .u8 16, .string a1] rfl ?_; (with_reducible refine (bsoncore_AppendHeader.calls (fun k_ => some k_ = (.slice Ao6 l0.length co6 : Value).ownBlock) (.slice Ao6 l0.length co6) l0 16 a1 t562 w0 _ ?side1 ?side2 A4.out).mono ?_); (case side1 => exact HW.zb); (case side2 => exact Kd.R_tight rfl HO0.out); rintro e w7 ⟨v563, rfl, ho0, hb, hkp⟩; refine ⟨_, rfl, ?_⟩; have n0_ := Aside0.mk (Kd.R_mono (ok' := fun k_ => (P0_ k_ ∨ w.heap.size ≤ k_)) ho0 (fun k_ hk_ => Or.elim hk_ (fun hs_ => (HO0.out.1 k_ (hs_).symm)) (fun hn_ => (.inr (Nat.le_trans (HW.zk1 (w := w) (fun k_ => P0_ k_)) hn_))))); have n1_ := Aside0.mk (Kept.then_ (S := (fun k_ => P0_ k_)) HW.zk hkp (fun k_ hs_ => (fun e_ => (HO0.out.1 k_ e_.symm)) hs_)); have n2_ := Aside0.mk (hb); clear HK; clear HB; clear HO0; have HO564 := n0_; have HK := n1_; have HB := n2_; clear n0_ n1_ n2_; (try clear hb); (try clear hkp); (try clear ho0); obtain ⟨Ao8, co8, eo8⟩ := Kd.R_slice HO564.out; subst eo8) | ((with_reducible refine gate_callee (f := 238) rfl ?_); refine HW.gz (some 11) rfl rfl Tryz.func238 (by kernel_rfl) rfl #[.slice Ao8 t562.length co8, .int .i32 a2] rfl ?_; (with_reducible refine (bsoncore_AppendInt32.calls (fun k_ => some k_ = (.slice Ao8 t562.length co8 : Value).ownBlock) (.slice Ao8 t562.length co8) t562 a2 t565 w0 _ ?side1 ?side2 A5.out).mono ?_); (case side1 => exact HW.zb); (case side2 => exact Kd.R_tight rfl HO564.out); rintro e w9 ⟨v566, rfl, ho0, hb, hkp⟩; refine ⟨_, rfl, ?_⟩; have n0_ := Aside0.mk (Kd.R_mono (ok' := fun k_ => (P0_ k_ ∨ w.heap.size ≤ k_)) ho0 (fun k_ hk_ => Or.elim hk_ (fun hs_ => (HO564.out.1 k_ (hs_).symm)) (fun hn_ => (.inr (Nat.le_trans (HW.zk1 (w := w) (fun k_ => P0_ k_)) hn_))))); have n1_ := Aside0.mk (Kept.then_ (S := (fun k_ => P0_ k_)) HW.zk hkp (fun k_ hs_ => (fun e_ => (HO564.out.1 k_ e_.symm)) hs_)); have n2_ := Aside0.mk (hb); clear HK; clear HB; clear HO564; have HO567 := n0_; have HK := n1_; have HB := n2_; clear n0_ n1_ n2_; (try clear hb); (try clear hkp); (try clear ho0)))
    go_ret
    exact ⟨_, rfl, HW.zR HO567.out, HW.zb, HW.zk⟩
theorem info_i32 : (Tryz.prog.info? 21).map (fun i => (i.zero, i.size, i.bytes)) = some (some (.int .i32 0), 1, 4) := by kernel_rfl
structure DB (w0 w : World) (g : Nat) (l ix : List Int) : Prop where
  ex : ∃ v0 v1, w.heap[g]? = some (.cells #[v0, v1] 194 (0, 0)) ∧ Kd.R (Kd.int .u8) 5 w w0.heap.size (fun k => v0.ownBlock = some k) v0 l ∧ Kd.R (Kd.int .i32) 21 w w0.heap.size (fun k => v1.ownBlock = some k) v1 ix
  hg : w0.heap.size ≤ g
  hB : Below w0.heap.size w0 w
theorem own_self {α : Type} {enc : α → Value} {h1 : ∀ x, (enc x).oneCell' = true} {e base : Nat} {w : World} {ok : Nat → Prop} {v : Value} {xs : List α} (h : (Kd.scalar enc h1).R e w base ok v xs) : (Kd.scalar enc h1).R e w base (fun k => v.ownBlock = some k) v xs := Kd.R_of_own (Kd.own_of_R h) (fun _ hk => hk)
theorem own_type {α : Type} {d : Kd α} {e base : Nat} {w : World} {ok : Nat → Prop} {v : Value} {xs : List α} (h : d.R e w base ok v xs) {k t : Nat} {cells : Array Value} (hk : v.ownBlock = some k) (hb : w.heap[k]? = some (.cells cells t (0, 0))) : e = t := by
  obtain ⟨inner, ho⟩ := Kd.R_own h; obtain ⟨cells', hc⟩ := own_typed ho k hk; rw [hb] at hc; injection hc with hc; injection hc with _ hc
  exact hc.symm
theorem own_apart {α β : Type} {d : Kd α} {d' : Kd β} {e e' base base' : Nat} {w : World} {ok ok' : Nat → Prop} {v v' : Value} {xs : List α} {ys : List β} (h : d.R e w base ok v xs) (h' : d'.R e' w base' ok' v' ys) (hne : e ≠ e') {k : Nat} (hk : v.ownBlock = some k) (hk' : v'.ownBlock = some k) : False := by
  obtain ⟨inner, ho⟩ := Kd.R_own h'; obtain ⟨cells', hc⟩ := own_typed ho k hk'
  exact hne (own_type h hk hc)
theorem DB.handed {w0 w w1 : World} {g : Nat} {v0 v1 v0' : Value} {l ix r : List Int} (hz : w.heap[g]? = some (.cells #[v0, v1] 194 (0, 0))) (hR0 : Kd.R (Kd.int .u8) 5 w w0.heap.size (fun k => v0.ownBlock = some k) v0 l) (hR1 : Kd.R (Kd.int .i32) 21 w w0.heap.size (fun k => v1.ownBlock = some k) v1 ix) (hg : w0.heap.size ≤ g)
    (hR : Kd.R (Kd.int .u8) 5 w1 w0.heap.size (fun k => v0.ownBlock = some k ∨ w.heap.size ≤ k) v0' r) (hB : Below w0.heap.size w0 w1) (hK : Kept w w1 (fun k => v0.ownBlock = some k)) :
    w1.heap[g]? = some (.cells #[v0, v1] 194 (0, 0)) ∧ Kd.R (Kd.int .i32) 21 w1 w0.heap.size (fun k => v1.ownBlock = some k) v1 ix ∧ Kd.R (Kd.int .u8) 5 w1 w0.heap.size (fun k => v0'.ownBlock = some k) v0' r := by
  have hlt : g < w.heap.size := (Array.getElem?_eq_some_iff.1 hz).1
  refine ⟨(hK.2 g hlt (fun hk => ?_)).trans hz, Kd.R_step hR1 (fun k hk hl => hK.2 k hl (fun hk' => own_apart hR0 hR1 (by decide) hk' hk)), own_self hR⟩
  have := own_type hR0 hk hz
  exact absurd this (by decide)
theorem DB.put {w0 w1 : World} {g : Nat} {v0 v1 v0' : Value} {ix r : List Int} (hz : w1.heap[g]? = some (.cells #[v0, v1] 194 (0, 0))) (hR1 : Kd.R (Kd.int .i32) 21 w1 w0.heap.size (fun k => v1.ownBlock = some k) v1 ix) (hR : Kd.R (Kd.int .u8) 5 w1 w0.heap.size (fun k => v0'.ownBlock = some k) v0' r) (hg : w0.heap.size ≤ g) (hB : Below w0.heap.size w0 w1) :
    (w1.setCell ⟨g, 0, none⟩ v0').heap[g]? = some (.cells #[v0', v1] 194 (0, 0)) ∧ Kd.R (Kd.int .u8) 5 (w1.setCell ⟨g, 0, none⟩ v0') w0.heap.size (fun k => v0'.ownBlock = some k) v0' r ∧ Kd.R (Kd.int .i32) 21 (w1.setCell ⟨g, 0, none⟩ v0') w0.heap.size (fun k => v1.ownBlock = some k) v1 ix ∧ Below w0.heap.size w0 (w1.setCell ⟨g, 0, none⟩ v0') := by
  refine ⟨blk_put hz 0 v0' rfl, Kd.R_far hR (fun k hk => ?_) v0', Kd.R_far hR1 (fun k hk => ?_) v0', below_set hB hg⟩
  · rintro rfl
    exact absurd (own_type hR hk hz) (by decide)
  rintro rfl
  exact absurd (own_type hR1 hk hz) (by decide)
theorem DB.mk' {w0 w1 : World} {g : Nat} {v0 v1 : Value} {ix r : List Int} (hz : w1.heap[g]? = some (.cells #[v0, v1] 194 (0, 0)) ∧ Kd.R (Kd.int .u8) 5 w1 w0.heap.size (fun k => v0.ownBlock = some k) v0 r ∧ Kd.R (Kd.int .i32) 21 w1 w0.heap.size (fun k => v1.ownBlock = some k) v1 ix ∧ Below w0.heap.size w0 w1) (hg : w0.heap.size ≤ g) : DB w0 w1 g r ix := ⟨⟨v0, v1, hz.1, hz.2.1, hz.2.2.1⟩, hg, hz.2.2.2⟩
theorem db_start {w0 w : World} {g : Nat} {l ix r : List Int} {i : Int} (h : DB w0 w g l ix) (hf : bsoncore_AppendDocumentStart.f l = some (i, r)) (hix : ix.length ≤ 1000000) :
    Calls Tryz.prog 130 #[.pointer (some ⟨g, 0, none⟩)] w fun e w' => e = .returned (.pointer (some ⟨g, 0, none⟩)) ∧ DB w0 w' g r (ix ++ [i]) := by
  obtain ⟨⟨v0, v1, hz, hR0, hR1⟩, hg, hB⟩ := h; have c0 := (blk_cell hz 0).trans rfl
  go_enter Tryz.func130, Tryz.ntmps130
  go_wp2_with (first
    | (go_at_call 172; refine (bsoncore_AppendDocumentStart.calls (fun k => v0.ownBlock = some k) v0 l i r w0 w hB hR0 hf).mono ?_; rintro e w1 ⟨v0', rfl, hR, hB1, hK1⟩; obtain ⟨A2, c2, hv2⟩ := Kd.R_slice hR; subst hv2; obtain ⟨hz1, hR1a, hRa⟩ := DB.handed hz hR0 hR1 hg hR hB1 hK1; clear c0; have c0 := (blk_cell hz1 0).trans rfl; have f0 := blk_frozen hz1 0; have P1 := DB.put hz1 hR1a hRa hg hB1; have d1 := (blk_cell P1.1 1).trans rfl)
    | (at_builtin; refine Kd.R_append (Kd.int .i32) (w0 := w0) w0.heap.size rfl (.tmp 19) (.tmp 21) 192 21 (.int .i32 0) 4 rfl Tryz.underlying192 info_i32 rfl (by decide) (by omega) v1 ix i [.int .i32 i] (fun k => v1.ownBlock = some k ∨ (w1.setCell ⟨g, 0, none⟩ (.slice A2 r.length c2)).heap.size ≤ k) (fun _ => False) rfl (by rw [World.size_setCell]; rfl) ?aP (fun _ hk => hk.elim) ?aF ?aO ?aB ?aS ?aL ?_; (case aP => exact rfl); (case aF => exact fun k hk => .inr hk); (case aO => exact Kd.R_mono P1.2.2.1 (fun k hk => .inl hk)); (case aB => exact P1.2.2.2); (case aS => exact P1.2.2.2.size); (case aL => omega); intro v1' w2 ho hb2 hg2 hat2; obtain ⟨A3, c3, hv3⟩ := Kd.R_slice ho; subst hv3; have hne : some g ≠ v1.ownBlock := (fun he => absurd (own_type P1.2.2.1 he.symm P1.1) (by decide)); have hz2 := (hg2.block g (Array.getElem?_eq_some_iff.1 P1.1).1 hne).trans P1.1; have hRb := Kd.R_grown P1.2.1 hg2 (fun k hk he => own_apart P1.2.1 P1.2.2.1 (by decide) hk he.symm); have e1 := (blk_cell hz2 1).trans rfl; have f1 := blk_frozen hz2 1))
  go_ret
  rw [show (ix ++ [i]).length = ix.length + 1 by simp] at ho
  refine ⟨rfl, ⟨_, _, blk_put hz2 1 _ rfl, Kd.R_far hRb (fun k hk => ?_) _, Kd.R_far (own_self ho) (fun k hk => ?_) _⟩, hg, below_set hb2 hg⟩
  · rintro rfl
    exact absurd (own_type hRb hk hz2) (by decide)
  rintro rfl
  exact absurd (own_type ho hk hz2) (by decide)
theorem db_int32 {w0 w : World} {g : Nat} {l ix r : List Int} {s : ByteArray} {n : Int} (h : DB w0 w g l ix) (hf : bsoncore_AppendInt32Element.f l s n = some r) :
    Calls Tryz.prog 150 #[.pointer (some ⟨g, 0, none⟩), .string s, .int .i32 n] w fun e w' => e = .returned (.pointer (some ⟨g, 0, none⟩)) ∧ DB w0 w' g r ix := by
  obtain ⟨⟨v0, v1, hz, hR0, hR1⟩, hg, hB⟩ := h; have c0 := (blk_cell hz 0).trans rfl
  go_enter Tryz.func150, Tryz.ntmps150
  go_wp2_with (go_at_call 191; refine (bsoncore_AppendInt32Element.calls (fun k => v0.ownBlock = some k) v0 l s n r w0 w hB hR0 hf).mono ?_; rintro e w1 ⟨v0', rfl, hR, hB1, hK1⟩; obtain ⟨A2, c2, hv2⟩ := Kd.R_slice hR; subst hv2; obtain ⟨hz1, hR1a, hRa⟩ := DB.handed hz hR0 hR1 hg hR hB1 hK1; clear c0; have c0 := (blk_cell hz1 0).trans rfl; have f0 := blk_frozen hz1 0)
  go_ret
  exact ⟨rfl, DB.mk' (DB.put hz1 hR1a hRa hg hB1) hg⟩
theorem DB.new_ {w0 w : World} (hB : Below w0.heap.size w0 w) : DB w0 (w.alloc (.cells #[.slice none 0 0, .slice none 0 0] 194)) w.heap.size [] [] :=
  ⟨⟨_, _, blk_new w _, Kd.R_nil _ _ _ _ _, Kd.R_nil _ _ _ _ _⟩, hB.size, hB.alloc hB.size _⟩
theorem db_new {w0 w : World} {r : List Int} {i : Int} (hB : Below w0.heap.size w0 w) (hf : bsoncore_AppendDocumentStart.f [] = some (i, r)) :
    Calls Tryz.prog 103 #[] w fun e w' => ∃ g, e = .returned (.pointer (some ⟨g, 0, none⟩)) ∧ DB w0 w' g r [i] := by
  go_enter Tryz.func103, Tryz.ntmps103
  go_wp2_with (go_at_call 130; refine (db_start (DB.new_ hB) hf (by simp)).mono ?_; rintro e w1 ⟨rfl, hD⟩)
  go_ret
  exact ⟨_, rfl, hD⟩
theorem db_build {w0 w : World} {g : Nat} {l r : List Int} {i : Int} (h : DB w0 w g l [i]) (hf : bsoncore_AppendDocumentEnd.f l i = some (r, none)) :
    Calls Tryz.prog 105 #[.pointer (some ⟨g, 0, none⟩)] w fun e w' => ∃ v, e = .returned v ∧ Kd.R (Kd.int .u8) 5 w' w0.heap.size (fun _ => True) v r ∧ Below w0.heap.size w0 w' := by
  obtain ⟨⟨v0, v1, hz, hR0, hR1⟩, hg, hB⟩ := h; obtain ⟨A0, k0, hv0⟩ := Kd.R_slice hR0; subst hv0; obtain ⟨A1, k1, hv1, hk1, hC1⟩ := Kd.R_reads hR1; subst hv1
  obtain ⟨a1, rfl, hx1⟩ := Kd.at_int hC1 0 (by omega) (by simp)
  rw [show (0 : Int).toNat = 0 from rfl, Addr.add_zero', show rd [i] 0 = i from rfl] at hx1; obtain ⟨i0, hi0, hz0⟩ := Option.map_eq_some_iff.1 info_i32
  have hcut := cut_to (P := Tryz.prog) 192 21 .i64 Tryz.underlying192 hi0 (some a1) 1 k1 0 (by omega) (by omega) hk1
  change ∀ W, _ = Result.ok (Value.slice (some a1) 0 k1) W at hcut
  have c0 := (blk_cell hz 0).trans rfl; have c1 := (blk_cell hz 1).trans rfl
  go_enter Tryz.func105, Tryz.ntmps105
  go_wp2
  go_region_with (go_at_call 156; refine (bsoncore_AppendDocumentEnd.calls (fun k => (Value.slice A0 l.length k0).ownBlock = some k) (.slice A0 l.length k0) l i r none w0 _ (below_drew hB) hR0 hf).mono ?_; rintro e w1 ⟨v0', rfl, hR, hB1, hK1⟩; obtain ⟨A2, c2, hv2⟩ := Kd.R_slice hR; subst hv2; obtain ⟨hz1, hR1a, hRa⟩ := DB.handed hz hR0 hR1 hg hR hB1 hK1; clear c0 c1; have c0 := (blk_cell hz1 0).trans rfl; have f0 := blk_frozen hz1 0; have c1 := (blk_cell hz1 1).trans rfl; have f1 := blk_frozen hz1 1)
  all_goals
    go_wp2
    go_ret
    have P1 := DB.put hz1 hR1a hRa hg hB1
    refine ⟨_, rfl, Kd.R_mono (Kd.R_far P1.2.1 (fun k hk => ?_) _) (fun _ _ => trivial), below_set P1.2.2.2 hg⟩
    rintro rfl
    exact absurd (own_type P1.2.1 hk P1.1) (by decide)
theorem build_one {w0 w : World} {g : Nat} {l ix r : List Int} {A : Option Addr} {c : Nat} {e : S95} (hD : DB w0 w g l ix) (hC : Kd.C k95 w A [e].length [e]) (hc : 1 ≤ c) (hk : e.f1.f0 = 16) (hf : bsoncore_AppendInt32Element.f l e.f0 (wrap32 e.f1.f3) = some r) :
    Calls Tryz.prog 104 #[.pointer (some ⟨g, 0, none⟩), .slice A 1 c] w fun en w' => en = .returned (.tuple #[]) ∧ DB w0 w' g r ix := by
  obtain ⟨ad, A7, c7, A8, c8, rfl, e0, e1, e2, e3, e4, e5, e6, e7, e8, l7, g7, l8, g8⟩ := at_T95 hC 0 (by omega) (by simp)
  have hrd : rd_T95 [e] 0 = e := rfl; rw [hrd] at e0 e1 e2 e3 e4 e5 e6 e7 e8; obtain ⟨s, ek, et, em, en, eb, eh, eB, eK⟩ := e
  simp only at e0 e1 e2 e3 e4 e5 e6 e7 e8 hf hk
  subst hk; rw [show (0 : Int).toNat * 9 = 0 from rfl, Addr.add_zero'] at e0 e1 e2 e3 e4 e5 e6 e7 e8; clear l7 g7 l8 g8 hC hrd
  have al : ∀ {w1 : World} (o : Obj), DB w0 w1 g l ix → DB w0 (w1.alloc o) g l ix := fun o h => by
    obtain ⟨⟨v0, v1, hz, hR0, hR1⟩, hg, hB⟩ := h
    exact ⟨⟨v0, v1, blk_alloc hz o, Kd.R_alloc hR0 o, Kd.R_alloc hR1 o⟩, hg, hB.alloc hB.size _⟩
  go_enter Tryz.func104, Tryz.ntmps104
  go_wp2
  refine wp_loop_rounds 2 ?_
  rw [rounds_succ]
  go_wp2_with (go_at_call 150; refine (db_int32 (al _ (al _ hD)) hf).mono ?_; rintro e w1 ⟨rfl, hD1⟩)
  rw [rounds_succ]
  go_wp2
  go_end0
  exact ⟨rfl, hD1⟩
def impl_Built.f (l0 : List S95) : Option (List Int) := match l0 with
  | [e] => if e.f1.f0 = 16 then (bsoncore_AppendDocumentStart.f []).bind fun x => (bsoncore_AppendInt32Element.f x.2 e.f0 (wrap32 e.f1.f3)).bind fun y => (bsoncore_AppendDocumentEnd.f y x.1).bind fun z => (if z.2 = none then some z.1 else none) else none
  | _ => none
theorem impl_Built.calls (A0 : Option Addr) (c0 : Nat) (l0 : List S95) (r : List Int) (w : World) (hr0 : Kd.C k95 w A0 l0.length l0) (hc0 : l0.length ≤ c0) (h : impl_Built.f l0 = some r) :
    Calls Tryz.prog 56 #[.slice A0 l0.length c0] w fun e w' => ∃ v0_ : Value, e = .returned (v0_) ∧ Kd.R (Kd.int .u8) 5 w' w.heap.size (fun _ => True) v0_ r ∧ Below w.heap.size w w' := by
  unfold impl_Built.f at h
  split at h
  next e =>
    split at h
    next hk =>
      obtain ⟨⟨i, y⟩, h1, h⟩ := Option.bind_eq_some_iff.1 h; obtain ⟨z, h2, h⟩ := Option.bind_eq_some_iff.1 h; obtain ⟨⟨x, er⟩, h3, h⟩ := Option.bind_eq_some_iff.1 h
      cases er with
      | some _ => cases h
      | none =>
        obtain rfl := Option.some.inj h
        go_enter Tryz.func56, Tryz.ntmps56
        go_wp2_with (first
          | (go_at_call 103; refine (db_new (Below.refl _ _) h1).mono ?_; rintro e w1 ⟨g, rfl, hD1⟩)
          | (go_at_call 104; refine (build_one hD1 (Kd.C_below hr0 hD1.hB) hc0 hk h2).mono ?_; rintro e w2 ⟨rfl, hD2⟩)
          | (go_at_call 105; refine (db_build hD2 h3).mono ?_; rintro e w3 ⟨v, rfl, hR, hB⟩))
        go_ret
        exact ⟨v, rfl, hR, hB⟩
    next => cases h
  next => cases h
theorem code_text (s : ByteArray) (w : World) (h1 : (s.toList == ([100, 111, 99, 117, 109, 101, 110, 116, 32, 111, 114, 32, 97, 114, 114, 97, 121, 32, 108, 101, 110, 103, 116, 104, 32, 105, 115, 32, 105, 110, 118, 97, 108, 105, 100] : List UInt8)) = false) (h2 : (s.toList == ([100, 111, 99, 117, 109, 101, 110, 116, 32, 111, 114, 32, 97, 114, 114, 97, 121, 32, 101, 110, 100, 32, 105, 115, 32, 109, 105, 115, 115, 105, 110, 103, 32, 110, 117, 108, 108, 32, 98, 121, 116, 101] : List UInt8)) = false) :
    Calls Tryz.prog 92 #[.iface 178 (.string s)] w fun e w' => e = .returned (.int .i64 4) ∧ Below w.heap.size w w' := by
  have t1 : ∀ W : World, (Instr.typeAssert (.iface 178 (.string s)) 150 177 true).run Tryz.prog W = .ok (.tuple #[.agg #[.slice none 0 0, .slice none 0 0], .bool false]) W := fun W => by rfl
  have t2 : ∀ W : World, (Instr.typeAssert (.iface 178 (.string s)) 150 178 true).run Tryz.prog W = .ok (.tuple #[.string s, .bool true]) W := fun W => by rfl
  go_enter Tryz.func92, Tryz.ntmps92
  go_wp2
  go_ret
  exact ⟨rfl, Below.refl _ _⟩
theorem length_error (a b : Int) (w : World) : Calls Tryz.prog 157 #[.int .i64 a, .int .i64 b] w fun e w' => ∃ s, e = .returned (.iface 178 (.string s)) ∧ s = (⟨#[100, 111, 99, 117, 109, 101, 110, 116]⟩ : ByteArray) ++ ⟨#[32, 108, 101, 110, 103, 116, 104, 32, 101, 120, 99, 101, 101, 100, 115, 32, 97, 118, 97, 105, 108, 97, 98, 108, 101, 32, 98, 121, 116, 101, 115]⟩ ∧ Below w.heap.size w w' := by
  go_enter Tryz.func157, Tryz.ntmps157
  go_wp2
  go_ret
  exact ⟨_, rfl, rfl, Below.refl _ _⟩
theorem dv_long (A : Option Addr) (c : Nat) (l rest : List Int) (n : Int) (w : World) (hC : Kd.C (Kd.int .u8) w A l.length l) (hc : l.length ≤ c) (hl : l.length ≤ 1000000) (hf : bsoncore_ReadLength.f l = some (n, rest, true)) (hn : (l.length : Int) < n) (hn2 : n ≤ 2147483647) :
    Calls Tryz.prog 106 #[.slice A l.length c] w fun e w' => ∃ s, e = .returned (.iface 178 (.string s)) ∧ s = (⟨#[100, 111, 99, 117, 109, 101, 110, 116]⟩ : ByteArray) ++ ⟨#[32, 108, 101, 110, 103, 116, 104, 32, 101, 120, 99, 101, 101, 100, 115, 32, 97, 118, 97, 105, 108, 97, 98, 108, 101, 32, 98, 121, 116, 101, 115]⟩ ∧ Below w.heap.size w w' := by
  have hV : Kd.V (Kd.int .u8) 5 w w.heap.size (fun _ => True) (.slice A l.length c) l := Kd.V_mk hc (Kd.F_mono (Kd.C_F (Kd.heap_int _) hC) (fun _ _ => trivial))
  have hw : wrap64 n = n := by unfold wrap64; omega
  have d0 : decide ((l.length : Int) < n) = true := decide_eq_true hn; clear hC hc
  go_enter Tryz.func106, Tryz.ntmps106
  go_wp2_with (first | (go_at_call 113; refine (bsoncore_ReadLength.calls (fun _ => True) A c l n rest true w hV hf).mono ?_; rintro e w1 ⟨v1, rfl, _, hb1⟩) | (go_at_call 157; refine (length_error _ _ _).mono ?_; rintro e w2 ⟨s, rfl, hs, hb2⟩))
  go_ret
  exact ⟨_, rfl, rfl, below_step hb1 hb2⟩
def impl_Validate.f (l0 : List Int) : Option (Int) := match bsoncore_ReadLength.f l0 with
  | some (n, _, true) => if (l0.length : Int) < n ∧ l0.length ≤ 1000000 ∧ n ≤ 2147483647 then some 4 else none
  | _ => none
theorem impl_Validate.calls (A0 : Option Addr) (c0 : Nat) (l0 : List Int) (r : Int) (w : World) (hr0 : Kd.C (Kd.int .u8) w A0 l0.length l0) (hc0 : l0.length ≤ c0) (h : impl_Validate.f l0 = some r) :
    Calls Tryz.prog 57 #[.slice A0 l0.length c0] w fun e w' => e = .returned (.int .i64 r) ∧ Below w.heap.size w w' := by
  unfold impl_Validate.f at h
  split at h
  next n rest hf =>
    split at h
    next hc =>
      obtain rfl := Option.some.inj h
      go_enter Tryz.func57, Tryz.ntmps57
      go_wp2_with (first | (go_at_call 106; refine (dv_long A0 c0 l0 rest n w hr0 hc0 hc.2.1 hf hc.1 hc.2.2).mono ?_; rintro e w1 ⟨s, rfl, hs, hb1⟩; subst hs) | (go_at_call 92; refine (code_text _ _ (by decide +kernel) (by decide +kernel)).mono ?_; rintro e w2 ⟨rfl, hb2⟩))
      go_ret
      exact ⟨rfl, below_step hb1 hb2⟩
    next => cases h
  next => cases h
def laws_docAwake.f (k : Nat)  : Option (Bool) := (impl_Built.f (([(⟨(⟨#[97]⟩ : ByteArray), (⟨16, (⟨#[]⟩ : ByteArray), (⟨#[]⟩ : ByteArray), 7, 0, 0, ([] : List Int), ([] : List (S95))⟩ : S44)⟩ : S95)] : List (S95)))).bind fun t571 => ((impl_Read.f k 16 (([7, 0, 0, 0, 9] : List Int))).bind fun bt577 => ((impl_Lookup.f k t571 (([(⟨#[97]⟩ : ByteArray)] : List ByteArray))).bind fun bt597 => (if (strOfNums t571).toList = ([12, 0, 0, 0, 16, 97, 0, 7, 0, 0, 0, 0] : List UInt8) then (if bt577.2.2.2.2.2.2.2.2.2 = true then (if bt577.2.2.2.1 = 7 then (if (bt577.2.2.2.2.2.2.2.2.1.length : Int) = 1 then (if bt597.2.2 = 0 then (if bt597.1 = 16 then (if (bt597.2.1.length : Int) = 4 then (if 11 ≤ (t571.length : Int) then ((impl_Validate.f (t571.take 11)).bind fun t607 => (some (t607 != 0))) else (none)) else (none)) else (none)) else (none)) else (none)) else (none)) else (none)) else (none))))
theorem laws_docAwake.mono : ∀ k, LeO (laws_docAwake.f k ) (laws_docAwake.f (k + 1) ) := by
  intro  k
  unfold laws_docAwake.f
  have m0_ := @impl_Lookup.mono; have m1_ := @impl_Read.mono; exact HW.mo
theorem laws_docAwake.calls (k : Nat)  (r : Bool) (w : World) (h : laws_docAwake.f k  = some r) :
    Calls Tryz.prog 15 #[] w fun e w' => e = .returned (.bool r) ∧ Below w.heap.size w w' := by
  have hu44 := Tryz.underlying44; have hu95 := Tryz.underlying95; have hu38 := Tryz.underlying38; have HB := Aside0.mk (Below.refl w.heap.size w)
  have H : ((impl_Built.f (([(⟨(⟨#[97]⟩ : ByteArray), (⟨16, (⟨#[]⟩ : ByteArray), (⟨#[]⟩ : ByteArray), 7, 0, 0, ([] : List Int), ([] : List (S95))⟩ : S44)⟩ : S95)] : List (S95)))).bind fun t571 => ((impl_Read.f k 16 (([7, 0, 0, 0, 9] : List Int))).bind fun bt577 => ((impl_Lookup.f k t571 (([(⟨#[97]⟩ : ByteArray)] : List ByteArray))).bind fun bt597 => (if (strOfNums t571).toList = ([12, 0, 0, 0, 16, 97, 0, 7, 0, 0, 0, 0] : List UInt8) then (if bt577.2.2.2.2.2.2.2.2.2 = true then (if bt577.2.2.2.1 = 7 then (if (bt577.2.2.2.2.2.2.2.2.1.length : Int) = 1 then (if bt597.2.2 = 0 then (if bt597.1 = 16 then (if (bt597.2.1.length : Int) = 4 then (if 11 ≤ (t571.length : Int) then ((impl_Validate.f (t571.take 11)).bind fun t607 => (some (t607 != 0))) else (none)) else (none)) else (none)) else (none)) else (none)) else (none)) else (none)) else (none))))) = some r := h
  clear h; obtain ⟨y568, hy568⟩ : ∃ y_ : List (S95), y_ = (([(⟨(⟨#[97]⟩ : ByteArray), (⟨16, (⟨#[]⟩ : ByteArray), (⟨#[]⟩ : ByteArray), 7, 0, 0, ([] : List Int), ([] : List (S95))⟩ : S44)⟩ : S95)] : List (S95))) := ⟨_, rfl⟩
  replace H : ((impl_Built.f y568).bind fun t571 => ((impl_Read.f k 16 (([7, 0, 0, 0, 9] : List Int))).bind fun bt577 => ((impl_Lookup.f k t571 (([(⟨#[97]⟩ : ByteArray)] : List ByteArray))).bind fun bt597 => (if (strOfNums t571).toList = ([12, 0, 0, 0, 16, 97, 0, 7, 0, 0, 0, 0] : List UInt8) then (if bt577.2.2.2.2.2.2.2.2.2 = true then (if bt577.2.2.2.1 = 7 then (if (bt577.2.2.2.2.2.2.2.2.1.length : Int) = 1 then (if bt597.2.2 = 0 then (if bt597.1 = 16 then (if (bt597.2.1.length : Int) = 4 then (if 11 ≤ (t571.length : Int) then ((impl_Validate.f (t571.take 11)).bind fun t607 => (some (t607 != 0))) else (none)) else (none)) else (none)) else (none)) else (none)) else (none)) else (none)) else (none))))) = some r := by (try rw [hy568]); exact HW.rp
  have Ny568 := Aside0.mk hy568; clear hy568; replace H := Option.bind_eq_some_iff.mp H; obtain ⟨t571, A10, H⟩ := H
  replace H : ((impl_Read.f k 16 (([7, 0, 0, 0, 9] : List Int))).bind fun bt577 => ((impl_Lookup.f k t571 (([(⟨#[97]⟩ : ByteArray)] : List ByteArray))).bind fun bt597 => (if (strOfNums t571).toList = ([12, 0, 0, 0, 16, 97, 0, 7, 0, 0, 0, 0] : List UInt8) then (if bt577.2.2.2.2.2.2.2.2.2 = true then (if bt577.2.2.2.1 = 7 then (if (bt577.2.2.2.2.2.2.2.2.1.length : Int) = 1 then (if bt597.2.2 = 0 then (if bt597.1 = 16 then (if (bt597.2.1.length : Int) = 4 then (if 11 ≤ (t571.length : Int) then ((impl_Validate.f (t571.take 11)).bind fun t607 => (some (t607 != 0))) else (none)) else (none)) else (none)) else (none)) else (none)) else (none)) else (none)) else (none)))) = some r := H
  have A1 := Aside0.mk A10; clear A10; obtain ⟨y574, hy574⟩ : ∃ y_ : List Int, y_ = (([7, 0, 0, 0, 9] : List Int)) := ⟨_, rfl⟩
  replace H : ((impl_Read.f k 16 y574).bind fun bt577 => ((impl_Lookup.f k t571 (([(⟨#[97]⟩ : ByteArray)] : List ByteArray))).bind fun bt597 => (if (strOfNums t571).toList = ([12, 0, 0, 0, 16, 97, 0, 7, 0, 0, 0, 0] : List UInt8) then (if bt577.2.2.2.2.2.2.2.2.2 = true then (if bt577.2.2.2.1 = 7 then (if (bt577.2.2.2.2.2.2.2.2.1.length : Int) = 1 then (if bt597.2.2 = 0 then (if bt597.1 = 16 then (if (bt597.2.1.length : Int) = 4 then (if 11 ≤ (t571.length : Int) then ((impl_Validate.f (t571.take 11)).bind fun t607 => (some (t607 != 0))) else (none)) else (none)) else (none)) else (none)) else (none)) else (none)) else (none)) else (none)))) = some r := by (try rw [hy574]); exact HW.rp
  have Ny574 := Aside0.mk hy574; clear hy574; replace H := Option.bind_eq_some_iff.mp H; obtain ⟨⟨t577, t578, t579, t580, t581, t582, t583, t586, t589, t592⟩, A20, H⟩ := H; replace H : ((impl_Lookup.f k t571 (([(⟨#[97]⟩ : ByteArray)] : List ByteArray))).bind fun bt597 => (if (strOfNums t571).toList = ([12, 0, 0, 0, 16, 97, 0, 7, 0, 0, 0, 0] : List UInt8) then (if t592 = true then (if t580 = 7 then (if (t589.length : Int) = 1 then (if bt597.2.2 = 0 then (if bt597.1 = 16 then (if (bt597.2.1.length : Int) = 4 then (if 11 ≤ (t571.length : Int) then ((impl_Validate.f (t571.take 11)).bind fun t607 => (some (t607 != 0))) else (none)) else (none)) else (none)) else (none)) else (none)) else (none)) else (none)) else (none))) = some r := H; have A2 := Aside0.mk A20; clear A20; obtain ⟨y594, hy594⟩ : ∃ y_ : List ByteArray, y_ = (([(⟨#[97]⟩ : ByteArray)] : List ByteArray)) := ⟨_, rfl⟩
  replace H : ((impl_Lookup.f k t571 y594).bind fun bt597 => (if (strOfNums t571).toList = ([12, 0, 0, 0, 16, 97, 0, 7, 0, 0, 0, 0] : List UInt8) then (if t592 = true then (if t580 = 7 then (if (t589.length : Int) = 1 then (if bt597.2.2 = 0 then (if bt597.1 = 16 then (if (bt597.2.1.length : Int) = 4 then (if 11 ≤ (t571.length : Int) then ((impl_Validate.f (t571.take 11)).bind fun t607 => (some (t607 != 0))) else (none)) else (none)) else (none)) else (none)) else (none)) else (none)) else (none)) else (none))) = some r := by (try rw [hy594]); exact HW.rp
  have Ny594 := Aside0.mk hy594; clear hy594; replace H := Option.bind_eq_some_iff.mp H; obtain ⟨⟨t597, t598, t601⟩, A30, H⟩ := H; replace H : (if (strOfNums t571).toList = ([12, 0, 0, 0, 16, 97, 0, 7, 0, 0, 0, 0] : List UInt8) then (if t592 = true then (if t580 = 7 then (if (t589.length : Int) = 1 then (if t601 = 0 then (if t597 = 16 then (if (t598.length : Int) = 4 then (if 11 ≤ (t571.length : Int) then ((impl_Validate.f (t571.take 11)).bind fun t607 => (some (t607 != 0))) else (none)) else (none)) else (none)) else (none)) else (none)) else (none)) else (none)) else (none)) = some r := H; have A3 := Aside0.mk A30; clear A30
  by_cases c4 : (strOfNums t571).toList = ([12, 0, 0, 0, 16, 97, 0, 7, 0, 0, 0, 0] : List UInt8)
  rotate_left
  · rw [if_neg c4] at H
    exact absurd H (by simp)
  rw [if_pos c4] at H; have c4b0 : ((strOfNums t571).toList == ([12, 0, 0, 0, 16, 97, 0, 7, 0, 0, 0, 0] : List UInt8)) = true := beq_iff_eq.mpr c4; have c4b1 : ((strOfNums t571).toList != ([12, 0, 0, 0, 16, 97, 0, 7, 0, 0, 0, 0] : List UInt8)) = false := bne_eq_false_iff_eq.mpr c4; clear c4
  by_cases c5 : t592 = true
  rotate_left
  · replace c5 := Bool.eq_false_iff.mpr c5
    subst c5
    have H1 : (none) = some r := by rw [if_neg (show ¬ (false = true) by decide)] at H; exact H
    clear H; have H := H1; clear H1
    exact absurd H (by simp)
  subst c5
  have H1 : (if t580 = 7 then (if (t589.length : Int) = 1 then (if t601 = 0 then (if t597 = 16 then (if (t598.length : Int) = 4 then (if 11 ≤ (t571.length : Int) then ((impl_Validate.f (t571.take 11)).bind fun t607 => (some (t607 != 0))) else (none)) else (none)) else (none)) else (none)) else (none)) else (none)) = some r := by rw [if_pos rfl] at H; exact H
  clear H; have H := H1; clear H1
  by_cases c6 : t580 = 7
  rotate_left
  · rw [if_neg c6] at H
    exact absurd H (by simp)
  rw [if_pos c6] at H; have c6b0 : (t580 == 7) = true := beq_iff_eq.mpr c6; have c6b1 : (t580 != 7) = false := bne_eq_false_iff_eq.mpr c6; clear c6
  by_cases c7 : (t589.length : Int) = 1
  rotate_left
  · rw [if_neg c7] at H
    exact absurd H (by simp)
  rw [if_pos c7] at H; have c7b0 : ((t589.length : Int) == 1) = true := beq_iff_eq.mpr c7; have c7b1 : ((t589.length : Int) != 1) = false := bne_eq_false_iff_eq.mpr c7; clear c7
  by_cases c8 : t601 = 0
  rotate_left
  · rw [if_neg c8] at H
    exact absurd H (by simp)
  rw [if_pos c8] at H; have c8b0 : (t601 == 0) = true := beq_iff_eq.mpr c8; have c8b1 : (t601 != 0) = false := bne_eq_false_iff_eq.mpr c8; clear c8
  by_cases c9 : t597 = 16
  rotate_left
  · rw [if_neg c9] at H
    exact absurd H (by simp)
  rw [if_pos c9] at H; have c9b0 : (t597 == 16) = true := beq_iff_eq.mpr c9; have c9b1 : (t597 != 16) = false := bne_eq_false_iff_eq.mpr c9; clear c9
  by_cases c10 : (t598.length : Int) = 4
  rotate_left
  · rw [if_neg c10] at H
    exact absurd H (by simp)
  rw [if_pos c10] at H; have c10b0 : ((t598.length : Int) == 4) = true := beq_iff_eq.mpr c10; have c10b1 : ((t598.length : Int) != 4) = false := bne_eq_false_iff_eq.mpr c10; clear c10
  by_cases c11 : 11 ≤ (t571.length : Int)
  rotate_left
  · rw [if_neg c11] at H
    exact absurd H (by simp)
  rw [if_pos c11] at H; have c11b0 := eq_true c11; have c11b1 : decide (11 ≤ (t571.length : Int)) = true := decide_eq_true c11; clear c11; obtain ⟨y603, hy603⟩ : ∃ y_ : List Int, y_ = (t571.take 11) := ⟨_, rfl⟩
  replace H : ((impl_Validate.f y603).bind fun t607 => (some (t607 != 0))) = some r := by (try rw [hy603]); exact HW.rp
  have Ny603 := Aside0.mk hy603; clear hy603; replace H := Option.bind_eq_some_iff.mp H; obtain ⟨t607, A120, H⟩ := H; replace H : (some (t607 != 0)) = some r := H; have A12 := Aside0.mk A120; clear A120
  focus
    obtain rfl := Option.some.inj H
    go_enter Tryz.func15, Tryz.ntmps15
    go_wp2_with (first | ((with_reducible refine gate_dst (N := 9) rfl ?_); (try (refine gate_guard (by rfl) ?_; dsimp only)); refine Kd.R_lit k95 _ 95 ?hg (N := 9) ?hd (xs := ([(⟨(⟨#[97]⟩ : ByteArray), (⟨16, (⟨#[]⟩ : ByteArray), (⟨#[]⟩ : ByteArray), 7, 0, 0, ([] : List Int), ([] : List (S95))⟩ : S44)⟩ : S95)] : List (S95))) (inner := [.string (⟨#[97]⟩ : ByteArray), .int .i64 16, .string (⟨#[]⟩ : ByteArray), .string (⟨#[]⟩ : ByteArray), .int .i64 7, .int .u64 0, .int .u64 0, .slice none 0 0, .slice none 0 0]) (ok := fun _ => True) (okp := fun _ => True) ?hr ?hp (fun _ hk => hk) trivial (Below.refl _ _) (Nat.le_refl _) (by simp) ?_; (case hd => rfl); (case hg => rfl); (case hr => first | (go_simp; done) | (go_simp; rfl)); (case hp => exact (Reps.c9 (show Kd.M k95 _ _ _ (⟨(⟨#[97]⟩ : ByteArray), (⟨16, (⟨#[]⟩ : ByteArray), (⟨#[]⟩ : ByteArray), 7, 0, 0, ([] : List Int), ([] : List (S95))⟩ : S44)⟩ : S95) [.string (⟨#[97]⟩ : ByteArray), .int .i64 16, .string (⟨#[]⟩ : ByteArray), .string (⟨#[]⟩ : ByteArray), .int .i64 7, .int .u64 0, .int .u64 0, .slice none 0 0, .slice none 0 0] from (k95_mkM _ _ _ (⟨(⟨#[97]⟩ : ByteArray), (⟨16, (⟨#[]⟩ : ByteArray), (⟨#[]⟩ : ByteArray), 7, 0, 0, ([] : List Int), ([] : List (S95))⟩ : S44)⟩ : S95) (Kd.R_nil _ _ _ _ _) (Kd.R_nil _ _ _ _ _))) (Reps.none _ _))); intro v569 w13 ho14 hb hg_ hnew_; clear hg_ hnew_; (first | rw [← Ny568.out] at ho14 | (simp only [Int.reduceToNat] at ho14; rw [← Ny568.out] at ho14)); have HO570 := Aside0.mk (Kd.R_lower ho14 (below_size HW.zb)); replace HB := Aside0.mk (below_step HW.zb hb); clear hb ho14; obtain ⟨Ao15, co15, eo15⟩ := Kd.R_slice HO570.out; subst eo15) | ((with_reducible refine gate_callee (f := 56) rfl ?_); refine HW.gz (some 10) rfl rfl Tryz.func56 (by kernel_rfl) rfl #[.slice Ao15 y568.length co15] rfl ?_; (with_reducible refine (impl_Built.calls _ _ y568 t571 _ ?side1 ?side2 A1.out).mono ?_); (case side1 => repeat (first | exact (Kd.R_reads' HO570.out).2.2 | (with_reducible refine Kd.C_alloc ?_ _) | (with_reducible refine Kd.C_drewN ?_ _) | (with_reducible refine Kd.C_drew ?_))); (case side2 => exact (Kd.R_reads' HO570.out).2.1); rintro e w16 ⟨v572, rfl, ho0, hb⟩; refine ⟨_, rfl, ?_⟩; have HO573 := Aside0.mk (Kd.R_lower ho0 (below_size HW.zb)); replace HB := Aside0.mk (below_step HW.zb hb); (try clear hb); (try clear ho0)) | ((with_reducible refine gate_dst (N := 12) rfl ?_); (try (refine gate_guard (by rfl) ?_; dsimp only)); refine Kd.R_lit (Kd.int .u8) _ 5 ?hg (N := 12) ?hd (xs := ([7, 0, 0, 0, 9] : List Int)) (inner := [.int .u8 7, .int .u8 0, .int .u8 0, .int .u8 0, .int .u8 9]) (ok := fun _ => True) (okp := fun _ => True) ?hr ?hp (fun _ hk => hk) trivial (Below.refl _ _) (Nat.le_refl _) (by simp) ?_; (case hd => rfl); (case hg => rfl); (case hr => first | (go_simp; done) | (go_simp; rfl)); (case hp => exact (Reps.one (show Kd.M (Kd.int .u8) _ _ _ 7 [.int .u8 7] from rfl) (Reps.one (show Kd.M (Kd.int .u8) _ _ _ 0 [.int .u8 0] from rfl) (Reps.one (show Kd.M (Kd.int .u8) _ _ _ 0 [.int .u8 0] from rfl) (Reps.one (show Kd.M (Kd.int .u8) _ _ _ 0 [.int .u8 0] from rfl) (Reps.one (show Kd.M (Kd.int .u8) _ _ _ 9 [.int .u8 9] from rfl) (Reps.none _ _))))))); intro v575 w17 ho18 hb hg_ hnew_; clear hg_ hnew_; (first | rw [← Ny574.out] at ho18 | (simp only [Int.reduceToNat] at ho18; rw [← Ny574.out] at ho18)); have n0_ := Aside0.mk (Kd.R_below (HW.zR HO573.out) hb); have n1_ := Aside0.mk (Kd.R_lower ho18 (below_size HW.zb)); have n2_ := Aside0.mk (below_step HW.zb hb); clear HO573; clear HB; (try clear HO570); have HO573 := n0_; have HO576 := n1_; have HB := n2_; clear n0_ n1_ n2_; clear hb ho18; obtain ⟨Ao19, co19, eo19⟩ := Kd.R_slice HO576.out; subst eo19) | ((with_reducible refine gate_callee (f := 34) rfl ?_); refine HW.gz (some 13) rfl rfl Tryz.func34 (by kernel_rfl) rfl #[.int .i64 16, .slice Ao19 y574.length co19] rfl ?_; (with_reducible refine (impl_Read.calls k 16 _ _ y574 t577 t578 t579 t580 t581 t582 t583 t586 t589 true _ ?side1 ?side2 A2.out).mono ?_); (case side1 => repeat (first | exact (Kd.R_reads' HO576.out).2.2 | (with_reducible refine Kd.C_alloc ?_ _) | (with_reducible refine Kd.C_drewN ?_ _) | (with_reducible refine Kd.C_drew ?_))); (case side2 => exact (Kd.R_reads' HO576.out).2.1); rintro e w20 ⟨v584, v587, v590, rfl, ho0, ho1, ho2, hb⟩; refine ⟨_, rfl, ?_⟩; replace HO573 := Aside0.mk (Kd.R_below (HW.zR HO573.out) hb); have HO585 := Aside0.mk (Kd.R_lower ho0 (below_size HW.zb)); have HO588 := Aside0.mk (Kd.R_lower ho1 (below_size HW.zb)); have HO591 := Aside0.mk (Kd.R_lower ho2 (below_size HW.zb)); replace HB := Aside0.mk (below_step HW.zb hb); (try clear hb); (try clear ho0); (try clear ho1); (try clear ho2)) | ((with_reducible refine gate_dst (N := 2) rfl ?_); (try (refine gate_guard (by rfl) ?_; dsimp only)); refine box_event ?hg (N := 2) ?hd (cs := #[.int .i64 0, .string (⟨#[]⟩ : ByteArray), .string (⟨#[]⟩ : ByteArray), .int .i64 0, .int .u64 0, .int .u64 0, .slice none 0 0, .slice none 0 0]) (t := 44) ?hr ?_; (case hd => rfl); (case hg => rfl); (case hr => first | (go_simp; done) | (go_simp; rfl)); intro gb593 hg w21 hbox hb; have n0_ := Aside0.mk (Kd.R_below (HW.zR HO573.out) hb); have n1_ := Aside0.mk (Kd.R_below (HW.zR HO585.out) hb); have n2_ := Aside0.mk (Kd.R_below (HW.zR HO588.out) hb); have n3_ := Aside0.mk (Kd.R_below (HW.zR HO591.out) hb); have n4_ := Aside0.mk (below_step HW.zb hb); have n5_ := Aside0.mk (hbox); have n6_ := Aside0.mk ((by rw [hg]; exact (below_size HW.zb) : w.heap.size ≤ gb593)); have n7_ := Aside0.mk ((by rw [hg]; exact (below_size HW.zb) : w.heap.size ≤ gb593)); clear HO573; clear HO585; clear HO588; clear HO591; clear HB; (try clear HO576); have HO573 := n0_; have HO585 := n1_; have HO588 := n2_; have HO591 := n3_; have HB := n4_; have BK593 := n5_; have GW593 := n6_; have GE593 := n7_; clear n0_ n1_ n2_ n3_ n4_ n5_ n6_ n7_; clear hb hbox hg; obtain ⟨hcz22_0, hcz22_1, hcz22_2, hcz22_3, hcz22_4, hcz22_5, hcz22_6, hcz22_7, hfz23_0, hfz23_1, hfz23_2, hfz23_3, hfz23_4, hfz23_5, hfz23_6, hfz23_7⟩ := HW.k8f BK593.out; obtain ⟨Ao24, co24, eo24⟩ := Kd.R_slice HO585.out; subst eo24; obtain ⟨Ao25, co25, eo25⟩ := Kd.R_slice HO588.out; subst eo25) | ((with_reducible refine gate_dst (N := 19) rfl ?_); (try (refine gate_guard (by rfl) ?_; dsimp only)); refine Kd.R_lit Kd.string _ 9 ?hg (N := 19) ?hd (xs := ([(⟨#[97]⟩ : ByteArray)] : List ByteArray)) (inner := [.string (⟨#[97]⟩ : ByteArray)]) (ok := fun _ => True) (okp := fun _ => True) ?hr ?hp (fun _ hk => hk) trivial (Below.refl _ _) (Nat.le_refl _) (by simp) ?_; (case hd => rfl); (case hg => rfl); (case hr => first | (go_simp; done) | (go_simp; rfl)); (case hp => exact (Reps.one (show Kd.M Kd.string _ _ _ (⟨#[97]⟩ : ByteArray) [.string (⟨#[97]⟩ : ByteArray)] from rfl) (Reps.none _ _))); intro v595 w26 ho27 hb hg_ hnew_; clear hg_ hnew_; (first | rw [← Ny594.out] at ho27 | (simp only [Int.reduceToNat] at ho27; rw [← Ny594.out] at ho27)); have n0_ := Aside0.mk (Kd.R_below (by (with_reducible repeat (first | apply Kd.R_alloc | apply Kd.R_drewN | apply Kd.R_drew)); exact (Kd.R_mono (Kd.R_far (p := ⟨gb593, 7, none⟩) (Kd.R_far (p := ⟨gb593, 6, none⟩) (Kd.R_far (p := ⟨gb593, 5, none⟩) (Kd.R_far (p := ⟨gb593, 4, none⟩) (Kd.R_far (p := ⟨gb593, 3, none⟩) (Kd.R_far (p := ⟨gb593, 2, none⟩) (Kd.R_far (p := ⟨gb593, 1, none⟩) (Kd.R_far (p := ⟨gb593, 0, none⟩) (Kd.R_types HO573.out BK593.out (by decide)) (fun _ hk => hk.2) (.int .i64 t577)) (fun _ hk => hk.2) (.string t578)) (fun _ hk => hk.2) (.string t579)) (fun _ hk => hk.2) (.int .i64 t580)) (fun _ hk => hk.2) (.int .u64 t581)) (fun _ hk => hk.2) (.int .u64 t582)) (fun _ hk => hk.2) (.slice Ao24 t583.length co24)) (fun _ hk => hk.2) (.slice Ao25 t586.length co25)) (fun _ h_ => h_.1))) hb); have n3_ := Aside0.mk (Kd.R_below (by (with_reducible repeat (first | apply Kd.R_alloc | apply Kd.R_drewN | apply Kd.R_drew)); exact (Kd.R_mono (Kd.R_far (p := ⟨gb593, 7, none⟩) (Kd.R_far (p := ⟨gb593, 6, none⟩) (Kd.R_far (p := ⟨gb593, 5, none⟩) (Kd.R_far (p := ⟨gb593, 4, none⟩) (Kd.R_far (p := ⟨gb593, 3, none⟩) (Kd.R_far (p := ⟨gb593, 2, none⟩) (Kd.R_far (p := ⟨gb593, 1, none⟩) (Kd.R_far (p := ⟨gb593, 0, none⟩) (Kd.R_types HO591.out BK593.out (by decide)) (fun _ hk => hk.2) (.int .i64 t577)) (fun _ hk => hk.2) (.string t578)) (fun _ hk => hk.2) (.string t579)) (fun _ hk => hk.2) (.int .i64 t580)) (fun _ hk => hk.2) (.int .u64 t581)) (fun _ hk => hk.2) (.int .u64 t582)) (fun _ hk => hk.2) (.slice Ao24 t583.length co24)) (fun _ hk => hk.2) (.slice Ao25 t586.length co25)) (fun _ h_ => h_.1))) hb); have n4_ := Aside0.mk (Kd.R_lower ho27 (below_size HW.zb)); have n5_ := Aside0.mk (blk_below (g := gb593) (o := .cells #[.int .i64 t577, .string t578, .string t579, .int .i64 t580, .int .u64 t581, .int .u64 t582, .slice Ao24 t583.length co24, .slice Ao25 t586.length co25] 44 (0, 0)) (by (with_reducible repeat (first | refine blk_drewN ?_ _ | refine blk_drew ?_ | refine blk_alloc ?_ _)); refine blk_put (cs := #[.int .i64 t577, .string t578, .string t579, .int .i64 t580, .int .u64 t581, .int .u64 t582, .slice Ao24 t583.length co24, .slice none 0 0]) ?_ 7 _ rfl; (with_reducible repeat (first | refine blk_drewN ?_ _ | refine blk_drew ?_ | refine blk_alloc ?_ _)); refine blk_put (cs := #[.int .i64 t577, .string t578, .string t579, .int .i64 t580, .int .u64 t581, .int .u64 t582, .slice none 0 0, .slice none 0 0]) ?_ 6 _ rfl; (with_reducible repeat (first | refine blk_drewN ?_ _ | refine blk_drew ?_ | refine blk_alloc ?_ _)); refine blk_put (cs := #[.int .i64 t577, .string t578, .string t579, .int .i64 t580, .int .u64 t581, .int .u64 0, .slice none 0 0, .slice none 0 0]) ?_ 5 _ rfl; (with_reducible repeat (first | refine blk_drewN ?_ _ | refine blk_drew ?_ | refine blk_alloc ?_ _)); refine blk_put (cs := #[.int .i64 t577, .string t578, .string t579, .int .i64 t580, .int .u64 0, .int .u64 0, .slice none 0 0, .slice none 0 0]) ?_ 4 _ rfl; (with_reducible repeat (first | refine blk_drewN ?_ _ | refine blk_drew ?_ | refine blk_alloc ?_ _)); refine blk_put (cs := #[.int .i64 t577, .string t578, .string t579, .int .i64 0, .int .u64 0, .int .u64 0, .slice none 0 0, .slice none 0 0]) ?_ 3 _ rfl; (with_reducible repeat (first | refine blk_drewN ?_ _ | refine blk_drew ?_ | refine blk_alloc ?_ _)); refine blk_put (cs := #[.int .i64 t577, .string t578, .string (⟨#[]⟩ : ByteArray), .int .i64 0, .int .u64 0, .int .u64 0, .slice none 0 0, .slice none 0 0]) ?_ 2 _ rfl; (with_reducible repeat (first | refine blk_drewN ?_ _ | refine blk_drew ?_ | refine blk_alloc ?_ _)); refine blk_put (cs := #[.int .i64 t577, .string (⟨#[]⟩ : ByteArray), .string (⟨#[]⟩ : ByteArray), .int .i64 0, .int .u64 0, .int .u64 0, .slice none 0 0, .slice none 0 0]) ?_ 1 _ rfl; (with_reducible repeat (first | refine blk_drewN ?_ _ | refine blk_drew ?_ | refine blk_alloc ?_ _)); refine blk_put (cs := #[.int .i64 0, .string (⟨#[]⟩ : ByteArray), .string (⟨#[]⟩ : ByteArray), .int .i64 0, .int .u64 0, .int .u64 0, .slice none 0 0, .slice none 0 0]) ?_ 0 _ rfl; exact HW.zB BK593.out) hb); have n6_ := Aside0.mk (below_step HW.zb hb); clear HO573; clear HO591; clear BK593; clear HB; have HO573 := n0_; have HO591 := n3_; have HO596 := n4_; have BK593 := n5_; have HB := n6_; clear n0_ n3_ n4_ n5_ n6_; clear hb ho27; obtain ⟨Ao28, co28, eo28⟩ := Kd.R_slice HO573.out; subst eo28; obtain ⟨Ao29, co29, eo29⟩ := Kd.R_slice HO596.out; subst eo29) | ((with_reducible refine gate_callee (f := 45) rfl ?_); refine HW.gz (some 20) rfl rfl Tryz.func45 (by kernel_rfl) rfl #[.slice Ao28 t571.length co28, .slice Ao29 y594.length co29] rfl ?_; (with_reducible refine (impl_Lookup.calls k _ _ t571 _ _ y594 t597 t598 t601 _ ?side1 ?side2 ?side3 ?side4 A3.out).mono ?_); (case side1 => repeat (first | exact (Kd.R_reads' HO573.out).2.2 | (with_reducible refine Kd.C_alloc ?_ _) | (with_reducible refine Kd.C_drewN ?_ _) | (with_reducible refine Kd.C_drew ?_))); (case side2 => exact (Kd.R_reads' HO573.out).2.1); (case side3 => repeat (first | exact (Kd.R_reads' HO596.out).2.2 | (with_reducible refine Kd.C_alloc ?_ _) | (with_reducible refine Kd.C_drewN ?_ _) | (with_reducible refine Kd.C_drew ?_))); (case side4 => exact (Kd.R_reads' HO596.out).2.1); rintro e w30 ⟨v599, rfl, ho0, hb⟩; refine ⟨_, rfl, ?_⟩; have n0_ := Aside0.mk (Kd.R_below (HW.zR HO573.out) hb); have n1_ := Aside0.mk (Kd.R_below (HW.zR HO591.out) hb); have n2_ := Aside0.mk (Kd.R_below (HW.zR HO596.out) hb); have n3_ := Aside0.mk (Kd.R_lower ho0 (below_size HW.zb)); have n4_ := Aside0.mk (blk_below (HW.zB BK593.out) hb); have n5_ := Aside0.mk (below_step HW.zb hb); clear HO573; clear HO591; clear HO596; clear BK593; clear HB; (try clear HO585); (try clear HO588); have HO573 := n0_; have HO591 := n1_; have HO596 := n2_; have HO600 := n3_; have BK593 := n4_; have HB := n5_; clear n0_ n1_ n2_ n3_ n4_ n5_; (try clear hb); (try clear ho0)) | ((with_reducible refine gate_dst (N := 5) rfl ?_); (try (refine gate_guard (by rfl) ?_; dsimp only)); refine box_event ?hg (N := 5) ?hd (cs := #[.int .i64 0, .slice none 0 0]) (t := 38) ?hr ?_; (case hd => rfl); (case hg => rfl); (case hr => first | (go_simp; done) | (go_simp; rfl)); intro gb602 hg w31 hbox hb; have n0_ := Aside0.mk (Kd.R_below (HW.zR HO573.out) hb); have n1_ := Aside0.mk (Kd.R_below (HW.zR HO591.out) hb); have n2_ := Aside0.mk (Kd.R_below (HW.zR HO600.out) hb); have n3_ := Aside0.mk (blk_below (HW.zB BK593.out) hb); have n4_ := Aside0.mk (below_step HW.zb hb); have n5_ := Aside0.mk (hbox); have n6_ := Aside0.mk ((by rw [hg]; exact (below_size HW.zb) : w.heap.size ≤ gb602)); have n7_ := Aside0.mk ((by rw [hg]; exact (below_size HW.zb) : w.heap.size ≤ gb602)); have n8_ := Aside0.mk ((by rw [hg]; exact Nat.ne_of_lt (blk_lt (g := gb593) (o := .cells #[.int .i64 t577, .string t578, .string t579, .int .i64 t580, .int .u64 t581, .int .u64 t582, .slice Ao24 t583.length co24, .slice Ao25 t586.length co25] 44 (0, 0)) (HW.zB BK593.out)) : gb593 ≠ gb602)); have n9_ := Aside0.mk ((by rw [hg]; exact Nat.ne_of_gt (blk_lt (g := gb593) (o := .cells #[.int .i64 t577, .string t578, .string t579, .int .i64 t580, .int .u64 t581, .int .u64 t582, .slice Ao24 t583.length co24, .slice Ao25 t586.length co25] 44 (0, 0)) (HW.zB BK593.out)) : gb602 ≠ gb593)); clear HO573; clear HO591; clear HO600; clear BK593; clear HB; (try clear HO596); have HO573 := n0_; have HO591 := n1_; have HO600 := n2_; have BK593 := n3_; have HB := n4_; have BK602 := n5_; have GW602 := n6_; have GE602 := n7_; have NB593_602 := n8_; have NB602_593 := n9_; clear n0_ n1_ n2_ n3_ n4_ n5_ n6_ n7_ n8_ n9_; clear hb hbox hg; have hnb32 := NB602_593.out; have hnc32 := NB593_602.out; obtain ⟨hcz33_0, hcz33_1, hfz34_0, hfz34_1⟩ := HW.k2f BK602.out; obtain ⟨Ao35, co35, eo35⟩ := Kd.R_slice HO600.out; subst eo35) | ((with_reducible refine gate_store (t := 38) (p := 5) rfl ?_); refine store_event (t := 38) (p := 5) (v := ?vo_w36) (w1 := ((w31.setCell ⟨gb602, 0, none⟩ (.int .i64 t597)).setCell ⟨gb602, 1, none⟩ (.slice Ao35 t598.length co35))) ?hg ?ho ?hn ?hr ?_; (case ho => rfl); (case hg => rfl); (case hn => rfl); (case hr => first | (go_simp; done) | (go_simp; rfl)); intro w36 hw; have n0_ : Aside0 (Kd.R (Kd.int .u8) 5 w36 w.heap.size (fun _ => True) (.slice Ao28 t571.length co28) t571) := ⟨(by rw [hw]; exact (by (with_reducible repeat (first | apply Kd.R_alloc | apply Kd.R_drewN | apply Kd.R_drew)); exact Kd.R_mono (Kd.R_far (p := ⟨gb602, 1, none⟩) (Kd.R_far (p := ⟨gb602, 0, none⟩) (Kd.R_types HO573.out BK602.out (by decide)) (fun _ hk => hk.2) (.int .i64 t597)) (fun _ hk => hk.2) (.slice Ao35 t598.length co35)) (fun _ hk => trivial)))⟩; have n1_ : Aside0 (Kd.R (Kd.int .u8) 5 w36 w.heap.size (fun _ => True) v590 t589) := ⟨(by rw [hw]; exact (by (with_reducible repeat (first | apply Kd.R_alloc | apply Kd.R_drewN | apply Kd.R_drew)); exact Kd.R_mono (Kd.R_far (p := ⟨gb602, 1, none⟩) (Kd.R_far (p := ⟨gb602, 0, none⟩) (Kd.R_types HO591.out BK602.out (by decide)) (fun _ hk => hk.2) (.int .i64 t597)) (fun _ hk => hk.2) (.slice Ao35 t598.length co35)) (fun _ hk => trivial)))⟩; have n2_ : Aside0 (Kd.R (Kd.int .u8) 5 w36 w.heap.size (fun _ => True) (.slice Ao35 t598.length co35) t598) := ⟨(by rw [hw]; exact (by (with_reducible repeat (first | apply Kd.R_alloc | apply Kd.R_drewN | apply Kd.R_drew)); exact Kd.R_mono (Kd.R_far (p := ⟨gb602, 1, none⟩) (Kd.R_far (p := ⟨gb602, 0, none⟩) (Kd.R_types HO600.out BK602.out (by decide)) (fun _ hk => hk.2) (.int .i64 t597)) (fun _ hk => hk.2) (.slice Ao35 t598.length co35)) (fun _ hk => trivial)))⟩; have n3_ : Aside0 (w36.heap[gb593]? = some (.cells #[.int .i64 t577, .string t578, .string t579, .int .i64 t580, .int .u64 t581, .int .u64 t582, .slice Ao24 t583.length co24, .slice Ao25 t586.length co25] 44 (0, 0))) := ⟨(by rw [hw]; exact (by (with_reducible repeat (first | refine blk_drewN ?_ _ | refine blk_drew ?_ | refine blk_alloc ?_ _)); refine blk_far ?_ NB593_602.out _; (with_reducible repeat (first | refine blk_drewN ?_ _ | refine blk_drew ?_ | refine blk_alloc ?_ _)); refine blk_far ?_ NB593_602.out _; exact HW.zB BK593.out))⟩; have n4_ : Aside0 (w36.heap[gb602]? = some (.cells #[.int .i64 t597, .slice Ao35 t598.length co35] 38 (0, 0))) := ⟨(by rw [hw]; exact (by (with_reducible repeat (first | refine blk_drewN ?_ _ | refine blk_drew ?_ | refine blk_alloc ?_ _)); refine blk_put (cs := #[.int .i64 t597, .slice none 0 0]) ?_ 1 _ rfl; (with_reducible repeat (first | refine blk_drewN ?_ _ | refine blk_drew ?_ | refine blk_alloc ?_ _)); refine blk_put (cs := #[.int .i64 0, .slice none 0 0]) ?_ 0 _ rfl; exact HW.zB BK602.out))⟩; have n5_ : Aside0 (Below w.heap.size w w36) := ⟨(by rw [hw]; exact HW.zb)⟩; clear hw; clear HO573; clear HO591; clear HO600; clear BK593; clear BK602; clear HB; have HO573 := n0_; have HO591 := n1_; have HO600 := n2_; have BK593 := n3_; have BK602 := n4_; have HB := n5_; clear n0_ n1_ n2_ n3_ n4_ n5_; have hcv37 := own_string (P := Tryz.prog) Tryz.underlying22 Tryz.underlying5 Tryz.underlying9 (Kd.own_of_R HO573.out); obtain ⟨hcz38_0, hcz38_1, hcz38_2, hcz38_3, hcz38_4, hcz38_5, hcz38_6, hcz38_7⟩ := HW.k8 BK593.out; obtain ⟨Ao39, co39, eo39⟩ := Kd.R_slice HO591.out; subst eo39; obtain ⟨hcz40_0, hcz40_1⟩ := HW.k2 BK602.out; have q41 : (11 : Int) ≤ ((t571.length : Int) : Int) := HW.od; obtain ⟨i041, hi041, _, hsz41, _⟩ := info_parts info5; have hroom41 : t571.length ≤ co28 := (Kd.R_reads' HO573.out).2.1; have hC41 : Kd.C (Kd.int .u8) _ Ao28 t571.length t571 := (Kd.R_reads' HO573.out).2.2; have hcut41 := cut_to (P := Tryz.prog) 22 5 .i64 Tryz.underlying22 hi041 Ao28 t571.length co28 11 (by omega) q41 hroom41; have hr41 := Kd.C_take (m := 11) hC41 (by omega); have hy41 : y603.length = (11 : Int).toNat := (by rw [Ny603.out, List.length_take]; omega); rw [← Ny603.out] at hr41; rw [← hy41] at hcut41; have HR606 := Aside0.mk hr41; have HC606 := Aside0.mk (show y603.length ≤ co28 from by omega); clear hr41 hC41 hroom41 hi041 hsz41; have KY41 := Aside0.mk hy41; clear hy41; have KL41 := Aside0.mk (show 11 ≤ t571.length from by omega); replace q41 := eq_true q41) | (go_at_call 57; (with_reducible refine (impl_Validate.calls _ _ y603 t607 _ ?side1 ?side2 A12.out).mono ?_); (case side1 => repeat (first | exact (by repeat (first | (with_reducible exact HR606.out) | (with_reducible refine Kd.C_alloc ?_ _) | (with_reducible refine Kd.C_drewN ?_ _) | (with_reducible refine Kd.C_drew ?_) | exact HR606.out)) | (with_reducible refine Kd.C_alloc ?_ _) | (with_reducible refine Kd.C_drewN ?_ _) | (with_reducible refine Kd.C_drew ?_))); (case side2 => exact HC606.out); rintro e w42 ⟨rfl, hb⟩; have n0_ := Aside0.mk (Kd.R_below (HW.zR HO573.out) hb); have n1_ := Aside0.mk (Kd.C_below (by repeat (first | (with_reducible exact HR606.out) | (with_reducible refine Kd.C_alloc ?_ _) | (with_reducible refine Kd.C_drewN ?_ _) | (with_reducible refine Kd.C_drew ?_) | exact HR606.out)) hb); have n2_ := Aside0.mk (below_step HW.zb hb); clear HO573; clear HR606; clear HB; (try clear BK593); (try clear HO591); (try clear BK602); (try clear HO600); have HO573 := n0_; have HR606 := n1_; have HB := n2_; clear n0_ n1_ n2_; (try clear hb)))
    go_ret
    exact ⟨rfl, HW.zb⟩
def laws_zzFits1.f (a0_0 : Int) (a0_1 : ByteArray) (a0_2 : ByteArray) (a0_3 : Int) (a0_4 : Int) (a0_5 : Int) (l0_6 : List Int) (l0_7 : List (S95)) : Option (Bool) := if (a0_1.size : Int) > 2147483647 then (some false) else (if (a0_2.size : Int) > 2147483647 then (some false) else (if (l0_6.length : Int) > 2147483647 then (some false) else (if (l0_7.length : Int) > 2147483647 then (some false) else (some true))))
theorem laws_zzFits1.calls (a0_0 : Int) (a0_1 : ByteArray) (a0_2 : ByteArray) (a0_3 : Int) (a0_4 : Int) (a0_5 : Int) (A0_6 : Option Addr) (c0_6 : Nat) (l0_6 : List Int) (A0_7 : Option Addr) (c0_7 : Nat) (l0_7 : List (S95)) (r : Bool) (w : World) (hr0_6 : Kd.C (Kd.int .u8) w A0_6 l0_6.length l0_6) (hc0_6 : l0_6.length ≤ c0_6) (hr0_7 : Kd.C k95 w A0_7 l0_7.length l0_7) (hc0_7 : l0_7.length ≤ c0_7) (h : laws_zzFits1.f a0_0 a0_1 a0_2 a0_3 a0_4 a0_5 l0_6 l0_7 = some r) :
    Calls Tryz.prog 30 #[.agg #[.int .i64 a0_0, .string a0_1, .string a0_2, .int .i64 a0_3, .int .u64 a0_4, .int .u64 a0_5, .slice A0_6 l0_6.length c0_6, .slice A0_7 l0_7.length c0_7]] w fun e w' => e = .returned (.bool r) ∧ Below w.heap.size w w' := by
  have hu44 := Tryz.underlying44; have HR0_6 := Aside0.mk hr0_6; have HC0_6 := Aside0.mk hc0_6; clear hr0_6 hc0_6; have HR0_7 := Aside0.mk hr0_7; have HC0_7 := Aside0.mk hc0_7; clear hr0_7 hc0_7; have HB := Aside0.mk (Below.refl w.heap.size w); have H : (if (a0_1.size : Int) > 2147483647 then (some false) else (if (a0_2.size : Int) > 2147483647 then (some false) else (if (l0_6.length : Int) > 2147483647 then (some false) else (if (l0_7.length : Int) > 2147483647 then (some false) else (some true))))) = some r := h; clear h
  by_cases c2 : (a0_1.size : Int) > 2147483647
  · rw [if_pos c2] at H
    have c2b0 : decide (2147483647 < (a0_1.size : Int)) = true := decide_eq_true c2
    have c2b1 : decide (2147483647 < a0_1.size) = true := decide_eq_true (by omega)
    clear c2
    as_aux_lemma =>
      obtain rfl := Option.some.inj H
      go_enter Tryz.func30, Tryz.ntmps30
      go_wp2_with (first | ((with_reducible refine gate_dst (N := 1) rfl ?_); refine box_event ?hg (N := 1) ?hd (cs := #[.int .i64 a0_0, .string a0_1, .string a0_2, .int .i64 a0_3, .int .u64 a0_4, .int .u64 a0_5, .slice A0_6 l0_6.length c0_6, .slice A0_7 l0_7.length c0_7]) (t := 44) ?hr ?_; (case hd => rfl); (case hg => rfl); (case hr => first | (go_simp; done) | (go_simp; rfl)); intro gb608 hg w3 hbox hb; have n0_ := Aside0.mk (below_step HW.zb hb); have n1_ := Aside0.mk (hbox); have n3_ := Aside0.mk ((by rw [hg]; exact (below_size HW.zb) : w.heap.size ≤ gb608)); clear HB; have HB := n0_; have BK608 := n1_; have GE608 := n3_; clear n0_ n1_ n3_; clear hb hbox hg; obtain ⟨hcz4_0, hcz4_1, hcz4_2, hcz4_3, hcz4_4, hcz4_5, hcz4_6, hcz4_7⟩ := HW.k8 BK608.out))
      go_ret
      exact ⟨rfl, HW.zb⟩
  rw [if_neg c2] at H; have c2b0 : decide (2147483647 < (a0_1.size : Int)) = false := decide_eq_false c2
  have c2b1 : decide (2147483647 < a0_1.size) = false := decide_eq_false (by omega)
  clear c2
  by_cases c5 : (a0_2.size : Int) > 2147483647
  · rw [if_pos c5] at H
    have c5b0 : decide (2147483647 < (a0_2.size : Int)) = true := decide_eq_true c5
    have c5b1 : decide (2147483647 < a0_2.size) = true := decide_eq_true (by omega)
    clear c5
    as_aux_lemma =>
      obtain rfl := Option.some.inj H
      go_enter Tryz.func30, Tryz.ntmps30
      go_wp2_with (first | ((with_reducible refine gate_dst (N := 1) rfl ?_); refine box_event ?hg (N := 1) ?hd (cs := #[.int .i64 a0_0, .string a0_1, .string a0_2, .int .i64 a0_3, .int .u64 a0_4, .int .u64 a0_5, .slice A0_6 l0_6.length c0_6, .slice A0_7 l0_7.length c0_7]) (t := 44) ?hr ?_; (case hd => rfl); (case hg => rfl); (case hr => first | (go_simp; done) | (go_simp; rfl)); intro gb608 hg w6 hbox hb; have n0_ := Aside0.mk (below_step HW.zb hb); have n1_ := Aside0.mk (hbox); have n3_ := Aside0.mk ((by rw [hg]; exact (below_size HW.zb) : w.heap.size ≤ gb608)); clear HB; have HB := n0_; have BK608 := n1_; have GE608 := n3_; clear n0_ n1_ n3_; clear hb hbox hg; obtain ⟨hcz7_0, hcz7_1, hcz7_2, hcz7_3, hcz7_4, hcz7_5, hcz7_6, hcz7_7⟩ := HW.k8 BK608.out))
      go_ret
      exact ⟨rfl, HW.zb⟩
  rw [if_neg c5] at H; have c5b0 : decide (2147483647 < (a0_2.size : Int)) = false := decide_eq_false c5
  have c5b1 : decide (2147483647 < a0_2.size) = false := decide_eq_false (by omega)
  clear c5
  by_cases c8 : (l0_6.length : Int) > 2147483647
  · rw [if_pos c8] at H
    have c8b0 : decide (2147483647 < (l0_6.length : Int)) = true := decide_eq_true c8
    have c8b1 : decide (2147483647 < l0_6.length) = true := decide_eq_true (by omega)
    clear c8
    as_aux_lemma =>
      obtain rfl := Option.some.inj H
      go_enter Tryz.func30, Tryz.ntmps30
      go_wp2_with (first | ((with_reducible refine gate_dst (N := 1) rfl ?_); refine box_event ?hg (N := 1) ?hd (cs := #[.int .i64 a0_0, .string a0_1, .string a0_2, .int .i64 a0_3, .int .u64 a0_4, .int .u64 a0_5, .slice A0_6 l0_6.length c0_6, .slice A0_7 l0_7.length c0_7]) (t := 44) ?hr ?_; (case hd => rfl); (case hg => rfl); (case hr => first | (go_simp; done) | (go_simp; rfl)); intro gb608 hg w9 hbox hb; have n0_ := Aside0.mk (below_step HW.zb hb); have n1_ := Aside0.mk (hbox); have n3_ := Aside0.mk ((by rw [hg]; exact (below_size HW.zb) : w.heap.size ≤ gb608)); clear HB; have HB := n0_; have BK608 := n1_; have GE608 := n3_; clear n0_ n1_ n3_; clear hb hbox hg; obtain ⟨hcz10_0, hcz10_1, hcz10_2, hcz10_3, hcz10_4, hcz10_5, hcz10_6, hcz10_7⟩ := HW.k8 BK608.out))
      go_ret
      exact ⟨rfl, HW.zb⟩
  rw [if_neg c8] at H; have c8b0 : decide (2147483647 < (l0_6.length : Int)) = false := decide_eq_false c8
  have c8b1 : decide (2147483647 < l0_6.length) = false := decide_eq_false (by omega)
  clear c8
  by_cases c11 : (l0_7.length : Int) > 2147483647
  · rw [if_pos c11] at H
    have c11b0 : decide (2147483647 < (l0_7.length : Int)) = true := decide_eq_true c11
    have c11b1 : decide (2147483647 < l0_7.length) = true := decide_eq_true (by omega)
    clear c11
    as_aux_lemma =>
      obtain rfl := Option.some.inj H
      go_enter Tryz.func30, Tryz.ntmps30
      go_wp2_with (first | ((with_reducible refine gate_dst (N := 1) rfl ?_); refine box_event ?hg (N := 1) ?hd (cs := #[.int .i64 a0_0, .string a0_1, .string a0_2, .int .i64 a0_3, .int .u64 a0_4, .int .u64 a0_5, .slice A0_6 l0_6.length c0_6, .slice A0_7 l0_7.length c0_7]) (t := 44) ?hr ?_; (case hd => rfl); (case hg => rfl); (case hr => first | (go_simp; done) | (go_simp; rfl)); intro gb608 hg w12 hbox hb; have n0_ := Aside0.mk (below_step HW.zb hb); have n1_ := Aside0.mk (hbox); have n3_ := Aside0.mk ((by rw [hg]; exact (below_size HW.zb) : w.heap.size ≤ gb608)); clear HB; have HB := n0_; have BK608 := n1_; have GE608 := n3_; clear n0_ n1_ n3_; clear hb hbox hg; obtain ⟨hcz13_0, hcz13_1, hcz13_2, hcz13_3, hcz13_4, hcz13_5, hcz13_6, hcz13_7⟩ := HW.k8 BK608.out))
      go_ret
      exact ⟨rfl, HW.zb⟩
  rw [if_neg c11] at H; have c11b0 : decide (2147483647 < (l0_7.length : Int)) = false := decide_eq_false c11
  have c11b1 : decide (2147483647 < l0_7.length) = false := decide_eq_false (by omega)
  clear c11
  as_aux_lemma =>
    obtain rfl := Option.some.inj H
    go_enter Tryz.func30, Tryz.ntmps30
    go_wp2_with (first | ((with_reducible refine gate_dst (N := 1) rfl ?_); refine box_event ?hg (N := 1) ?hd (cs := #[.int .i64 a0_0, .string a0_1, .string a0_2, .int .i64 a0_3, .int .u64 a0_4, .int .u64 a0_5, .slice A0_6 l0_6.length c0_6, .slice A0_7 l0_7.length c0_7]) (t := 44) ?hr ?_; (case hd => rfl); (case hg => rfl); (case hr => first | (go_simp; done) | (go_simp; rfl)); intro gb608 hg w14 hbox hb; have n0_ := Aside0.mk (below_step HW.zb hb); have n1_ := Aside0.mk (hbox); have n3_ := Aside0.mk ((by rw [hg]; exact (below_size HW.zb) : w.heap.size ≤ gb608)); clear HB; have HB := n0_; have BK608 := n1_; have GE608 := n3_; clear n0_ n1_ n3_; clear hb hbox hg; obtain ⟨hcz15_0, hcz15_1, hcz15_2, hcz15_3, hcz15_4, hcz15_5, hcz15_6, hcz15_7⟩ := HW.k8 BK608.out))
    go_ret
    exact ⟨rfl, HW.zb⟩
mutual
def laws_docCount.l0 : Nat → Int → Int → Int → Int → ByteArray → ByteArray → Int → Int → Int → List Int → List (S95) → Option (Int)
  | 0, _, _, _, _, _, _, _, _, _, _, _ => none
  | k + 1, x1, x5, x6, x610000, x610001, x610002, x610003, x610004, x610005, x610006, x610007 => if x6 < (x610007.length : Int) then (laws_docCount.j1 k x1 x5 x6 (decide (x5 ≤ x1)) x610000 x610001 x610002 x610003 x610004 x610005 x610006 x610007) else (laws_docCount.j1 k x1 x5 x6 false x610000 x610001 x610002 x610003 x610004 x610005 x610006 x610007)
def laws_docCount.j1 : Nat → Int → Int → Int → Bool → Int → ByteArray → ByteArray → Int → Int → Int → List Int → List (S95) → Option (Int)
  | 0, _, _, _, _, _, _, _, _, _, _, _, _ => none
  | k + 1, x1, x5, x6, x16, x610000, x610001, x610002, x610003, x610004, x610005, x610006, x610007 => if x16 = true then (if 0 ≤ x6 then (if x6 < (x610007.length : Int) then ((laws_docCount.f k ((rd_T95 x610007 x6).f1.f0) ((rd_T95 x610007 x6).f1.f1) ((rd_T95 x610007 x6).f1.f2) ((rd_T95 x610007 x6).f1.f3) ((rd_T95 x610007 x6).f1.f4) ((rd_T95 x610007 x6).f1.f5) ((rd_T95 x610007 x6).f1.f6) ((rd_T95 x610007 x6).f1.f7) (wrap64 (x1 - x5))).bind fun t611 => (laws_docCount.l0 k x1 (wrap64 (x5 + t611)) (wrap64 (x6 + 1)) x610000 x610001 x610002 x610003 x610004 x610005 x610006 x610007)) else (none)) else (none)) else (some x5)
def laws_docCount.f : Nat → Int → ByteArray → ByteArray → Int → Int → Int → List Int → List (S95) → Int → Option (Int)
  | 0, _, _, _, _, _, _, _, _, _ => none
  | k + 1, a0_0, a0_1, a0_2, a0_3, a0_4, a0_5, l0_6, l0_7, a1 => laws_docCount.l0 k a1 1 0 a0_0 a0_1 a0_2 a0_3 a0_4 a0_5 l0_6 l0_7
end
theorem laws_docCount.mono_l : ∀ k, (∀ y0 y1 y2 y3 y4 y5 y6 y7 y8, LeO (laws_docCount.f k y0 y1 y2 y3 y4 y5 y6 y7 y8) (laws_docCount.f (k + 1) y0 y1 y2 y3 y4 y5 y6 y7 y8)) ∧ (∀ y0 y1 y2 y3 y4 y5 y6 y7 y8 y9 y10, LeO (laws_docCount.l0 k y0 y1 y2 y3 y4 y5 y6 y7 y8 y9 y10) (laws_docCount.l0 (k + 1) y0 y1 y2 y3 y4 y5 y6 y7 y8 y9 y10)) ∧ (∀ y0 y1 y2 y3 y4 y5 y6 y7 y8 y9 y10 y11, LeO (laws_docCount.j1 k y0 y1 y2 y3 y4 y5 y6 y7 y8 y9 y10 y11) (laws_docCount.j1 (k + 1) y0 y1 y2 y3 y4 y5 y6 y7 y8 y9 y10 y11))
  | 0 => ⟨fun _ _ _ _ _ _ _ _ _ r h => by simp [laws_docCount.f] at h, fun _ _ _ _ _ _ _ _ _ _ _ r h => by simp [laws_docCount.l0] at h, fun _ _ _ _ _ _ _ _ _ _ _ _ r h => by simp [laws_docCount.j1] at h⟩
  | k + 1 => by
    obtain ⟨ih0, ih1, ih2⟩ := laws_docCount.mono_l k
    refine ⟨?_, ?_, ?_⟩
    · intro y0 y1 y2 y3 y4 y5 y6 y7 y8
      unfold laws_docCount.f
      have m0_ := @ih0; have m1_ := @ih1; have m2_ := @ih2; exact HW.mo
    · intro y0 y1 y2 y3 y4 y5 y6 y7 y8 y9 y10
      unfold laws_docCount.l0
      have m0_ := @ih0; have m1_ := @ih1; have m2_ := @ih2; exact HW.mo
    · intro y0 y1 y2 y3 y4 y5 y6 y7 y8 y9 y10 y11
      unfold laws_docCount.j1
      have m0_ := @ih0; have m1_ := @ih1; have m2_ := @ih2; exact HW.mo
theorem laws_docCount.mono : ∀ a0 a1 a2 a3 a4 a5 a6 a7 a8 k, LeO (laws_docCount.f k a0 a1 a2 a3 a4 a5 a6 a7 a8) (laws_docCount.f (k + 1) a0 a1 a2 a3 a4 a5 a6 a7 a8) := by
  intro a0 a1 a2 a3 a4 a5 a6 a7 a8 k
  obtain ⟨ih0, ih1, ih2⟩ := laws_docCount.mono_l k
  exact ih0 a0 a1 a2 a3 a4 a5 a6 a7 a8
theorem laws_docCount.calls (k : Nat) : ∀ (a0_0 : Int) (a0_1 : ByteArray) (a0_2 : ByteArray) (a0_3 : Int) (a0_4 : Int) (a0_5 : Int) (A0_6 : Option Addr) (c0_6 : Nat) (l0_6 : List Int) (A0_7 : Option Addr) (c0_7 : Nat) (l0_7 : List (S95)) (a1 : Int) (r : Int) (w : World) (hr0_6 : Kd.C (Kd.int .u8) w A0_6 l0_6.length l0_6) (hc0_6 : l0_6.length ≤ c0_6) (hr0_7 : Kd.C k95 w A0_7 l0_7.length l0_7) (hc0_7 : l0_7.length ≤ c0_7) (h : laws_docCount.f k a0_0 a0_1 a0_2 a0_3 a0_4 a0_5 l0_6 l0_7 a1 = some r),
    Calls Tryz.prog 65 #[.agg #[.int .i64 a0_0, .string a0_1, .string a0_2, .int .i64 a0_3, .int .u64 a0_4, .int .u64 a0_5, .slice A0_6 l0_6.length c0_6, .slice A0_7 l0_7.length c0_7], .int .i64 a1] w fun e w' => e = .returned (.int .i64 r) ∧ Below w.heap.size w w' := by
  induction k using Nat.strongRecOn with
  | _ k ih =>
  intro a0_0 a0_1 a0_2 a0_3 a0_4 a0_5 A0_6 c0_6 l0_6 A0_7 c0_7 l0_7 a1 r w hr0_6 hc0_6 hr0_7 hc0_7 h
  cases k with
  | zero => exact absurd h (by simp [laws_docCount.f])
  | succ k =>
  simp only [laws_docCount.f] at h
  have hu44 := Tryz.underlying44; have HR0_6 := Aside0.mk hr0_6; have HC0_6 := Aside0.mk hc0_6; clear hr0_6 hc0_6; have HR0_7 := Aside0.mk hr0_7; have HC0_7 := Aside0.mk hc0_7; clear hr0_7 hc0_7; have HB := Aside0.mk (Below.refl w.heap.size w); have H : (laws_docCount.l0 k a1 1 0 a0_0 a0_1 a0_2 a0_3 a0_4 a0_5 l0_6 l0_7) = some r := h; clear h; have H' := Aside0.mk H; clear H
  go_enter Tryz.func65, Tryz.ntmps65
  go_wp2_with (first | ((with_reducible refine gate_dst (N := 2) rfl ?_); refine box_event ?hg (N := 2) ?hd (cs := #[.int .i64 a0_0, .string a0_1, .string a0_2, .int .i64 a0_3, .int .u64 a0_4, .int .u64 a0_5, .slice A0_6 l0_6.length c0_6, .slice A0_7 l0_7.length c0_7]) (t := 44) ?hr ?_; (case hd => rfl); (case hg => rfl); (case hr => first | (go_simp; done) | (go_simp; rfl)); intro gb609 hg w3 hbox hb; have n0_ := Aside0.mk (below_step HW.zb hb); have n1_ := Aside0.mk (hbox); have n3_ := Aside0.mk ((by rw [hg]; exact (below_size HW.zb) : w.heap.size ≤ gb609)); clear HB; have HB := n0_; have BK609 := n1_; have GE609 := n3_; clear n0_ n1_ n3_; clear hb hbox hg))
  go_loopg [5, 6] k (fun kq v5 v6 w' => ∃ (x5_1 : Int) (x6_1 : Int), v5 = .int .i64 x5_1 ∧ v6 = .int .i64 x6_1 ∧ Aside0 (laws_docCount.l0 kq a1 x5_1 x6_1 a0_0 a0_1 a0_2 a0_3 a0_4 a0_5 l0_6 l0_7 = some r) ∧ Aside0 (kq ≤ k) ∧ Aside0 (w'.heap[gb609]? = some (.cells #[.int .i64 a0_0, .string a0_1, .string a0_2, .int .i64 a0_3, .int .u64 a0_4, .int .u64 a0_5, (.slice A0_6 l0_6.length c0_6), (.slice A0_7 l0_7.length c0_7)] 44 (0, 0))) ∧ Aside0 (Below w.heap.size w w'))
  case atStart => exact ⟨(1), (0), (by first | rfl | (simp; done) | (simp [*]; done)), HW.rs, H', ⟨Nat.le_refl _⟩, ⟨by (with_reducible repeat (first | refine blk_drewN ?_ _ | refine blk_drew ?_ | refine blk_alloc ?_ _)); exact BK609.out⟩, ⟨HW.zb⟩⟩
  case round =>
    clear H'
    (try clear p2)
    obtain ⟨x5_1, x6_1, rfl, rfl, HA, HK1, BK609, HB⟩ := hrel
    cases gk with
    | zero => exact absurd HA.out (by simp [laws_docCount.l0])
    | succ k1 =>
      have H := HA.out; clear HA
      simp only [laws_docCount.l0] at H
      have HC4 := Aside0.mk H; clear H
      go_upto_region 3 with (fail)
      go_cut [16] (fun v16 wc => ∃ (kq : Nat) (x16_3 : Bool), v16 = .bool x16_3 ∧ Aside0 (laws_docCount.j1 kq a1 x5_1 x6_1 x16_3 a0_0 a0_1 a0_2 a0_3 a0_4 a0_5 l0_6 l0_7 = some r) ∧ Aside0 (kq ≤ k1) ∧ Aside0 (wc.heap[gb609]? = some (.cells #[.int .i64 a0_0, .string a0_1, .string a0_2, .int .i64 a0_3, .int .u64 a0_4, .int .u64 a0_5, (.slice A0_6 l0_6.length c0_6), (.slice A0_7 l0_7.length c0_7)] 44 (0, 0))) ∧ Aside0 (Below w.heap.size w wc))
      case first =>
        have H := HC4.out; clear HC4
        by_cases c5 : x6_1 < (l0_7.length : Int)
        · rw [if_pos c5] at H
          have c5b0 : decide (x6_1 < (l0_7.length : Int)) = true := decide_eq_true c5; clear c5
          (first | rw [c5b0] | (simp only [i64_w, i32_w]; rw [c5b0]) | skip)
          as_aux_lemma =>
            have H' := Aside0.mk H; clear H; obtain ⟨hcz6_0, hcz6_1, hcz6_2, hcz6_3, hcz6_4, hcz6_5, hcz6_6, hcz6_7⟩ := HW.k8 BK609.out
            go_wp2
            go_meet
            case rel => exact ⟨_, (decide (x5_1 ≤ a1)), HW.rs, H', ⟨by have := HK1.out; first | omega | exact Nat.le_refl _⟩, ⟨by (with_reducible repeat (first | refine blk_drewN ?_ _ | refine blk_drew ?_ | refine blk_alloc ?_ _)); exact BK609.out⟩, ⟨HW.zb⟩⟩
        rw [if_neg c5] at H; have c5b0 : decide (x6_1 < (l0_7.length : Int)) = false := decide_eq_false c5; clear c5
        (first | rw [c5b0] | (simp only [i64_w, i32_w]; rw [c5b0]) | skip)
        as_aux_lemma =>
          have H' := Aside0.mk H; clear H; obtain ⟨hcz7_0, hcz7_1, hcz7_2, hcz7_3, hcz7_4, hcz7_5, hcz7_6, hcz7_7⟩ := HW.k8 BK609.out
          go_wp2
          go_meet
          case rel => exact ⟨_, (false), HW.rs, H', ⟨by have := HK1.out; first | omega | exact Nat.le_refl _⟩, ⟨by (with_reducible repeat (first | refine blk_drewN ?_ _ | refine blk_drew ?_ | refine blk_alloc ?_ _)); exact BK609.out⟩, ⟨HW.zb⟩⟩
      case rest =>
        clear HC4
        (try clear p2); (try clear c5); (try clear c5b0); (try clear c6); (try clear hcz6_0 hcz6_1 hcz6_2 hcz6_3 hcz6_4 hcz6_5 hcz6_6 hcz6_7); (try clear hcz7_0 hcz7_1 hcz7_2 hcz7_3 hcz7_4 hcz7_5 hcz7_6 hcz7_7); (try clear p2)
        obtain ⟨kq, x16_3, rfl, HA, HJ3, BK609, HB⟩ := hcut
        cases kq with
        | zero => exact absurd HA.out (by simp [laws_docCount.j1])
        | succ kj3 =>
          have H := HA.out; clear HA
          simp only [laws_docCount.j1] at H
          by_cases c8 : x16_3 = true
          rotate_left
          · replace c8 := Bool.eq_false_iff.mpr c8
            subst c8
            have H1 : (some x5_1) = some r := by rw [if_neg (show ¬ (false = true) by decide)] at H; exact H
            clear H; have H := H1; clear H1
            as_aux_lemma =>
              obtain rfl := Option.some.inj H
              go_wp2
              go_ret
              exact ⟨rfl, HW.zb⟩
          subst c8
          have H1 : (if 0 ≤ x6_1 then (if x6_1 < (l0_7.length : Int) then ((laws_docCount.f kj3 ((rd_T95 l0_7 x6_1).f1.f0) ((rd_T95 l0_7 x6_1).f1.f1) ((rd_T95 l0_7 x6_1).f1.f2) ((rd_T95 l0_7 x6_1).f1.f3) ((rd_T95 l0_7 x6_1).f1.f4) ((rd_T95 l0_7 x6_1).f1.f5) ((rd_T95 l0_7 x6_1).f1.f6) ((rd_T95 l0_7 x6_1).f1.f7) (wrap64 (a1 - x5_1))).bind fun t611 => (laws_docCount.l0 kj3 a1 (wrap64 (x5_1 + t611)) (wrap64 (x6_1 + 1)) a0_0 a0_1 a0_2 a0_3 a0_4 a0_5 l0_6 l0_7)) else (none)) else (none)) = some r := by rw [if_pos rfl] at H; exact H
          clear H; have H := H1; clear H1
          by_cases c9 : 0 ≤ x6_1
          rotate_left
          · rw [if_neg c9] at H
            exact absurd H (by simp)
          rw [if_pos c9] at H; have c9b0 : decide (0 ≤ x6_1) = true := decide_eq_true c9; clear c9
          by_cases c10 : x6_1 < (l0_7.length : Int)
          rotate_left
          · rw [if_neg c10] at H
            exact absurd H (by simp)
          rw [if_pos c10] at H; have c10b0 : decide (x6_1 < (l0_7.length : Int)) = true := decide_eq_true c10; clear c10; replace H := Option.bind_eq_some_iff.mp H; obtain ⟨t611, A110, H⟩ := H; replace H : (laws_docCount.l0 kj3 a1 (wrap64 (x5_1 + t611)) (wrap64 (x6_1 + 1)) a0_0 a0_1 a0_2 a0_3 a0_4 a0_5 l0_6 l0_7) = some r := H; have A11 := Aside0.mk A110; clear A110
          as_aux_lemma =>
            have H' := Aside0.mk H; clear H; obtain ⟨hcz12_0, hcz12_1, hcz12_2, hcz12_3, hcz12_4, hcz12_5, hcz12_6, hcz12_7⟩ := HW.k8 BK609.out
            have p610 : 0 ≤ (x6_1 : Int) := HW.od
            have q610 : x6_1 < (l0_7.length : Int) := HW.od
            obtain ⟨ad610, A610_7, c610_7, A610_8, c610_8, e610, hx610_0, hx610_1, hx610_2, hx610_3, hx610_4, hx610_5, hx610_6, hx610_7, hx610_8, hl610_7, hi610_7, hl610_8, hi610_8⟩ := at_T95 HR0_7.out x6_1 p610 q610
            cases e610
            replace hx610_0 := (HB.out.cell (World.block_lt_of_cell? w _ hx610_0)).trans hx610_0; replace hx610_1 := (HB.out.cell (World.block_lt_of_cell? w _ hx610_1)).trans hx610_1; replace hx610_2 := (HB.out.cell (World.block_lt_of_cell? w _ hx610_2)).trans hx610_2; replace hx610_3 := (HB.out.cell (World.block_lt_of_cell? w _ hx610_3)).trans hx610_3; replace hx610_4 := (HB.out.cell (World.block_lt_of_cell? w _ hx610_4)).trans hx610_4; replace hx610_5 := (HB.out.cell (World.block_lt_of_cell? w _ hx610_5)).trans hx610_5; replace hx610_6 := (HB.out.cell (World.block_lt_of_cell? w _ hx610_6)).trans hx610_6; replace hx610_7 := (HB.out.cell (World.block_lt_of_cell? w _ hx610_7)).trans hx610_7; replace hx610_8 := (HB.out.cell (World.block_lt_of_cell? w _ hx610_8)).trans hx610_8; have HR610_7 := Aside0.mk hi610_7; have HC610_7 := Aside0.mk hl610_7; clear hi610_7 hl610_7; have HR610_8 := Aside0.mk hi610_8; have HC610_8 := Aside0.mk hl610_8; clear hi610_8 hl610_8; replace p610 := eq_true p610; replace q610 := eq_true q610
            go_wp2_with (first | ((with_reducible refine gate_callee (f := 65) rfl ?_); refine HW.gz (some 29) rfl rfl Tryz.func65 (by kernel_rfl) rfl #[.agg #[.int .i64 ((rd_T95 l0_7 x6_1).f1.f0), .string ((rd_T95 l0_7 x6_1).f1.f1), .string ((rd_T95 l0_7 x6_1).f1.f2), .int .i64 ((rd_T95 l0_7 x6_1).f1.f3), .int .u64 ((rd_T95 l0_7 x6_1).f1.f4), .int .u64 ((rd_T95 l0_7 x6_1).f1.f5), .slice A610_7 ((rd_T95 l0_7 x6_1).f1.f6).length c610_7, .slice A610_8 ((rd_T95 l0_7 x6_1).f1.f7).length c610_8], .int .i64 (wrap64 (a1 - x5_1))] rfl ?_; (with_reducible refine (ih kj3 (by have := HK1.out; have := HJ3.out; omega) ((rd_T95 l0_7 x6_1).f1.f0) ((rd_T95 l0_7 x6_1).f1.f1) ((rd_T95 l0_7 x6_1).f1.f2) ((rd_T95 l0_7 x6_1).f1.f3) ((rd_T95 l0_7 x6_1).f1.f4) ((rd_T95 l0_7 x6_1).f1.f5) _ _ ((rd_T95 l0_7 x6_1).f1.f6) _ _ ((rd_T95 l0_7 x6_1).f1.f7) (wrap64 (a1 - x5_1)) t611 _ ?side1 ?side2 ?side3 ?side4 A11.out).mono ?_); (case side1 => repeat (first | exact (Kd.C_below HR610_7.out HB.out) | (with_reducible refine Kd.C_alloc ?_ _) | (with_reducible refine Kd.C_drewN ?_ _) | (with_reducible refine Kd.C_drew ?_))); (case side2 => exact HC610_7.out); (case side3 => repeat (first | exact (Kd.C_below HR610_8.out HB.out) | (with_reducible refine Kd.C_alloc ?_ _) | (with_reducible refine Kd.C_drewN ?_ _) | (with_reducible refine Kd.C_drew ?_))); (case side4 => exact HC610_8.out); rintro e w13 ⟨rfl, hb⟩; refine ⟨_, rfl, ?_⟩; replace BK609 := Aside0.mk (blk_below (HW.zB BK609.out) hb); replace HB := Aside0.mk (below_step HW.zb hb); (try clear hb)))
            go_roundg kj3
            case measure => have := HK1.out; have := HJ3.out; omega
            case rel => exact ⟨(wrap64 (x5_1 + t611)), (wrap64 (x6_1 + 1)), (by first | rfl | (simp; done) | (simp [*]; done)), HW.rs, H', ⟨by have := HK1.out; have := HJ3.out; omega⟩, ⟨by (with_reducible repeat (first | refine blk_drewN ?_ _ | refine blk_drew ?_ | refine blk_alloc ?_ _)); exact BK609.out⟩, ⟨HW.zb⟩⟩
end Go.Proofs.YtanecebppagakaaGreatDoor.PRx
