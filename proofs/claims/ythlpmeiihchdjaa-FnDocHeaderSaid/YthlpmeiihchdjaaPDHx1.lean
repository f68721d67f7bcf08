/- Printed by a program of this session (a turned copy of the printer of the kit): contracts of functions of the translation, each with the Lean function that it computes. Conditions: as each theorem states them. -/
import Derived.Test.YthlpmeiihchdjaaPDHx0
namespace Go.Proofs.Ythlpmeiihchdjaa.PDH
open Go.RowKit Go.Proofs.YthlpmeiihchdjaaW.PrintWords Go.Proofs.YthlpmeiihchdjaaW.PrintLast Go.Proofs.YthlpmeiihchdjaaW.PrintMore
attribute [local go_sem] max2_int min2_int max_two min_two max_three min_three max_four min_four   -- for this text's walks alone
set_option linter.unusedVariables false
set_option linter.unusedSimpArgs false

/-! ### laws_docCopy: function 12 -/
def laws_docCopy.f (l0 : List Int) : Option (List Int) := (some (([] : List Int) : List Int)).bind fun y101 => (if y101.length + l0.length < 140737488355328 then (some (y101 ++ l0)) else (none))
set_option maxHeartbeats 8000000 in
set_option maxRecDepth 100000 in
theorem laws_docCopy.calls (A0 : Option Addr) (c0 : Nat) (l0 : List Int) (r : List Int) (w : World) (hr0 : Kd.C (Kd.int .u8) w A0 l0.length l0) (hc0 : l0.length ≤ c0) (h : laws_docCopy.f l0 = some r) :
    Calls Try.prog 12 #[.slice A0 l0.length c0] w fun e w' => ∃ v0_ : Value, e = .returned (v0_) ∧ Kd.R (Kd.int .u8) 5 w' w.heap.size (fun _ => True) v0_ r ∧ Below w.heap.size w w' := by
  have HR0 := Aside0.mk hr0
  have HC0 := Aside0.mk hc0
  clear hr0 hc0
  have HB := Aside0.mk (Below.refl w.heap.size w)
  have H : ((some (([] : List Int) : List Int)).bind fun y101 => (if y101.length + l0.length < 140737488355328 then (some (y101 ++ l0)) else (none))) = some r := h
  clear h
  obtain ⟨y101, hy101⟩ : ∃ y_ : List Int, y_ = (([] : List Int)) := ⟨_, rfl⟩
  replace H : (if y101.length + l0.length < 140737488355328 then (some (y101 ++ l0)) else (none)) = some r := by first | (rw [hy101]; with_reducible exact H) | (have H2_ := (Option.bind_some _ _).symm.trans H; rw [hy101]; with_reducible exact H2_) | (have H2_ := (Option.bind_some _ _).symm.trans H; with_reducible exact H2_) | with_reducible exact H | (rw [hy101]; exact H) | exact H
  have Ny101 := Aside0.mk hy101
  clear hy101
  by_cases c2 : y101.length + l0.length < 140737488355328
  · rw [if_pos c2] at H
    have LMc2 := Aside0.mk c2
    clear c2
    obtain ⟨y104, hy104⟩ : ∃ y_ : List Int, y_ = (y101 ++ l0) := ⟨_, rfl⟩
    replace H : (some y104) = some r := by first | (rw [hy104]; with_reducible exact H) | (have H2_ := (Option.bind_some _ _).symm.trans H; rw [hy104]; with_reducible exact H2_) | (have H2_ := (Option.bind_some _ _).symm.trans H; with_reducible exact H2_) | with_reducible exact H | (rw [hy104]; exact H) | exact H
    have Ny104 := Aside0.mk hy104
    clear hy104
    as_aux_lemma =>
      obtain rfl := Option.some.inj H
      go_enter Try.func12, Try.ntmps12
      go_wp2_with (first | ((with_reducible refine gate_dst (N := 3) rfl ?_); refine Kd.R_lit (Kd.int .u8) _ 5 ?hg (N := 3) ?hd (xs := ([] : List Int)) (inner := []) (ok := fun _ => True) (okp := fun _ => True) ?hr ?hp (fun _ hk => hk) trivial (Below.refl _ _) (Nat.le_refl _) (by simp) ?_; (case hd => rfl); (case hg => rfl); (case hr => first | (go_simp; done) | (go_simp; rfl)); (case hp => exact (Reps.none _ _)); intro v102 w3 ho4 hb hg_ hnew_; clear hg_ hnew_; (first | rw [← Ny101.out] at ho4 | (simp only [Int.reduceToNat] at ho4; rw [← Ny101.out] at ho4)); have n0_ := Aside0.mk (Kd.R_lower ho4 (below_size (by repeat (first | (with_reducible first | exact HB.out | apply below_alloc | apply pw_below_drewN | apply below_drew1) | exact HB.out)))); have n1_ := Aside0.mk (below_step (by repeat (first | (with_reducible first | exact HB.out | apply below_alloc | apply pw_below_drewN | apply below_drew1) | exact HB.out)) hb); clear HB; have HO103 := n0_; have HB := n1_; clear n0_ n1_; clear hb ho4) | ((with_reducible refine gate_builtin (b := .append) (xs := #[.tmp 3, .tmp 4]) rfl ?_); at_builtin; refine Kd.R_append_rows (Kd.int .u8) (w0 := w) w.heap.size rfl (.tmp 3) (.tmp 4) 24 5 (.int .u8 0) 1 rfl Try.underlying24 info5 rfl (by decide) (by omega) v102 y101 l0 _ _ _ (fun _ => True) (fun _ => False) rfl rfl ?aO ?aR (fun _ _ h => h) (fun _ h => h.elim) ?aF ?aB ?aS ?aL ?_; (case aR => repeat (first | exact (Kd.C_below HR0.out HB.out) | (with_reducible refine Kd.C_alloc ?_ _) | (with_reducible refine Kd.C_drewN ?_ _) | (with_reducible refine Kd.C_drew ?_))); (case aB => exact (by repeat (first | (with_reducible first | exact HB.out | apply below_alloc | apply pw_below_drewN | apply below_drew1) | exact HB.out))); (case aF => exact (fun _ _ => trivial)); (case aO => exact (by (with_reducible repeat (first | apply Kd.R_alloc | apply Kd.R_drewN | apply Kd.R_drew)); exact HO103.out)); (case aS => exact (below_size (by repeat (first | (with_reducible first | exact HB.out | apply below_alloc | apply pw_below_drewN | apply below_drew1) | exact HB.out)))); (case aL => have := LMc2.out; omega); intro v105 w5 ho hb hg hat; rw [← Ny104.out] at ho; have n0_ := Aside0.mk (hb); have n1_ := Aside0.mk (ho); clear HB; clear HO103; have HB := n0_; have HO106 := n1_; clear n0_ n1_; clear ho hb hg hat))
      go_ret
      exact ⟨_, by first | rfl | (simp [errW_none, errW_some] <;> rfl) | (simp [*, errW_none, errW_some] <;> rfl), by (with_reducible repeat (first | apply Kd.R_alloc | apply Kd.R_drewN | apply Kd.R_drew)); exact HO106.out, by repeat (first | (with_reducible first | exact HB.out | apply below_alloc | apply pw_below_drewN | apply below_drew1) | exact HB.out)⟩
  · rw [if_neg c2] at H
    exact absurd H (by simp)

/-! ### spec_DocPlain: function 18 -/
def spec_DocPlain.l0 : Nat → ByteArray → Int → Option (Bool)
  | 0, _, _ => none
  | k + 1, x0, x3 => if x3 < (x0.size : Int) then (if 0 ≤ x3 then (if (bt x0 x3) = 0 then (some false) else (spec_DocPlain.l0 k x0 (wrap64 (x3 + 1)))) else (none)) else (some true)
def spec_DocPlain.f (k : Nat) (a0 : ByteArray) : Option (Bool) := spec_DocPlain.l0 k a0 0
theorem spec_DocPlain.mono_l : ∀ k, (∀ y0 y1, LeO (spec_DocPlain.l0 k y0 y1) (spec_DocPlain.l0 (k + 1) y0 y1))
  | 0 => fun _ _ r h => by simp [spec_DocPlain.l0] at h
  | k + 1 => by
    have ih0 := spec_DocPlain.mono_l k
    · intro y0 y1
      unfold spec_DocPlain.l0
      repeat' first
      | (with_reducible exact ih0 _ _)
      | (with_reducible exact LeO.refl _)
      | (with_reducible exact LeO.none _)
      | (with_reducible refine LeO.ite ?_ ?_)
      | (with_reducible refine LeO.bind ?_ (fun _ => ?_))
      | exact ih0 _ _
      | exact LeO.none _
      | refine LeO.ite ?_ ?_
      | refine LeO.bind ?_ (fun _ => ?_)
theorem spec_DocPlain.mono : ∀ a0 k, LeO (spec_DocPlain.f k a0) (spec_DocPlain.f (k + 1) a0) := by
  intro a0 k
  have ih0 := spec_DocPlain.mono_l k
  unfold spec_DocPlain.f
  repeat' first
      | (with_reducible exact ih0 _ _)
      | (with_reducible exact LeO.refl _)
      | (with_reducible exact LeO.none _)
      | (with_reducible refine LeO.ite ?_ ?_)
      | (with_reducible refine LeO.bind ?_ (fun _ => ?_))
      | exact ih0 _ _
      | exact LeO.none _
      | refine LeO.ite ?_ ?_
      | refine LeO.bind ?_ (fun _ => ?_)
set_option maxHeartbeats 8000000 in
set_option maxRecDepth 100000 in
theorem spec_DocPlain.calls (k : Nat) (a0 : ByteArray) (r : Bool) (w : World) (h : spec_DocPlain.f k a0 = some r) :
    Calls Try.prog 18 #[.string a0] w fun e w' => e = .returned (.bool r) ∧ Drawn0 w w' := by
  have H : (spec_DocPlain.l0 k a0 0) = some r := h
  clear h
  have H' := Aside0.mk H
  clear H
  go_enter Try.func18, Try.ntmps18
  go_wp2
  go_loopg [3] k (fun kq v3 w' => ∃ (x3_1 : Int), v3 = .int .i64 x3_1 ∧ Aside0 (spec_DocPlain.l0 kq a0 x3_1 = some r) ∧ Aside0 (kq ≤ k) ∧ Drawn0 w w')
  case atStart => exact ⟨(0), (by first | rfl | (simp; done) | (simp [*]; done)), H', ⟨Nat.le_refl _⟩, by repeat (first | exact Drawn0.refl _ | apply Drawn0.step)⟩
  case round =>
    clear H'
    try clear c1
    obtain ⟨x3_1, rfl, HA, HK1, ⟨m1, rfl⟩⟩ := hrel
    cases gk with
    | zero => exact absurd HA.out (by simp [spec_DocPlain.l0])
    | succ k1 =>
      have H := HA.out
      clear HA
      simp only [spec_DocPlain.l0] at H
      by_cases c2 : x3_1 < (a0.size : Int)
      · rw [if_pos c2] at H
        have c2b0 : decide (x3_1 < (a0.size : Int)) = true := decide_eq_true c2
        clear c2
        by_cases c3 : 0 ≤ x3_1
        · rw [if_pos c3] at H
          have c3b0 : decide (0 ≤ x3_1) = true := decide_eq_true c3
          clear c3
          by_cases c5 : (bt a0 x3_1) = 0
          · rw [if_pos c5] at H
            have c5b0 : ((bt a0 x3_1) == 0) = true := beq_iff_eq.mpr c5
            have c5b1 : ((bt a0 x3_1) != 0) = false := bne_eq_false_iff_eq.mpr c5
            clear c5
            as_aux_lemma =>
              obtain rfl := Option.some.inj H
              have p4 : 0 ≤ (x3_1 : Int) := of_decide_eq_true (by first | (with_reducible assumption) | assumption)
              have q4 : x3_1 < (a0.size : Int) := of_decide_eq_true (by first | (with_reducible assumption) | assumption)
              have hx4 := bt_at a0 x3_1
              replace p4 := eq_true p4
              replace q4 := eq_true q4
              go_wp2
              go_ret
              exact ⟨by first | rfl | (simp; done) | (simp [*]; done), by repeat (first | exact Drawn0.refl _ | apply Drawn0.step)⟩
          · rw [if_neg c5] at H
            have c5b0 : ((bt a0 x3_1) == 0) = false := beq_eq_false_iff_ne.mpr c5
            have c5b1 : ((bt a0 x3_1) != 0) = true := bne_iff_ne.mpr c5
            as_aux_lemma =>
              have H' := Aside0.mk H
              clear H
              have p4 : 0 ≤ (x3_1 : Int) := of_decide_eq_true (by first | (with_reducible assumption) | assumption)
              have q4 : x3_1 < (a0.size : Int) := of_decide_eq_true (by first | (with_reducible assumption) | assumption)
              have hx4 := bt_at a0 x3_1
              replace p4 := eq_true p4
              replace q4 := eq_true q4
              go_wp2
              go_roundg k1
              case measure => have := HK1.out; omega
              case rel => exact ⟨(wrap64 (x3_1 + 1)), (by first | rfl | (simp; done) | (simp [*]; done)), H', ⟨by have := HK1.out; omega⟩, by repeat (first | exact Drawn0.refl _ | apply Drawn0.step)⟩
        · rw [if_neg c3] at H
          exact absurd H (by simp)
      · rw [if_neg c2] at H
        have c2b0 : decide (x3_1 < (a0.size : Int)) = false := decide_eq_false c2
        clear c2
        as_aux_lemma =>
          obtain rfl := Option.some.inj H
          go_wp2
          go_ret
          exact ⟨by first | rfl | (simp; done) | (simp [*]; done), by repeat (first | exact Drawn0.refl _ | apply Drawn0.step)⟩

/-! ### spec_DocHead: function 22 -/
def spec_DocHead.f (a0 : Int) (a1 : ByteArray) : Option (List Int) := (some (([(a0) % 256] : List Int) : List Int)).bind fun y107 => (if y107.length + a1.size < 140737488355328 then ((some (y107 ++ bytesOf a1 : List Int)).bind fun y110 => (if y110.length < 140737488355328 then (some (y110 ++ [0])) else (none))) else (none))
set_option maxHeartbeats 8000000 in
set_option maxRecDepth 100000 in
theorem spec_DocHead.calls (a0 : Int) (a1 : ByteArray) (r : List Int) (w : World) (h : spec_DocHead.f a0 a1 = some r) :
    Calls Try.prog 22 #[.int .i64 a0, .string a1] w fun e w' => ∃ v0_ : Value, e = .returned (v0_) ∧ Kd.R (Kd.int .u8) 5 w' w.heap.size (fun _ => True) v0_ r ∧ Below w.heap.size w w' := by
  have HB := Aside0.mk (Below.refl w.heap.size w)
  have H : ((some (([(a0) % 256] : List Int) : List Int)).bind fun y107 => (if y107.length + a1.size < 140737488355328 then ((some (y107 ++ bytesOf a1 : List Int)).bind fun y110 => (if y110.length < 140737488355328 then (some (y110 ++ [0])) else (none))) else (none))) = some r := h
  clear h
  obtain ⟨y107, hy107⟩ : ∃ y_ : List Int, y_ = (([(a0) % 256] : List Int)) := ⟨_, rfl⟩
  replace H : (if y107.length + a1.size < 140737488355328 then ((some (y107 ++ bytesOf a1 : List Int)).bind fun y110 => (if y110.length < 140737488355328 then (some (y110 ++ [0])) else (none))) else (none)) = some r := by first | (rw [hy107]; with_reducible exact H) | (have H2_ := (Option.bind_some _ _).symm.trans H; rw [hy107]; with_reducible exact H2_) | (have H2_ := (Option.bind_some _ _).symm.trans H; with_reducible exact H2_) | with_reducible exact H | (rw [hy107]; exact H) | exact H
  have Ny107 := Aside0.mk hy107
  clear hy107
  by_cases c3 : y107.length + a1.size < 140737488355328
  · rw [if_pos c3] at H
    have LMc3 := Aside0.mk c3
    clear c3
    obtain ⟨y110, hy110⟩ : ∃ y_ : List Int, y_ = (y107 ++ bytesOf a1) := ⟨_, rfl⟩
    replace H : (if y110.length < 140737488355328 then (some (y110 ++ [0])) else (none)) = some r := by first | (rw [hy110]; with_reducible exact H) | (have H2_ := (Option.bind_some _ _).symm.trans H; rw [hy110]; with_reducible exact H2_) | (have H2_ := (Option.bind_some _ _).symm.trans H; with_reducible exact H2_) | with_reducible exact H | (rw [hy110]; exact H) | exact H
    have Ny110 := Aside0.mk hy110
    clear hy110
    by_cases c4 : y110.length < 140737488355328
    · rw [if_pos c4] at H
      have LMc4 := Aside0.mk c4
      clear c4
      obtain ⟨y113, hy113⟩ : ∃ y_ : List Int, y_ = (y110 ++ [0]) := ⟨_, rfl⟩
      replace H : (some y113) = some r := by first | (rw [hy113]; with_reducible exact H) | (have H2_ := (Option.bind_some _ _).symm.trans H; rw [hy113]; with_reducible exact H2_) | (have H2_ := (Option.bind_some _ _).symm.trans H; with_reducible exact H2_) | with_reducible exact H | (rw [hy113]; exact H) | exact H
      have Ny113 := Aside0.mk hy113
      clear hy113
      as_aux_lemma =>
        obtain rfl := Option.some.inj H
        go_enter Try.func22, Try.ntmps22
        go_wp2_with (first | ((with_reducible refine gate_dst (N := 8) rfl ?_); refine Kd.R_lit (Kd.int .u8) _ 5 ?hg (N := 8) ?hd (xs := ([(a0) % 256] : List Int)) (inner := [.int .u8 ((a0) % 256)]) (ok := fun _ => True) (okp := fun _ => True) ?hr ?hp (fun _ hk => hk) trivial (Below.refl _ _) (Nat.le_refl _) (by simp) ?_; (case hd => rfl); (case hg => rfl); (case hr => first | (go_simp; done) | (go_simp; rfl)); (case hp => exact (Reps.one (show Kd.M (Kd.int .u8) _ _ _ ((a0) % 256) [.int .u8 ((a0) % 256)] from rfl) (Reps.none _ _))); intro v108 w5 ho6 hb hg_ hnew_; clear hg_ hnew_; (first | rw [← Ny107.out] at ho6 | (simp only [Int.reduceToNat] at ho6; rw [← Ny107.out] at ho6)); have n0_ := Aside0.mk (Kd.R_lower ho6 (below_size (by repeat (first | (with_reducible first | exact HB.out | apply below_alloc | apply pw_below_drewN | apply below_drew1) | exact HB.out)))); have n1_ := Aside0.mk (below_step (by repeat (first | (with_reducible first | exact HB.out | apply below_alloc | apply pw_below_drewN | apply below_drew1) | exact HB.out)) hb); clear HB; have HO109 := n0_; have HB := n1_; clear n0_ n1_; clear hb ho6) | (at_builtin; refine HW.R_append_str (w0 := w) w.heap.size rfl (.tmp 8) _ 24 9 5 rfl Try.underlying24 Try.underlying9 info5 v108 y107 a1 (fun _ => True) rfl rfl ?aO ?aF ?aB ?aS ?aL ?_; (case aB => exact (by repeat (first | (with_reducible first | exact HB.out | apply below_alloc | apply pw_below_drewN | apply below_drew1) | exact HB.out))); (case aF => exact (fun _ _ => trivial)); (case aO => exact (by (with_reducible repeat (first | apply Kd.R_alloc | apply Kd.R_drewN | apply Kd.R_drew)); exact HO109.out)); (case aS => exact (below_size (by repeat (first | (with_reducible first | exact HB.out | apply below_alloc | apply pw_below_drewN | apply below_drew1) | exact HB.out)))); (case aL => have := LMc3.out; omega); intro v111 w7 ho hb hg hat; rw [← Ny110.out] at ho; have n0_ := Aside0.mk (hb); have n1_ := Aside0.mk (ho); clear HB; clear HO109; have HB := n0_; have HO112 := n1_; clear n0_ n1_; clear ho hb hg hat) | ((with_reducible refine gate_builtin (b := .append) (xs := #[.tmp 11, .tmp 12]) rfl ?_); at_builtin; refine Kd.R_append (Kd.int .u8) (w0 := w) w.heap.size rfl (.tmp 11) (.tmp 12) 24 5 (.int .u8 0) 1 rfl Try.underlying24 info5 rfl (by decide) (by omega) v111 y110 0 [.int .u8 0] (fun _ => True) (fun _ => False) rfl rfl ?aP (fun _ hk => hk.elim) ?aF ?aO ?aB ?aS ?aL ?_; (case aP => exact rfl); (case aB => exact (by repeat (first | (with_reducible first | exact HB.out | apply below_alloc | apply pw_below_drewN | apply below_drew1) | exact HB.out))); (case aF => exact (fun _ _ => trivial)); (case aO => exact (by (with_reducible repeat (first | apply Kd.R_alloc | apply Kd.R_drewN | apply Kd.R_drew)); exact HO112.out)); (case aS => exact (below_size (by repeat (first | (with_reducible first | exact HB.out | apply below_alloc | apply pw_below_drewN | apply below_drew1) | exact HB.out)))); (case aL => have := LMc4.out; omega); intro v114 w8 ho hb hg hat; rw [← Ny113.out] at ho; have n0_ := Aside0.mk (hb); have n1_ := Aside0.mk (ho); clear HB; clear HO112; have HB := n0_; have HO115 := n1_; clear n0_ n1_; clear ho hb hg hat))
        go_ret
        exact ⟨_, by first | rfl | (simp [errW_none, errW_some] <;> rfl) | (simp [*, errW_none, errW_some] <;> rfl), by (with_reducible repeat (first | apply Kd.R_alloc | apply Kd.R_drewN | apply Kd.R_drew)); exact HO115.out, by repeat (first | (with_reducible first | exact HB.out | apply below_alloc | apply pw_below_drewN | apply below_drew1) | exact HB.out)⟩
    · rw [if_neg c4] at H
      exact absurd H (by simp)
  · rw [if_neg c3] at H
    exact absurd H (by simp)

/-! ### impl_own: function 38 -/
def impl_own.f (l0 : List Int) : Option (List Int) := if ([] : List Int).length + l0.length < 140737488355328 then (some (([] : List Int) ++ l0)) else (none)
set_option maxHeartbeats 8000000 in
set_option maxRecDepth 100000 in
theorem impl_own.calls (A0 : Option Addr) (c0 : Nat) (l0 : List Int) (r : List Int) (w : World) (hr0 : Kd.C (Kd.int .u8) w A0 l0.length l0) (hc0 : l0.length ≤ c0) (h : impl_own.f l0 = some r) :
    Calls Try.prog 38 #[.slice A0 l0.length c0] w fun e w' => ∃ v0_ : Value, e = .returned (v0_) ∧ Kd.R (Kd.int .u8) 5 w' w.heap.size (fun _ => True) v0_ r ∧ Below w.heap.size w w' := by
  have HR0 := Aside0.mk hr0
  have HC0 := Aside0.mk hc0
  clear hr0 hc0
  have HB := Aside0.mk (Below.refl w.heap.size w)
  have H : (if ([] : List Int).length + l0.length < 140737488355328 then (some (([] : List Int) ++ l0)) else (none)) = some r := h
  clear h
  by_cases c2 : ([] : List Int).length + l0.length < 140737488355328
  · rw [if_pos c2] at H
    have LMc2 := Aside0.mk c2
    clear c2
    obtain ⟨y116, hy116⟩ : ∃ y_ : List Int, y_ = (([] : List Int) ++ l0) := ⟨_, rfl⟩
    replace H : (some y116) = some r := by first | (rw [hy116]; with_reducible exact H) | (have H2_ := (Option.bind_some _ _).symm.trans H; rw [hy116]; with_reducible exact H2_) | (have H2_ := (Option.bind_some _ _).symm.trans H; with_reducible exact H2_) | with_reducible exact H | (rw [hy116]; exact H) | exact H
    have Ny116 := Aside0.mk hy116
    clear hy116
    as_aux_lemma =>
      obtain rfl := Option.some.inj H
      go_enter Try.func38, Try.ntmps38
      go_wp2_with (first | ((with_reducible refine gate_builtin (b := .append) (xs := #[.const (.slice none 0 0), .tmp 3]) rfl ?_); at_builtin; refine Kd.R_append_rows (Kd.int .u8) (w0 := w) w.heap.size rfl (.const (.slice none 0 0)) (.tmp 3) 24 5 (.int .u8 0) 1 rfl Try.underlying24 info5 rfl (by decide) (by omega) (.slice none 0 0) ([] : List Int) l0 _ _ _ (fun _ => True) (fun _ => False) rfl rfl ?aO ?aR (fun _ _ h => h) (fun _ h => h.elim) ?aF ?aB ?aS ?aL ?_; (case aR => repeat (first | exact HR0.out | (with_reducible refine Kd.C_alloc ?_ _) | (with_reducible refine Kd.C_drewN ?_ _) | (with_reducible refine Kd.C_drew ?_))); (case aB => exact (by repeat (first | (with_reducible first | exact HB.out | apply below_alloc | apply pw_below_drewN | apply below_drew1) | exact HB.out))); (case aF => exact (fun _ _ => trivial)); (case aO => exact ((Kd.R_nil _ _ _ _ (fun _ => True)))); (case aS => exact (below_size (by repeat (first | (with_reducible first | exact HB.out | apply below_alloc | apply pw_below_drewN | apply below_drew1) | exact HB.out)))); (case aL => have := LMc2.out; omega); intro v117 w3 ho hb hg hat; rw [← Ny116.out] at ho; have n0_ := Aside0.mk (hb); have n1_ := Aside0.mk (ho); clear HB; have HB := n0_; have HO118 := n1_; clear n0_ n1_; clear ho hb hg hat))
      go_ret
      exact ⟨_, by first | rfl | (simp [errW_none, errW_some] <;> rfl) | (simp [*, errW_none, errW_some] <;> rfl), by (with_reducible repeat (first | apply Kd.R_alloc | apply Kd.R_drewN | apply Kd.R_drew)); exact HO118.out, by repeat (first | (with_reducible first | exact HB.out | apply below_alloc | apply pw_below_drewN | apply below_drew1) | exact HB.out)⟩
  · rw [if_neg c2] at H
    exact absurd H (by simp)

/-! ### bsoncore_AppendType: function 45 -/
def bsoncore_AppendType.f (l0 : List Int) (a1 : Int) : Option (List Int) := if l0.length < 140737488355328 then (some (l0 ++ [a1])) else (none)
set_option maxHeartbeats 8000000 in
set_option maxRecDepth 100000 in
theorem bsoncore_AppendType.calls (P0_ : Nat → Prop) (u9000_ : Value) (l0 : List Int) (a1 : Int) (r : List Int) (w0 w : World) (hB : Below w0.heap.size w0 w) (ho0 : Kd.R (Kd.int .u8) 5 w w0.heap.size P0_ u9000_ l0) (h : bsoncore_AppendType.f l0 a1 = some r) :
    Calls Try.prog 45 #[u9000_, .int .u8 a1] w fun e w' => ∃ v0_ : Value, e = .returned (v0_) ∧ Kd.R (Kd.int .u8) 5 w' w0.heap.size (fun k_ => (P0_ k_ ∨ w.heap.size ≤ k_)) v0_ r ∧ Below w0.heap.size w0 w' ∧ Kept w w' (fun k_ => P0_ k_) := by
  have HO0 := Aside0.mk (show Kd.R (Kd.int .u8) 5 w w0.heap.size (fun k_ => (P0_ k_ ∨ w.heap.size ≤ k_)) u9000_ l0 from Kd.R_mono ho0 (fun k_ hk => (.inl hk)))
  have HK := Aside0.mk (Kept.refl w (fun k_ => P0_ k_))
  have HW0 := Aside0.mk hB.size
  have HB := Aside0.mk hB
  clear hB
  have H : (if l0.length < 140737488355328 then (some (l0 ++ [a1])) else (none)) = some r := h
  clear h
  by_cases c3 : l0.length < 140737488355328
  · rw [if_pos c3] at H
    have LMc3 := Aside0.mk c3
    clear c3
    obtain ⟨y119, hy119⟩ : ∃ y_ : List Int, y_ = (l0 ++ [a1]) := ⟨_, rfl⟩
    replace H : (some y119) = some r := by first | (rw [hy119]; with_reducible exact H) | (have H2_ := (Option.bind_some _ _).symm.trans H; rw [hy119]; with_reducible exact H2_) | (have H2_ := (Option.bind_some _ _).symm.trans H; with_reducible exact H2_) | with_reducible exact H | (rw [hy119]; exact H) | exact H
    have Ny119 := Aside0.mk hy119
    clear hy119
    as_aux_lemma =>
      obtain rfl := Option.some.inj H
      go_enter Try.func45, Try.ntmps45
      go_wp2_with (first | ((with_reducible refine gate_builtin (b := .append) (xs := #[.tmp 5, .tmp 7]) rfl ?_); at_builtin; refine Kd.R_append (Kd.int .u8) (w0 := w0) w0.heap.size rfl (.tmp 5) (.tmp 7) 24 5 (.int .u8 0) 1 rfl Try.underlying24 info5 rfl (by decide) (by omega) u9000_ l0 a1 [.int .u8 a1] (fun k_ => (P0_ k_ ∨ w.heap.size ≤ k_)) (fun _ => False) rfl rfl ?aP (fun _ hk => hk.elim) ?aF ?aO ?aB ?aS ?aL ?_; (case aP => exact rfl); (case aB => exact (by repeat (first | (with_reducible first | exact HB.out | apply below_alloc | apply pw_below_drewN | apply below_drew1) | exact HB.out))); (case aF => exact (fun k_ hk => (.inr (Nat.le_trans (by first | exact HK.out.1 | exact (show Kept w _ (fun k_ => P0_ k_) from by repeat (first | (with_reducible first | exact HK.out | apply Kept.alloc | apply Kept.drewN | apply Kept.drew) | exact HK.out)).1) hk)))); (case aO => exact (by (with_reducible repeat (first | apply Kd.R_alloc | apply Kd.R_drewN | apply Kd.R_drew)); exact HO0.out)); (case aS => exact (below_size (by repeat (first | (with_reducible first | exact HB.out | apply below_alloc | apply pw_below_drewN | apply below_drew1) | exact HB.out)))); (case aL => have := LMc3.out; omega); intro v120 w4 ho hb hg hat; rw [← Ny119.out] at ho; have n0_ := Aside0.mk (hb); have n1_ := Aside0.mk (Kept.of_grown (S := (fun k_ => P0_ k_)) hg (by repeat (first | (with_reducible first | exact HK.out | apply Kept.alloc | apply Kept.drewN | apply Kept.drew) | exact HK.out)) (fun k_ e_ => (HO0.out.1 k_ e_))); have n2_ := Aside0.mk (ho); clear HB; clear HK; clear HO0; have HB := n0_; have HK := n1_; have HO121 := n2_; clear n0_ n1_ n2_; clear ho hb hg hat))
      go_ret
      exact ⟨_, by first | rfl | (simp [errW_none, errW_some] <;> rfl) | (simp [*, errW_none, errW_some] <;> rfl), by (with_reducible repeat (first | apply Kd.R_alloc | apply Kd.R_drewN | apply Kd.R_drew)); exact HO121.out, by repeat (first | (with_reducible first | exact HB.out | apply below_alloc | apply pw_below_drewN | apply below_drew1) | exact HB.out), by repeat (first | (with_reducible first | exact HK.out | apply Kept.alloc | apply Kept.drewN | apply Kept.drew) | exact HK.out)⟩
  · rw [if_neg c3] at H
    exact absurd H (by simp)

-- NOT PRINTED: function 82 (bsoncore_zzIndexRune)

-- NOT PRINTED: function 73 (bsoncore_zzContainsRune)

/-! ### bsoncore_isValidCString: function 63 -/
/-- Has a text no byte 0? -/
def plainText (s : ByteArray) : Bool := (List.range s.size).all fun j => s.get! j != 0
theorem plainText_true {s : ByteArray} : plainText s = true ↔ ∀ j, j < s.size → s.get! j ≠ 0 := by
  simp [plainText]
def bsoncore_isValidCString.f (a0 : ByteArray) : Option (Bool) := some (plainText a0)
def SearchPost (s : ByteArray) (w0 : World) (e : Ending) (w' : World) : Prop := ∃ v : Int, e = .returned (.int .i64 v) ∧ (0 ≤ v ↔ plainText s = false) ∧ Below w0.heap.size w0 w'
set_option maxHeartbeats 2000000 in
set_option maxRecDepth 100000 in
theorem zzIndexRune_zero (s : ByteArray) (w : World) :
    Calls Try.prog 82 #[.string s, .int .i32 0] w (SearchPost s w) := by
  go_enter Try.func82, Try.ntmps82
  go_wp2
  go_loopw [] (fun w' => ∃ (pos : Nat), w' = w.iter s pos ∧ Aside0 (∀ j, j < pos → j < s.size → s.get! j ≠ 0)) (fun w' => s.size - w'.iterPos w.heap.size)
  case atStart => exact ⟨0, rfl, ⟨fun j hj => absurd hj (Nat.not_lt_zero j)⟩⟩
  case round =>
    obtain ⟨pos, rfl, HA⟩ := hrel
    have hbel : Below w.heap.size w (w.iter s pos) := by
      exact (Below.refl _ _).alloc (Nat.le_refl _) _
    have HBEL := Aside0.mk hbel
    clear hbel
    by_cases hp : pos < s.size
    · have hnx : ∀ ty, (Instr.next (.pointer (some ⟨w.heap.size, 0, none⟩)) true ty).run Try.prog (w.iter s pos) = _ := fun ty => run_next_any w s pos ty hp
      have HD := Aside0.mk (HW.decode_zero s pos hp)
      by_cases hz : s.get! pos = 0
      · have hb : ((((Utf8.decode s pos).1 : Nat) : Int) == 0) = true := beq_iff_eq.2 (by have := HD.out.2.1.2 hz; omega)
        have HF : Aside0 (plainText s = false) := ⟨by
          cases hpt : plainText s with
          | false => rfl
          | true => exact absurd hz (plainText_true.1 hpt pos hp)⟩
        clear hz
        go_wp2
        go_ret
        exact ⟨(pos : Int), rfl, ⟨fun _ => HF.out, fun _ => by omega⟩, (Below.refl _ _).alloc (Nat.le_refl _) _⟩
      · have hb : ((((Utf8.decode s pos).1 : Nat) : Int) == 0) = false := beq_eq_false_iff_ne.2 (fun h0 => hz (HD.out.2.1.1 (by omega)))
        have HF : Aside0 (∀ j, j < pos + (Utf8.decode s pos).2 → j < s.size → s.get! j ≠ 0) := ⟨by
          intro j hj hjs
          by_cases hjp : j < pos
          · exact HA.out j hjp hjs
          · exact (HD.out.2.2 hz j (by omega) hj).2⟩
        clear hz
        go_wp2
        go_roundw
        case rel => exact ⟨pos + (Utf8.decode s pos).2, rfl, HF⟩
        case measure =>
          have := HD.out.1
          simp
          omega
    · have hnx : ∀ ty, (Instr.next (.pointer (some ⟨w.heap.size, 0, none⟩)) true ty).run Try.prog (w.iter s pos) = _ := fun ty => run_next_end w s pos ty hp
      have HF : Aside0 (plainText s = true) := ⟨plainText_true.2 (fun j hj => HA.out j (by omega) hj)⟩
      go_wp2
      go_ret
      exact ⟨-1, rfl, ⟨fun h => by omega, fun h => by rw [HF.out] at h; cases h⟩, (Below.refl _ _).alloc (Nat.le_refl _) _⟩
set_option maxHeartbeats 2000000 in
set_option maxRecDepth 100000 in
theorem bsoncore_isValidCString.calls (a0 : ByteArray) (r : Bool) (w : World) (h : bsoncore_isValidCString.f a0 = some r) :
    Calls Try.prog 63 #[.string a0] w fun e w' => e = .returned (.bool r) ∧ Below w.heap.size w w' := by
  obtain rfl := Option.some.inj h
  clear h
  cases hpt : plainText a0 with
  | true =>
    have HP := Aside0.mk hpt
    clear hpt
    go_enter Try.func63, Try.ntmps63
    go_wp2_with (first | (go_at_call 82; refine (zzIndexRune_zero _ _).mono ?_; rintro e w' ⟨v, rfl, hv, hb⟩; have hv2 : decide (0 ≤ v) = false := decide_eq_false (by rw [hv, HP.out]; simp); have HB := Aside0.mk hb; clear hv hb) | go_in)
    go_ret
    exact ⟨rfl, HB.out⟩
  | false =>
    have HP := Aside0.mk hpt
    clear hpt
    go_enter Try.func63, Try.ntmps63
    go_wp2_with (first | (go_at_call 82; refine (zzIndexRune_zero _ _).mono ?_; rintro e w' ⟨v, rfl, hv, hb⟩; have hv2 : decide (0 ≤ v) = true := decide_eq_true (by rw [hv, HP.out]); have HB := Aside0.mk hb; clear hv hb) | go_in)
    go_ret
    exact ⟨rfl, HB.out⟩

/-! ### bsoncore_AppendHeader: function 43 -/
def bsoncore_AppendHeader.f (l0 : List Int) (a1 : Int) (a2 : ByteArray) : Option (List Int) := (bsoncore_isValidCString.f a2).bind fun t122 => (if t122 = true then ((bsoncore_AppendType.f l0 a1).bind fun t123 => (if t123.length + a2.size < 140737488355328 then ((some (t123 ++ bytesOf a2 : List Int)).bind fun y126 => (if y126.length < 140737488355328 then (some (y126 ++ [0])) else (none))) else (none))) else (none))
set_option maxHeartbeats 8000000 in
set_option maxRecDepth 100000 in
theorem bsoncore_AppendHeader.calls (P0_ : Nat → Prop) (u9000_ : Value) (l0 : List Int) (a1 : Int) (a2 : ByteArray) (r : List Int) (w0 w : World) (hB : Below w0.heap.size w0 w) (ho0 : Kd.R (Kd.int .u8) 5 w w0.heap.size P0_ u9000_ l0) (h : bsoncore_AppendHeader.f l0 a1 a2 = some r) :
    Calls Try.prog 43 #[u9000_, .int .u8 a1, .string a2] w fun e w' => ∃ v0_ : Value, e = .returned (v0_) ∧ Kd.R (Kd.int .u8) 5 w' w0.heap.size (fun k_ => (P0_ k_ ∨ w.heap.size ≤ k_)) v0_ r ∧ Below w0.heap.size w0 w' ∧ Kept w w' (fun k_ => P0_ k_) := by
  have HO0 := Aside0.mk (show Kd.R (Kd.int .u8) 5 w w0.heap.size (fun k_ => (P0_ k_ ∨ w.heap.size ≤ k_)) u9000_ l0 from Kd.R_mono ho0 (fun k_ hk => (.inl hk)))
  have HK := Aside0.mk (Kept.refl w (fun k_ => P0_ k_))
  have HW0 := Aside0.mk hB.size
  have HB := Aside0.mk hB
  clear hB
  have H : ((bsoncore_isValidCString.f a2).bind fun t122 => (if t122 = true then ((bsoncore_AppendType.f l0 a1).bind fun t123 => (if t123.length + a2.size < 140737488355328 then ((some (t123 ++ bytesOf a2 : List Int)).bind fun y126 => (if y126.length < 140737488355328 then (some (y126 ++ [0])) else (none))) else (none))) else (none))) = some r := h
  clear h
  replace H := Option.bind_eq_some_iff.mp H
  obtain ⟨t122, A40, H⟩ := H
  replace H : (if t122 = true then ((bsoncore_AppendType.f l0 a1).bind fun t123 => (if t123.length + a2.size < 140737488355328 then ((some (t123 ++ bytesOf a2 : List Int)).bind fun y126 => (if y126.length < 140737488355328 then (some (y126 ++ [0])) else (none))) else (none))) else (none)) = some r := H
  have A4 := Aside0.mk A40
  clear A40
  by_cases c5 : t122 = true
  · subst c5
    have H1 : ((bsoncore_AppendType.f l0 a1).bind fun t123 => (if t123.length + a2.size < 140737488355328 then ((some (t123 ++ bytesOf a2 : List Int)).bind fun y126 => (if y126.length < 140737488355328 then (some (y126 ++ [0])) else (none))) else (none))) = some r := by rw [if_pos rfl] at H; exact H
    clear H
    have H := H1
    clear H1
    replace H := Option.bind_eq_some_iff.mp H
    obtain ⟨t123, A60, H⟩ := H
    replace H : (if t123.length + a2.size < 140737488355328 then ((some (t123 ++ bytesOf a2 : List Int)).bind fun y126 => (if y126.length < 140737488355328 then (some (y126 ++ [0])) else (none))) else (none)) = some r := H
    have A6 := Aside0.mk A60
    clear A60
    by_cases c7 : t123.length + a2.size < 140737488355328
    · rw [if_pos c7] at H
      have LMc7 := Aside0.mk c7
      clear c7
      obtain ⟨y126, hy126⟩ : ∃ y_ : List Int, y_ = (t123 ++ bytesOf a2) := ⟨_, rfl⟩
      replace H : (if y126.length < 140737488355328 then (some (y126 ++ [0])) else (none)) = some r := by first | (rw [hy126]; with_reducible exact H) | (have H2_ := (Option.bind_some _ _).symm.trans H; rw [hy126]; with_reducible exact H2_) | (have H2_ := (Option.bind_some _ _).symm.trans H; with_reducible exact H2_) | with_reducible exact H | (rw [hy126]; exact H) | exact H
      have Ny126 := Aside0.mk hy126
      clear hy126
      by_cases c8 : y126.length < 140737488355328
      · rw [if_pos c8] at H
        have LMc8 := Aside0.mk c8
        clear c8
        obtain ⟨y129, hy129⟩ : ∃ y_ : List Int, y_ = (y126 ++ [0]) := ⟨_, rfl⟩
        replace H : (some y129) = some r := by first | (rw [hy129]; with_reducible exact H) | (have H2_ := (Option.bind_some _ _).symm.trans H; rw [hy129]; with_reducible exact H2_) | (have H2_ := (Option.bind_some _ _).symm.trans H; with_reducible exact H2_) | with_reducible exact H | (rw [hy129]; exact H) | exact H
        have Ny129 := Aside0.mk hy129
        clear hy129
        as_aux_lemma =>
          obtain rfl := Option.some.inj H
          go_enter Try.func43, Try.ntmps43
          go_wp2_with (first | ((with_reducible refine gate_callee (f := 63) rfl ?_); refine goesL_ (some 8) rfl rfl Try.func63 (by kernel_rfl) rfl #[.string a2] rfl (by (try simp only [List.map_toArray, List.map_cons, List.map_nil]); first | done | rfl | (simp only [List.length_drop, List.length_take]; rfl)) ?_; (with_reducible refine (bsoncore_isValidCString.calls a2 true _ A4.out).mono ?_); rintro e w9 ⟨rfl, hb⟩; refine ⟨_, rfl, ?_⟩; have n0_ := Aside0.mk (Kd.R_below (by (with_reducible repeat (first | apply Kd.R_alloc | apply Kd.R_drewN | apply Kd.R_drew)); exact HO0.out) hb); have n1_ := Aside0.mk (Kept.below (S := (fun k_ => P0_ k_)) (by repeat (first | (with_reducible first | exact HK.out | apply Kept.alloc | apply Kept.drewN | apply Kept.drew) | exact HK.out)) hb); have n2_ := Aside0.mk (below_step (by repeat (first | (with_reducible first | exact HB.out | apply below_alloc | apply pw_below_drewN | apply below_drew1) | exact HB.out)) hb); clear HO0; clear HK; clear HB; have HO0 := n0_; have HK := n1_; have HB := n2_; clear n0_ n1_ n2_; (try clear hb); (try clear hb2); (try clear hk); (try clear hi); obtain ⟨Ao10, co10, eo10⟩ := Kd.R_slice HO0.out; subst eo10) | ((with_reducible refine gate_callee (f := 45) rfl ?_); refine goesL_ (some 13) rfl rfl Try.func45 (by kernel_rfl) rfl #[.slice Ao10 l0.length co10, .int .u8 a1] rfl (by (try simp only [List.map_toArray, List.map_cons, List.map_nil]); first | done | rfl | (simp only [List.length_drop, List.length_take]; rfl)) ?_; (with_reducible refine (bsoncore_AppendType.calls (fun k_ => some k_ = (.slice Ao10 l0.length co10 : Value).ownBlock) (.slice Ao10 l0.length co10) l0 a1 t123 w0 _ ?side1 ?side2 A6.out).mono ?_); (case side1 => repeat (first | (with_reducible first | exact HB.out | apply below_alloc | apply pw_below_drewN | apply below_drew1) | exact HB.out)); (case side2 => exact Kd.R_tight rfl HO0.out); rintro e w11 ⟨v124, rfl, ho0, hb, hkp⟩; refine ⟨_, rfl, ?_⟩; have n0_ := Aside0.mk (Kd.R_mono (ok' := fun k_ => (P0_ k_ ∨ w.heap.size ≤ k_)) ho0 (fun k_ hk_ => Or.elim hk_ (fun hs_ => (HO0.out.1 k_ (hs_).symm)) (fun hn_ => (.inr (Nat.le_trans (by first | exact HK.out.1 | exact (show Kept w _ (fun k_ => P0_ k_) from by repeat (first | (with_reducible first | exact HK.out | apply Kept.alloc | apply Kept.drewN | apply Kept.drew) | exact HK.out)).1) hn_))))); have n1_ := Aside0.mk (Kept.then_ (S := (fun k_ => P0_ k_)) (by repeat (first | (with_reducible first | exact HK.out | apply Kept.alloc | apply Kept.drewN | apply Kept.drew) | exact HK.out)) hkp (fun k_ hs_ => (fun e_ => (HO0.out.1 k_ e_.symm)) hs_)); have n2_ := Aside0.mk (hb); clear HK; clear HB; clear HO0; have HO125 := n0_; have HK := n1_; have HB := n2_; clear n0_ n1_ n2_; (try clear hb); (try clear hkp); (try clear ho0)) | (at_builtin; refine HW.R_append_str (w0 := w0) w0.heap.size rfl (.tmp 14) _ 24 9 5 rfl Try.underlying24 Try.underlying9 info5 v124 t123 a2 (fun k_ => (P0_ k_ ∨ w.heap.size ≤ k_)) rfl rfl ?aO ?aF ?aB ?aS ?aL ?_; (case aB => exact (by repeat (first | (with_reducible first | exact HB.out | apply below_alloc | apply pw_below_drewN | apply below_drew1) | exact HB.out))); (case aF => exact (fun k_ hk => (.inr (Nat.le_trans (by first | exact HK.out.1 | exact (show Kept w _ (fun k_ => P0_ k_) from by repeat (first | (with_reducible first | exact HK.out | apply Kept.alloc | apply Kept.drewN | apply Kept.drew) | exact HK.out)).1) hk)))); (case aO => exact (by (with_reducible repeat (first | apply Kd.R_alloc | apply Kd.R_drewN | apply Kd.R_drew)); exact HO125.out)); (case aS => exact (below_size (by repeat (first | (with_reducible first | exact HB.out | apply below_alloc | apply pw_below_drewN | apply below_drew1) | exact HB.out)))); (case aL => have := LMc7.out; omega); intro v127 w12 ho hb hg hat; rw [← Ny126.out] at ho; have n0_ := Aside0.mk (hb); have n1_ := Aside0.mk (Kept.of_grown (S := (fun k_ => P0_ k_)) hg (by repeat (first | (with_reducible first | exact HK.out | apply Kept.alloc | apply Kept.drewN | apply Kept.drew) | exact HK.out)) (fun k_ e_ => (HO125.out.1 k_ e_))); have n2_ := Aside0.mk (ho); clear HB; clear HK; clear HO125; have HB := n0_; have HK := n1_; have HO128 := n2_; clear n0_ n1_ n2_; clear ho hb hg hat) | ((with_reducible refine gate_builtin (b := .append) (xs := #[.tmp 17, .tmp 18]) rfl ?_); at_builtin; refine Kd.R_append (Kd.int .u8) (w0 := w0) w0.heap.size rfl (.tmp 17) (.tmp 18) 24 5 (.int .u8 0) 1 rfl Try.underlying24 info5 rfl (by decide) (by omega) v127 y126 0 [.int .u8 0] (fun k_ => (P0_ k_ ∨ w.heap.size ≤ k_)) (fun _ => False) rfl rfl ?aP (fun _ hk => hk.elim) ?aF ?aO ?aB ?aS ?aL ?_; (case aP => exact rfl); (case aB => exact (by repeat (first | (with_reducible first | exact HB.out | apply below_alloc | apply pw_below_drewN | apply below_drew1) | exact HB.out))); (case aF => exact (fun k_ hk => (.inr (Nat.le_trans (by first | exact HK.out.1 | exact (show Kept w _ (fun k_ => P0_ k_) from by repeat (first | (with_reducible first | exact HK.out | apply Kept.alloc | apply Kept.drewN | apply Kept.drew) | exact HK.out)).1) hk)))); (case aO => exact (by (with_reducible repeat (first | apply Kd.R_alloc | apply Kd.R_drewN | apply Kd.R_drew)); exact HO128.out)); (case aS => exact (below_size (by repeat (first | (with_reducible first | exact HB.out | apply below_alloc | apply pw_below_drewN | apply below_drew1) | exact HB.out)))); (case aL => have := LMc8.out; omega); intro v130 w13 ho hb hg hat; rw [← Ny129.out] at ho; have n0_ := Aside0.mk (hb); have n1_ := Aside0.mk (Kept.of_grown (S := (fun k_ => P0_ k_)) hg (by repeat (first | (with_reducible first | exact HK.out | apply Kept.alloc | apply Kept.drewN | apply Kept.drew) | exact HK.out)) (fun k_ e_ => (HO128.out.1 k_ e_))); have n2_ := Aside0.mk (ho); clear HB; clear HK; clear HO128; have HB := n0_; have HK := n1_; have HO131 := n2_; clear n0_ n1_ n2_; clear ho hb hg hat))
          go_ret
          exact ⟨_, by first | rfl | (simp [errW_none, errW_some] <;> rfl) | (simp [*, errW_none, errW_some] <;> rfl), by (with_reducible repeat (first | apply Kd.R_alloc | apply Kd.R_drewN | apply Kd.R_drew)); exact HO131.out, by repeat (first | (with_reducible first | exact HB.out | apply below_alloc | apply pw_below_drewN | apply below_drew1) | exact HB.out), by repeat (first | (with_reducible first | exact HK.out | apply Kept.alloc | apply Kept.drewN | apply Kept.drew) | exact HK.out)⟩
      · rw [if_neg c8] at H
        exact absurd H (by simp)
    · rw [if_neg c7] at H
      exact absurd H (by simp)
  · replace c5 := Bool.eq_false_iff.mpr c5
    subst c5
    have H1 : (none) = some r := by rw [if_neg (show ¬ (false = true) by decide)] at H; exact H
    clear H
    have H := H1
    clear H1
    exact absurd H (by simp)

/-! ### impl_AppendHeader: function 23 -/
def impl_AppendHeader.f (l0 : List Int) (a1 : Int) (a2 : ByteArray) : Option (List Int) := (impl_own.f l0).bind fun t132 => ((bsoncore_AppendHeader.f t132 ((a1) % 256) a2).bind fun t135 => (some t135))
set_option maxHeartbeats 8000000 in
set_option maxRecDepth 100000 in
theorem impl_AppendHeader.calls (A0 : Option Addr) (c0 : Nat) (l0 : List Int) (a1 : Int) (a2 : ByteArray) (r : List Int) (w : World) (hr0 : Kd.C (Kd.int .u8) w A0 l0.length l0) (hc0 : l0.length ≤ c0) (h : impl_AppendHeader.f l0 a1 a2 = some r) :
    Calls Try.prog 23 #[.slice A0 l0.length c0, .int .i64 a1, .string a2] w fun e w' => ∃ v0_ : Value, e = .returned (v0_) ∧ Kd.R (Kd.int .u8) 5 w' w.heap.size (fun _ => True) v0_ r ∧ Below w.heap.size w w' := by
  have HR0 := Aside0.mk hr0
  have HC0 := Aside0.mk hc0
  clear hr0 hc0
  have HB := Aside0.mk (Below.refl w.heap.size w)
  have H : ((impl_own.f l0).bind fun t132 => ((bsoncore_AppendHeader.f t132 ((a1) % 256) a2).bind fun t135 => (some t135))) = some r := h
  clear h
  replace H := Option.bind_eq_some_iff.mp H
  obtain ⟨t132, A40, H⟩ := H
  replace H : ((bsoncore_AppendHeader.f t132 ((a1) % 256) a2).bind fun t135 => (some t135)) = some r := H
  have A4 := Aside0.mk A40
  clear A40
  replace H := Option.bind_eq_some_iff.mp H
  obtain ⟨t135, A50, H⟩ := H
  replace H : (some t135) = some r := H
  have A5 := Aside0.mk A50
  clear A50
  as_aux_lemma =>
    obtain rfl := Option.some.inj H
    go_enter Try.func23, Try.ntmps23
    go_wp2_with (first | ((with_reducible refine gate_callee (f := 38) rfl ?_); refine goesL_ (some 8) rfl rfl Try.func38 (by kernel_rfl) rfl #[.slice A0 l0.length c0] rfl (by (try simp only [List.map_toArray, List.map_cons, List.map_nil]); first | done | rfl | (simp only [List.length_drop, List.length_take]; rfl)) ?_; (with_reducible refine (impl_own.calls _ _ l0 t132 _ ?side1 ?side2 A4.out).mono ?_); (case side1 => repeat (first | exact HR0.out | (with_reducible refine Kd.C_alloc ?_ _) | (with_reducible refine Kd.C_drewN ?_ _) | (with_reducible refine Kd.C_drew ?_))); (case side2 => exact HC0.out); rintro e w6 ⟨v133, rfl, ho0, hb⟩; refine ⟨_, rfl, ?_⟩; have n0_ := Aside0.mk (Kd.R_lower ho0 (below_size (by repeat (first | (with_reducible first | exact HB.out | apply below_alloc | apply pw_below_drewN | apply below_drew1) | exact HB.out)))); have n1_ := Aside0.mk (below_step (by repeat (first | (with_reducible first | exact HB.out | apply below_alloc | apply pw_below_drewN | apply below_drew1) | exact HB.out)) hb); clear HB; have HO134 := n0_; have HB := n1_; clear n0_ n1_; (try clear hb); (try clear hb2); (try clear hk); (try clear hi); (try clear ho0); obtain ⟨Ao7, co7, eo7⟩ := Kd.R_slice HO134.out; subst eo7) | ((with_reducible refine gate_callee (f := 43) rfl ?_); refine goesL_ (some 12) rfl rfl Try.func43 (by kernel_rfl) rfl #[.slice Ao7 t132.length co7, .int .u8 ((a1) % 256), .string a2] rfl (by (try simp only [List.map_toArray, List.map_cons, List.map_nil]); first | done | rfl | (simp only [List.length_drop, List.length_take]; rfl)) ?_; (with_reducible refine (bsoncore_AppendHeader.calls (fun k_ => some k_ = (.slice Ao7 t132.length co7 : Value).ownBlock) (.slice Ao7 t132.length co7) t132 ((a1) % 256) a2 t135 w _ ?side1 ?side2 A5.out).mono ?_); (case side1 => repeat (first | (with_reducible first | exact HB.out | apply below_alloc | apply pw_below_drewN | apply below_drew1) | exact HB.out)); (case side2 => exact Kd.R_tight rfl HO134.out); rintro e w8 ⟨v136, rfl, ho0, hb, hkp⟩; refine ⟨_, rfl, ?_⟩; have n0_ := Aside0.mk (Kd.R_mono (ok' := fun k_ => True) ho0 (fun k_ hk_ => trivial)); have n1_ := Aside0.mk (hb); clear HB; clear HO134; have HO137 := n0_; have HB := n1_; clear n0_ n1_; (try clear hb); (try clear hkp); (try clear ho0)))
    go_ret
    exact ⟨_, by first | rfl | (simp [errW_none, errW_some] <;> rfl) | (simp [*, errW_none, errW_some] <;> rfl), by (with_reducible repeat (first | apply Kd.R_alloc | apply Kd.R_drewN | apply Kd.R_drew)); exact HO137.out, by repeat (first | (with_reducible first | exact HB.out | apply below_alloc | apply pw_below_drewN | apply below_drew1) | exact HB.out)⟩

/-! ### bsoncore_AppendKey: function 44 -/
def bsoncore_AppendKey.f (l0 : List Int) (a1 : ByteArray) : Option (List Int) := if a1.size + 1 ≤ 9223372036854775807 then (if l0.length + (a1 ++ (⟨#[0]⟩ : ByteArray)).size < 140737488355328 then (some (l0 ++ bytesOf (a1 ++ (⟨#[0]⟩ : ByteArray)))) else (none)) else (none)
set_option maxHeartbeats 8000000 in
set_option maxRecDepth 100000 in
theorem bsoncore_AppendKey.calls (P0_ : Nat → Prop) (u9000_ : Value) (l0 : List Int) (a1 : ByteArray) (r : List Int) (w0 w : World) (hB : Below w0.heap.size w0 w) (ho0 : Kd.R (Kd.int .u8) 5 w w0.heap.size P0_ u9000_ l0) (h : bsoncore_AppendKey.f l0 a1 = some r) :
    Calls Try.prog 44 #[u9000_, .string a1] w fun e w' => ∃ v0_ : Value, e = .returned (v0_) ∧ Kd.R (Kd.int .u8) 5 w' w0.heap.size (fun k_ => (P0_ k_ ∨ w.heap.size ≤ k_)) v0_ r ∧ Below w0.heap.size w0 w' ∧ Kept w w' (fun k_ => P0_ k_) := by
  have HO0 := Aside0.mk (show Kd.R (Kd.int .u8) 5 w w0.heap.size (fun k_ => (P0_ k_ ∨ w.heap.size ≤ k_)) u9000_ l0 from Kd.R_mono ho0 (fun k_ hk => (.inl hk)))
  have HK := Aside0.mk (Kept.refl w (fun k_ => P0_ k_))
  have HW0 := Aside0.mk hB.size
  have HB := Aside0.mk hB
  clear hB
  have H : (if a1.size + 1 ≤ 9223372036854775807 then (if l0.length + (a1 ++ (⟨#[0]⟩ : ByteArray)).size < 140737488355328 then (some (l0 ++ bytesOf (a1 ++ (⟨#[0]⟩ : ByteArray)))) else (none)) else (none)) = some r := h
  clear h
  by_cases c3 : a1.size + 1 ≤ 9223372036854775807
  · rw [if_pos c3] at H
    have c3b0 := eq_true c3
    have c3b1 : decide (a1.size + 1 ≤ 9223372036854775807) = true := decide_eq_true c3
    try have c3b2 : (9223372036854775807 < a1.size + 1) = False := eq_false (Nat.not_lt.2 c3)
    by_cases c4 : l0.length + (a1 ++ (⟨#[0]⟩ : ByteArray)).size < 140737488355328
    · rw [if_pos c4] at H
      have LMc4 := Aside0.mk c4
      clear c4
      obtain ⟨y138, hy138⟩ : ∃ y_ : List Int, y_ = (l0 ++ bytesOf (a1 ++ (⟨#[0]⟩ : ByteArray))) := ⟨_, rfl⟩
      replace H : (some y138) = some r := by first | (rw [hy138]; with_reducible exact H) | (have H2_ := (Option.bind_some _ _).symm.trans H; rw [hy138]; with_reducible exact H2_) | (have H2_ := (Option.bind_some _ _).symm.trans H; with_reducible exact H2_) | with_reducible exact H | (rw [hy138]; exact H) | exact H
      have Ny138 := Aside0.mk hy138
      clear hy138
      as_aux_lemma =>
        obtain rfl := Option.some.inj H
        go_enter Try.func44, Try.ntmps44
        go_wp2_with (first | (at_builtin; refine HW.R_append_str (w0 := w0) w0.heap.size rfl (.tmp 5) _ 24 9 5 rfl Try.underlying24 Try.underlying9 info5 u9000_ l0 (a1 ++ (⟨#[0]⟩ : ByteArray)) (fun k_ => (P0_ k_ ∨ w.heap.size ≤ k_)) rfl rfl ?aO ?aF ?aB ?aS ?aL ?_; (case aB => exact (by repeat (first | (with_reducible first | exact HB.out | apply below_alloc | apply pw_below_drewN | apply below_drew1) | exact HB.out))); (case aF => exact (fun k_ hk => (.inr (Nat.le_trans (by first | exact HK.out.1 | exact (show Kept w _ (fun k_ => P0_ k_) from by repeat (first | (with_reducible first | exact HK.out | apply Kept.alloc | apply Kept.drewN | apply Kept.drew) | exact HK.out)).1) hk)))); (case aO => exact (by (with_reducible repeat (first | apply Kd.R_alloc | apply Kd.R_drewN | apply Kd.R_drew)); exact HO0.out)); (case aS => exact (below_size (by repeat (first | (with_reducible first | exact HB.out | apply below_alloc | apply pw_below_drewN | apply below_drew1) | exact HB.out)))); (case aL => have := LMc4.out; omega); intro v139 w5 ho hb hg hat; rw [← Ny138.out] at ho; have n0_ := Aside0.mk (hb); have n1_ := Aside0.mk (Kept.of_grown (S := (fun k_ => P0_ k_)) hg (by repeat (first | (with_reducible first | exact HK.out | apply Kept.alloc | apply Kept.drewN | apply Kept.drew) | exact HK.out)) (fun k_ e_ => (HO0.out.1 k_ e_))); have n2_ := Aside0.mk (ho); clear HB; clear HK; clear HO0; have HB := n0_; have HK := n1_; have HO140 := n2_; clear n0_ n1_ n2_; clear ho hb hg hat))
        go_ret
        exact ⟨_, by first | rfl | (simp [errW_none, errW_some] <;> rfl) | (simp [*, errW_none, errW_some] <;> rfl), by (with_reducible repeat (first | apply Kd.R_alloc | apply Kd.R_drewN | apply Kd.R_drew)); exact HO140.out, by repeat (first | (with_reducible first | exact HB.out | apply below_alloc | apply pw_below_drewN | apply below_drew1) | exact HB.out), by repeat (first | (with_reducible first | exact HK.out | apply Kept.alloc | apply Kept.drewN | apply Kept.drew) | exact HK.out)⟩
    · rw [if_neg c4] at H
      exact absurd H (by simp)
  · rw [if_neg c3] at H
    exact absurd H (by simp)

/-! ### impl_AppendKey: function 24 -/
def impl_AppendKey.f (l0 : List Int) (a1 : ByteArray) : Option (List Int) := (impl_own.f l0).bind fun t141 => ((bsoncore_AppendKey.f t141 a1).bind fun t144 => (some t144))
set_option maxHeartbeats 8000000 in
set_option maxRecDepth 100000 in
theorem impl_AppendKey.calls (A0 : Option Addr) (c0 : Nat) (l0 : List Int) (a1 : ByteArray) (r : List Int) (w : World) (hr0 : Kd.C (Kd.int .u8) w A0 l0.length l0) (hc0 : l0.length ≤ c0) (h : impl_AppendKey.f l0 a1 = some r) :
    Calls Try.prog 24 #[.slice A0 l0.length c0, .string a1] w fun e w' => ∃ v0_ : Value, e = .returned (v0_) ∧ Kd.R (Kd.int .u8) 5 w' w.heap.size (fun _ => True) v0_ r ∧ Below w.heap.size w w' := by
  have HR0 := Aside0.mk hr0
  have HC0 := Aside0.mk hc0
  clear hr0 hc0
  have HB := Aside0.mk (Below.refl w.heap.size w)
  have H : ((impl_own.f l0).bind fun t141 => ((bsoncore_AppendKey.f t141 a1).bind fun t144 => (some t144))) = some r := h
  clear h
  replace H := Option.bind_eq_some_iff.mp H
  obtain ⟨t141, A30, H⟩ := H
  replace H : ((bsoncore_AppendKey.f t141 a1).bind fun t144 => (some t144)) = some r := H
  have A3 := Aside0.mk A30
  clear A30
  replace H := Option.bind_eq_some_iff.mp H
  obtain ⟨t144, A40, H⟩ := H
  replace H : (some t144) = some r := H
  have A4 := Aside0.mk A40
  clear A40
  as_aux_lemma =>
    obtain rfl := Option.some.inj H
    go_enter Try.func24, Try.ntmps24
    go_wp2_with (first | ((with_reducible refine gate_callee (f := 38) rfl ?_); refine goesL_ (some 6) rfl rfl Try.func38 (by kernel_rfl) rfl #[.slice A0 l0.length c0] rfl (by (try simp only [List.map_toArray, List.map_cons, List.map_nil]); first | done | rfl | (simp only [List.length_drop, List.length_take]; rfl)) ?_; (with_reducible refine (impl_own.calls _ _ l0 t141 _ ?side1 ?side2 A3.out).mono ?_); (case side1 => repeat (first | exact HR0.out | (with_reducible refine Kd.C_alloc ?_ _) | (with_reducible refine Kd.C_drewN ?_ _) | (with_reducible refine Kd.C_drew ?_))); (case side2 => exact HC0.out); rintro e w5 ⟨v142, rfl, ho0, hb⟩; refine ⟨_, rfl, ?_⟩; have n0_ := Aside0.mk (Kd.R_lower ho0 (below_size (by repeat (first | (with_reducible first | exact HB.out | apply below_alloc | apply pw_below_drewN | apply below_drew1) | exact HB.out)))); have n1_ := Aside0.mk (below_step (by repeat (first | (with_reducible first | exact HB.out | apply below_alloc | apply pw_below_drewN | apply below_drew1) | exact HB.out)) hb); clear HB; have HO143 := n0_; have HB := n1_; clear n0_ n1_; (try clear hb); (try clear hb2); (try clear hk); (try clear hi); (try clear ho0); obtain ⟨Ao6, co6, eo6⟩ := Kd.R_slice HO143.out; subst eo6) | ((with_reducible refine gate_callee (f := 44) rfl ?_); refine goesL_ (some 8) rfl rfl Try.func44 (by kernel_rfl) rfl #[.slice Ao6 t141.length co6, .string a1] rfl (by (try simp only [List.map_toArray, List.map_cons, List.map_nil]); first | done | rfl | (simp only [List.length_drop, List.length_take]; rfl)) ?_; (with_reducible refine (bsoncore_AppendKey.calls (fun k_ => some k_ = (.slice Ao6 t141.length co6 : Value).ownBlock) (.slice Ao6 t141.length co6) t141 a1 t144 w _ ?side1 ?side2 A4.out).mono ?_); (case side1 => repeat (first | (with_reducible first | exact HB.out | apply below_alloc | apply pw_below_drewN | apply below_drew1) | exact HB.out)); (case side2 => exact Kd.R_tight rfl HO143.out); rintro e w7 ⟨v145, rfl, ho0, hb, hkp⟩; refine ⟨_, rfl, ?_⟩; have n0_ := Aside0.mk (Kd.R_mono (ok' := fun k_ => True) ho0 (fun k_ hk_ => trivial)); have n1_ := Aside0.mk (hb); clear HB; clear HO143; have HO146 := n0_; have HB := n1_; clear n0_ n1_; (try clear hb); (try clear hkp); (try clear ho0)))
    go_ret
    exact ⟨_, by first | rfl | (simp [errW_none, errW_some] <;> rfl) | (simp [*, errW_none, errW_some] <;> rfl), by (with_reducible repeat (first | apply Kd.R_alloc | apply Kd.R_drewN | apply Kd.R_drew)); exact HO146.out, by repeat (first | (with_reducible first | exact HB.out | apply below_alloc | apply pw_below_drewN | apply below_drew1) | exact HB.out)⟩

/-! ### impl_AppendType: function 25 -/
def impl_AppendType.f (l0 : List Int) (a1 : Int) : Option (List Int) := (impl_own.f l0).bind fun t147 => ((bsoncore_AppendType.f t147 ((a1) % 256)).bind fun t150 => (some t150))
set_option maxHeartbeats 8000000 in
set_option maxRecDepth 100000 in
theorem impl_AppendType.calls (A0 : Option Addr) (c0 : Nat) (l0 : List Int) (a1 : Int) (r : List Int) (w : World) (hr0 : Kd.C (Kd.int .u8) w A0 l0.length l0) (hc0 : l0.length ≤ c0) (h : impl_AppendType.f l0 a1 = some r) :
    Calls Try.prog 25 #[.slice A0 l0.length c0, .int .i64 a1] w fun e w' => ∃ v0_ : Value, e = .returned (v0_) ∧ Kd.R (Kd.int .u8) 5 w' w.heap.size (fun _ => True) v0_ r ∧ Below w.heap.size w w' := by
  have HR0 := Aside0.mk hr0
  have HC0 := Aside0.mk hc0
  clear hr0 hc0
  have HB := Aside0.mk (Below.refl w.heap.size w)
  have H : ((impl_own.f l0).bind fun t147 => ((bsoncore_AppendType.f t147 ((a1) % 256)).bind fun t150 => (some t150))) = some r := h
  clear h
  replace H := Option.bind_eq_some_iff.mp H
  obtain ⟨t147, A30, H⟩ := H
  replace H : ((bsoncore_AppendType.f t147 ((a1) % 256)).bind fun t150 => (some t150)) = some r := H
  have A3 := Aside0.mk A30
  clear A30
  replace H := Option.bind_eq_some_iff.mp H
  obtain ⟨t150, A40, H⟩ := H
  replace H : (some t150) = some r := H
  have A4 := Aside0.mk A40
  clear A40
  as_aux_lemma =>
    obtain rfl := Option.some.inj H
    go_enter Try.func25, Try.ntmps25
    go_wp2_with (first | ((with_reducible refine gate_callee (f := 38) rfl ?_); refine goesL_ (some 6) rfl rfl Try.func38 (by kernel_rfl) rfl #[.slice A0 l0.length c0] rfl (by (try simp only [List.map_toArray, List.map_cons, List.map_nil]); first | done | rfl | (simp only [List.length_drop, List.length_take]; rfl)) ?_; (with_reducible refine (impl_own.calls _ _ l0 t147 _ ?side1 ?side2 A3.out).mono ?_); (case side1 => repeat (first | exact HR0.out | (with_reducible refine Kd.C_alloc ?_ _) | (with_reducible refine Kd.C_drewN ?_ _) | (with_reducible refine Kd.C_drew ?_))); (case side2 => exact HC0.out); rintro e w5 ⟨v148, rfl, ho0, hb⟩; refine ⟨_, rfl, ?_⟩; have n0_ := Aside0.mk (Kd.R_lower ho0 (below_size (by repeat (first | (with_reducible first | exact HB.out | apply below_alloc | apply pw_below_drewN | apply below_drew1) | exact HB.out)))); have n1_ := Aside0.mk (below_step (by repeat (first | (with_reducible first | exact HB.out | apply below_alloc | apply pw_below_drewN | apply below_drew1) | exact HB.out)) hb); clear HB; have HO149 := n0_; have HB := n1_; clear n0_ n1_; (try clear hb); (try clear hb2); (try clear hk); (try clear hi); (try clear ho0); obtain ⟨Ao6, co6, eo6⟩ := Kd.R_slice HO149.out; subst eo6) | ((with_reducible refine gate_callee (f := 45) rfl ?_); refine goesL_ (some 9) rfl rfl Try.func45 (by kernel_rfl) rfl #[.slice Ao6 t147.length co6, .int .u8 ((a1) % 256)] rfl (by (try simp only [List.map_toArray, List.map_cons, List.map_nil]); first | done | rfl | (simp only [List.length_drop, List.length_take]; rfl)) ?_; (with_reducible refine (bsoncore_AppendType.calls (fun k_ => some k_ = (.slice Ao6 t147.length co6 : Value).ownBlock) (.slice Ao6 t147.length co6) t147 ((a1) % 256) t150 w _ ?side1 ?side2 A4.out).mono ?_); (case side1 => repeat (first | (with_reducible first | exact HB.out | apply below_alloc | apply pw_below_drewN | apply below_drew1) | exact HB.out)); (case side2 => exact Kd.R_tight rfl HO149.out); rintro e w7 ⟨v151, rfl, ho0, hb, hkp⟩; refine ⟨_, rfl, ?_⟩; have n0_ := Aside0.mk (Kd.R_mono (ok' := fun k_ => True) ho0 (fun k_ hk_ => trivial)); have n1_ := Aside0.mk (hb); clear HB; clear HO149; have HO152 := n0_; have HB := n1_; clear n0_ n1_; (try clear hb); (try clear hkp); (try clear ho0)))
    go_ret
    exact ⟨_, by first | rfl | (simp [errW_none, errW_some] <;> rfl) | (simp [*, errW_none, errW_some] <;> rfl), by (with_reducible repeat (first | apply Kd.R_alloc | apply Kd.R_drewN | apply Kd.R_drew)); exact HO152.out, by repeat (first | (with_reducible first | exact HB.out | apply below_alloc | apply pw_below_drewN | apply below_drew1) | exact HB.out)⟩

/-! ### bsoncore_ReadType: function 47 -/
def bsoncore_ReadType.f (l0 : List Int) : Option (Int × List Int × Bool) := if (l0.length : Int) < 1 then (some (0, l0, false)) else (if 0 < (l0.length : Int) then (if 1 ≤ (l0.length : Int) then (some (rd l0 0, (l0.drop 1), true)) else (none)) else (none))
set_option maxHeartbeats 8000000 in
set_option maxRecDepth 100000 in
theorem bsoncore_ReadType.calls (P0_ : Nat → Prop) (A0 : Option Addr) (c0 : Nat) (l0 : List Int) (r1 : Int) (r2 : List Int) (r3 : Bool) (w : World) (hs0 : Kd.V (Kd.int .u8) 5 w w.heap.size (fun k_ => P0_ k_) (.slice A0 l0.length c0) l0) (h : bsoncore_ReadType.f l0 = some (r1, r2, r3)) :
    Calls Try.prog 47 #[.slice A0 l0.length c0] w fun e w' => ∃ v1_ : Value, e = .returned (.tuple #[.int .u8 r1, v1_, .bool r3]) ∧ Kd.V (Kd.int .u8) 5 w' w.heap.size (fun k_ => (P0_ k_ ∨ w.heap.size ≤ k_)) v1_ r2 ∧ Below w.heap.size w w' := by
  have HO0 := Aside0.mk (show Kd.V (Kd.int .u8) 5 w w.heap.size (fun k_ => (P0_ k_ ∨ w.heap.size ≤ k_)) (.slice A0 l0.length c0) l0 from Kd.V_mono hs0 (fun k_ hk => .inl hk))
  have HB := Aside0.mk (Below.refl w.heap.size w)
  have H : (if (l0.length : Int) < 1 then (some (0, l0, false)) else (if 0 < (l0.length : Int) then (if 1 ≤ (l0.length : Int) then (some (rd l0 0, (l0.drop 1), true)) else (none)) else (none))) = some (r1, r2, r3) := h
  clear h
  by_cases c2 : (l0.length : Int) < 1
  · rw [if_pos c2] at H
    have c2b0 : decide ((l0.length : Int) < 1) = true := decide_eq_true c2
    have c2b1 : decide (l0.length < 1) = true := decide_eq_true (by omega)
    clear c2
    as_aux_lemma =>
      simp only [Option.some.injEq, Prod.mk.injEq] at H
      obtain ⟨rfl, rfl, rfl⟩ := H
      go_enter Try.func47, Try.ntmps47
      go_wp2
      repeat (go_quiet (fail); try go_wp2)
      go_ret3
      exact ⟨_, by first | rfl | (simp [errW_none, errW_some] <;> rfl) | (simp [*, errW_none, errW_some] <;> rfl), by (with_reducible repeat (first | apply Kd.V_alloc | apply Kd.V_drewN | apply Kd.V_drew)); exact HO0.out, by repeat (first | (with_reducible first | exact HB.out | apply below_alloc | apply pw_below_drewN | apply below_drew1) | exact HB.out)⟩
  · rw [if_neg c2] at H
    have c2b0 : decide ((l0.length : Int) < 1) = false := decide_eq_false c2
    have c2b1 : decide (l0.length < 1) = false := decide_eq_false (by omega)
    clear c2
    by_cases c3 : 0 < (l0.length : Int)
    · rw [if_pos c3] at H
      have c3b0 : decide (0 < (l0.length : Int)) = true := decide_eq_true c3
      have c3b1 : decide (0 < l0.length) = true := decide_eq_true (by omega)
      clear c3
      by_cases c4 : 1 ≤ (l0.length : Int)
      · rw [if_pos c4] at H
        have c4b0 := eq_true c4
        have c4b1 : decide (1 ≤ (l0.length : Int)) = true := decide_eq_true c4
        clear c4
        obtain ⟨y154, hy154⟩ : ∃ y_ : List Int, y_ = (l0.drop 1) := ⟨_, rfl⟩
        replace H : (some (rd l0 0, y154, true)) = some (r1, r2, r3) := by first | (rw [hy154]; with_reducible exact H) | (have H2_ := (Option.bind_some _ _).symm.trans H; rw [hy154]; with_reducible exact H2_) | (have H2_ := (Option.bind_some _ _).symm.trans H; with_reducible exact H2_) | with_reducible exact H | (rw [hy154]; exact H) | exact H
        have Ny154 := Aside0.mk hy154
        clear hy154
        as_aux_lemma =>
          simp only [Option.some.injEq, Prod.mk.injEq] at H
          obtain ⟨rfl, rfl, rfl⟩ := H
          have p153 : 0 ≤ (0 : Int) := (by omega)
          have q153 : 0 < (l0.length : Int) := of_decide_eq_true (by first | (with_reducible assumption) | assumption)
          obtain ⟨ad153, e153, hx153_0⟩ := Kd.at_int (Kd.V_reads' HO0.out).2.2 0 p153 q153
          cases e153
          have qi153 : (0 < l0.length) = True := eq_true (by omega)
          (try rw [show ((0 : Int)).toNat = 0 from rfl] at hx153_0)
          (try rw [Addr.add_zero'] at hx153_0)
          replace p153 := eq_true p153
          replace q153 := eq_true q153
          have q5 : (1 : Int) ≤ ((l0.length : Int) : Int) := of_decide_eq_true (by first | (with_reducible assumption) | assumption)
          obtain ⟨i05, hi05, _, hsz5, _⟩ := info_parts info5
          have hroom5 : l0.length ≤ c0 := (Kd.V_reads' HO0.out).2.1
          have hC5 : Kd.F (Kd.int .u8) _ _ (some ad153) l0.length l0 := (Kd.V_at (base := w.heap.size) HO0.out).2.2
          have hcut5 := cut_from (P := Try.prog) 24 5 .i64 Try.underlying24 hi05 1 hsz5 (some ad153) l0.length c0 1 (by omega) q5
          have hr5 := Kd.F_cut (m := (1 : Int).toNat) (c := c0) hC5 (by omega) hroom5
          obtain ⟨A5, hA5⟩ : ∃ A1, A1 = (if c0 = (1 : Int).toNat then (some ad153) else ((some ad153) : Option Addr).map (·.add ((1 : Int).toNat * 1))) := ⟨_, rfl⟩
          obtain ⟨c5, hc5⟩ : ∃ c1, c1 = c0 - (1 : Int).toNat := ⟨_, rfl⟩
          have hy5 : y154.length = l0.length - (1 : Int).toNat := (by rw [Ny154.out, List.length_drop] <;> omega)
          rw [show (l0).drop (1 : Int).toNat = y154 from Ny154.out.symm] at hr5
          replace hr5 : Kd.F (Kd.int .u8) _ _ A5 y154.length y154 := (by rw [hA5]; exact hr5)
          rw [← hy5, ← hA5, ← hc5] at hcut5
          have HO158 := Aside0.mk (show Kd.V (Kd.int .u8) 5 _ w.heap.size _ (.slice A5 y154.length c5) y154 from Kd.V_mk (by rw [hy5, hc5]; exact Nat.sub_le_sub_right hroom5 _) hr5)
          have HC158 := Aside0.mk (show y154.length ≤ c5 from by rw [hy5, hc5]; exact Nat.sub_le_sub_right hroom5 _)
          clear hr5 hC5 hroom5 hi05 hsz5 hc5
          have KY5 := Aside0.mk hy5
          have KA5 := Aside0.mk hA5
          clear hy5 hA5
          replace q5 := eq_true q5
          go_enter Try.func47, Try.ntmps47
          go_wp2
          repeat (go_quiet (fail); try go_wp2)
          go_ret3
          exact ⟨_, by first | rfl | (simp [errW_none, errW_some] <;> rfl) | (simp [*, errW_none, errW_some] <;> rfl), by (with_reducible repeat (first | apply Kd.V_alloc | apply Kd.V_drewN | apply Kd.V_drew)); exact HO158.out, by repeat (first | (with_reducible first | exact HB.out | apply below_alloc | apply pw_below_drewN | apply below_drew1) | exact HB.out)⟩
      · rw [if_neg c4] at H
        exact absurd H (by simp)
    · rw [if_neg c3] at H
      exact absurd H (by simp)

-- NOT PRINTED: function 83 (bytealg_IndexByte)

/-! ### bytes_IndexByte: function 74 -/
def bytes_IndexByte.f (l0 : List Int) (a1 : Int) : Option (Int) := some (Lib.indexByte (Lib.bytesOf l0) a1.toNat.toUInt8)
set_option maxHeartbeats 1000000 in
set_option maxRecDepth 100000 in
theorem bytes_IndexByte.calls (A0 : Option Addr) (c0 : Nat) (l0 : List Int) (a1 : Int) (r : Int) (w : World) (hr0 : Kd.C (Kd.int .u8) w A0 l0.length l0) (_hc0 : l0.length ≤ c0) (h : bytes_IndexByte.f l0 a1 = some r) :
    Calls Try.prog 74 #[.slice A0 l0.length c0, .int .u8 a1] w fun e w' => e = .returned (.int .i64 r) ∧ Drawn0 w w' := by
  obtain rfl := Option.some.inj h
  clear h
  have HR := Kd.reads_of_C (enc := Value.int .u8) (d := (0 : Int)) (h1 := fun _ => rfl) hr0
  clear hr0
  cases A0 with
  | none =>
    have hl : l0 = [] := by
      rcases Nat.eq_zero_or_pos l0.length with hz | hz
      · exact List.eq_nil_of_length_eq_zero hz
      · obtain ⟨_, he, _⟩ := HR.2.2 hz
        cases he
    subst hl
    go_enter Try.func74, Try.ntmps74
    go_wp2
    rw [run_callFunc_extern Try.func83 (by kernel_rfl) (by kernel_rfl) (by kernel_rfl) (e := Extern.BytealgIndexByte.indexByte) (by kernel_rfl), Lib.run_indexByteNil w]
    simp only [Result.andThen]
    rw [Oper.upon_value]
    go_wp2
    go_ret
    exact ⟨rfl, ⟨0, rfl⟩⟩
  | some a =>
    have hc : ∀ i, i < l0.length → w.cell? (a.add i) = some (.int .u8 (l0.getD i 0)) := by
      intro i hi
      obtain ⟨ad, he, hc⟩ := HR.2.2 (by omega)
      cases he
      exact hc i hi
    clear HR
    go_enter Try.func74, Try.ntmps74
    go_wp2
    rw [run_callFunc_extern Try.func83 (by kernel_rfl) (by kernel_rfl) (by kernel_rfl) (e := Extern.BytealgIndexByte.indexByte) (by kernel_rfl), Lib.run_indexByteAt w a l0.length c0 l0 rfl hc a1]
    simp only [Result.andThen]
    rw [Oper.upon_value]
    go_wp2
    go_ret
    exact ⟨rfl, ⟨0, rfl⟩⟩

/-! ### binaryutil_ReadCStringBytes: function 64 -/
def binaryutil_ReadCStringBytes.f (l0 : List Int) : Option (List Int × List Int × Bool) := (bytes_IndexByte.f l0 0).bind fun t159 => (if t159 < 0 then (some (([] : List Int), l0, false)) else (if 0 ≤ t159 then (if t159 ≤ (l0.length : Int) then (if 0 ≤ (wrap64 (t159 + 1)) then (if (wrap64 (t159 + 1)) ≤ (l0.length : Int) then (some ((l0.take (t159 : Int).toNat), (l0.drop ((wrap64 (t159 + 1)) : Int).toNat), true)) else (none)) else (none)) else (none)) else (none)))
set_option maxHeartbeats 8000000 in
set_option maxRecDepth 100000 in
theorem binaryutil_ReadCStringBytes.calls (P0_ : Nat → Prop) (A0 : Option Addr) (c0 : Nat) (l0 : List Int) (r1 : List Int) (r2 : List Int) (r3 : Bool) (w : World) (hs0 : Kd.V (Kd.int .u8) 5 w w.heap.size (fun k_ => P0_ k_) (.slice A0 l0.length c0) l0) (h : binaryutil_ReadCStringBytes.f l0 = some (r1, r2, r3)) :
    Calls Try.prog 64 #[.slice A0 l0.length c0] w fun e w' => ∃ v0_ v1_ : Value, e = .returned (.tuple #[v0_, v1_, .bool r3]) ∧ Kd.V (Kd.int .u8) 5 w' w.heap.size (fun k_ => (P0_ k_ ∨ w.heap.size ≤ k_)) v0_ r1 ∧ Kd.V (Kd.int .u8) 5 w' w.heap.size (fun k_ => (P0_ k_ ∨ w.heap.size ≤ k_)) v1_ r2 ∧ Below w.heap.size w w' := by
  have HO0 := Aside0.mk (show Kd.V (Kd.int .u8) 5 w w.heap.size (fun k_ => (P0_ k_ ∨ w.heap.size ≤ k_)) (.slice A0 l0.length c0) l0 from Kd.V_mono hs0 (fun k_ hk => .inl hk))
  have HB := Aside0.mk (Below.refl w.heap.size w)
  have H : ((bytes_IndexByte.f l0 0).bind fun t159 => (if t159 < 0 then (some (([] : List Int), l0, false)) else (if 0 ≤ t159 then (if t159 ≤ (l0.length : Int) then (if 0 ≤ (wrap64 (t159 + 1)) then (if (wrap64 (t159 + 1)) ≤ (l0.length : Int) then (some ((l0.take (t159 : Int).toNat), (l0.drop ((wrap64 (t159 + 1)) : Int).toNat), true)) else (none)) else (none)) else (none)) else (none)))) = some (r1, r2, r3) := h
  clear h
  replace H := Option.bind_eq_some_iff.mp H
  obtain ⟨t159, A20, H⟩ := H
  replace H : (if t159 < 0 then (some (([] : List Int), l0, false)) else (if 0 ≤ t159 then (if t159 ≤ (l0.length : Int) then (if 0 ≤ (wrap64 (t159 + 1)) then (if (wrap64 (t159 + 1)) ≤ (l0.length : Int) then (some ((l0.take (t159 : Int).toNat), (l0.drop ((wrap64 (t159 + 1)) : Int).toNat), true)) else (none)) else (none)) else (none)) else (none))) = some (r1, r2, r3) := H
  have A2 := Aside0.mk A20
  clear A20
  by_cases c3 : t159 < 0
  · rw [if_pos c3] at H
    have c3b0 : decide (t159 < 0) = true := decide_eq_true c3
    clear c3
    as_aux_lemma =>
      simp only [Option.some.injEq, Prod.mk.injEq] at H
      obtain ⟨rfl, rfl, rfl⟩ := H
      go_enter Try.func64, Try.ntmps64
      go_wp2_with (first | (go_at_call 74; (with_reducible refine (bytes_IndexByte.calls _ _ l0 0 t159 _ ?side1 ?side2 A2.out).mono ?_); (case side1 => repeat (first | exact (Kd.V_reads' HO0.out).2.2 | (with_reducible refine Kd.C_alloc ?_ _) | (with_reducible refine Kd.C_drewN ?_ _) | (with_reducible refine Kd.C_drew ?_))); (case side2 => exact (Kd.V_reads' HO0.out).2.1); rintro e w' ⟨rfl, ⟨nd, rfl⟩⟩; (try first | exact ⟨rfl, _, World.drewN_drewN _ _ _⟩ | exact ⟨rfl, _, Eq.trans (World.drewN_drewN _ _ _) (congrArg (World.drewN _) (Nat.add_assoc _ _ _))⟩)))
      repeat (go_quiet (first | (go_at_call 74; (with_reducible refine (bytes_IndexByte.calls _ _ l0 0 t159 _ ?side1 ?side2 A2.out).mono ?_); (case side1 => repeat (first | exact (Kd.V_reads' HO0.out).2.2 | (with_reducible refine Kd.C_alloc ?_ _) | (with_reducible refine Kd.C_drewN ?_ _) | (with_reducible refine Kd.C_drew ?_))); (case side2 => exact (Kd.V_reads' HO0.out).2.1); rintro e w' ⟨rfl, ⟨nd, rfl⟩⟩; (try first | exact ⟨rfl, _, World.drewN_drewN _ _ _⟩ | exact ⟨rfl, _, Eq.trans (World.drewN_drewN _ _ _) (congrArg (World.drewN _) (Nat.add_assoc _ _ _))⟩))); try go_wp2_with (first | (go_at_call 74; (with_reducible refine (bytes_IndexByte.calls _ _ l0 0 t159 _ ?side1 ?side2 A2.out).mono ?_); (case side1 => repeat (first | exact (Kd.V_reads' HO0.out).2.2 | (with_reducible refine Kd.C_alloc ?_ _) | (with_reducible refine Kd.C_drewN ?_ _) | (with_reducible refine Kd.C_drew ?_))); (case side2 => exact (Kd.V_reads' HO0.out).2.1); rintro e w' ⟨rfl, ⟨nd, rfl⟩⟩; (try first | exact ⟨rfl, _, World.drewN_drewN _ _ _⟩ | exact ⟨rfl, _, Eq.trans (World.drewN_drewN _ _ _) (congrArg (World.drewN _) (Nat.add_assoc _ _ _))⟩))))
      go_ret3
      exact ⟨_, _, by first | rfl | (simp [errW_none, errW_some] <;> rfl) | (simp [*, errW_none, errW_some] <;> rfl), Kd.V_nil _ _ _ _ _, by (with_reducible repeat (first | apply Kd.V_alloc | apply Kd.V_drewN | apply Kd.V_drew)); exact HO0.out, by repeat (first | (with_reducible first | exact HB.out | apply below_alloc | apply pw_below_drewN | apply below_drew1) | exact HB.out)⟩
  · rw [if_neg c3] at H
    have c3b0 : decide (t159 < 0) = false := decide_eq_false c3
    clear c3
    by_cases c4 : 0 ≤ t159
    · rw [if_pos c4] at H
      have c4b0 := eq_true c4
      have c4b1 : decide (0 ≤ t159) = true := decide_eq_true c4
      clear c4
      by_cases c5 : t159 ≤ (l0.length : Int)
      · rw [if_pos c5] at H
        have c5b0 := eq_true c5
        have c5b1 : decide (t159 ≤ (l0.length : Int)) = true := decide_eq_true c5
        clear c5
        obtain ⟨y160, hy160⟩ : ∃ y_ : List Int, y_ = (l0.take (t159 : Int).toNat) := ⟨_, rfl⟩
        replace H : (if 0 ≤ (wrap64 (t159 + 1)) then (if (wrap64 (t159 + 1)) ≤ (l0.length : Int) then (some (y160, (l0.drop ((wrap64 (t159 + 1)) : Int).toNat), true)) else (none)) else (none)) = some (r1, r2, r3) := by first | (rw [hy160]; with_reducible exact H) | (have H2_ := (Option.bind_some _ _).symm.trans H; rw [hy160]; with_reducible exact H2_) | (have H2_ := (Option.bind_some _ _).symm.trans H; with_reducible exact H2_) | with_reducible exact H | (rw [hy160]; exact H) | exact H
        have Ny160 := Aside0.mk hy160
        clear hy160
        obtain ⟨ji6, hji6⟩ : ∃ j_ : Int, (wrap64 (t159 + 1)) = j_ := ⟨_, rfl⟩
        replace H : (if 0 ≤ (ji6) then (if (ji6) ≤ (l0.length : Int) then (some (y160, (l0.drop ((ji6) : Int).toNat), true)) else (none)) else (none)) = some (r1, r2, r3) := by first | (rw [hji6] at H; exact H) | (simp only [hji6] at H ⊢; exact H)
        (try rw [hji6] at A2)
        have hji6w : (IntKind.i64.wrap (t159 + 1)) = ji6 := (i64_w _).trans hji6
        by_cases c7 : 0 ≤ (ji6)
        · rw [if_pos c7] at H
          have c7b0 := eq_true c7
          have c7b1 : decide (0 ≤ (ji6)) = true := decide_eq_true c7
          clear c7
          by_cases c8 : (ji6) ≤ (l0.length : Int)
          · rw [if_pos c8] at H
            have c8b0 := eq_true c8
            have c8b1 : decide ((ji6) ≤ (l0.length : Int)) = true := decide_eq_true c8
            clear c8
            obtain ⟨y165, hy165⟩ : ∃ y_ : List Int, y_ = (l0.drop ((ji6) : Int).toNat) := ⟨_, rfl⟩
            replace H : (some (y160, y165, true)) = some (r1, r2, r3) := by first | (rw [hy165]; with_reducible exact H) | (have H2_ := (Option.bind_some _ _).symm.trans H; rw [hy165]; with_reducible exact H2_) | (have H2_ := (Option.bind_some _ _).symm.trans H; with_reducible exact H2_) | with_reducible exact H | (rw [hy165]; exact H) | exact H
            have Ny165 := Aside0.mk hy165
            clear hy165
            as_aux_lemma =>
              simp only [Option.some.injEq, Prod.mk.injEq] at H
              obtain ⟨rfl, rfl, rfl⟩ := H
              go_enter Try.func64, Try.ntmps64
              go_wp2_with (first | (go_at_call 74; (with_reducible refine (bytes_IndexByte.calls _ _ l0 0 t159 _ ?side1 ?side2 A2.out).mono ?_); (case side1 => repeat (first | exact (Kd.V_reads' HO0.out).2.2 | (with_reducible refine Kd.C_alloc ?_ _) | (with_reducible refine Kd.C_drewN ?_ _) | (with_reducible refine Kd.C_drew ?_))); (case side2 => exact (Kd.V_reads' HO0.out).2.1); rintro e w' ⟨rfl, ⟨nd, rfl⟩⟩; (try first | exact ⟨rfl, _, World.drewN_drewN _ _ _⟩ | exact ⟨rfl, _, Eq.trans (World.drewN_drewN _ _ _) (congrArg (World.drewN _) (Nat.add_assoc _ _ _))⟩); have q9 : (t159 : Int) ≤ ((l0.length : Int) : Int) := of_decide_eq_true (by first | (with_reducible assumption) | assumption); obtain ⟨i09, hi09, _, hsz9, _⟩ := info_parts info5; have hroom9 : l0.length ≤ c0 := (Kd.V_reads' HO0.out).2.1; have hC9 : Kd.F (Kd.int .u8) _ _ A0 l0.length l0 := (Kd.V_at (base := w.heap.size) HO0.out).2.2; have hcut9 := cut_to (P := Try.prog) 24 5 .i64 Try.underlying24 hi09 A0 l0.length c0 t159 (of_decide_eq_true (by first | (with_reducible assumption) | assumption)) q9 hroom9; have hr9 := Kd.F_take (m := (t159 : Int).toNat) hC9 (by omega); have hy9 : y160.length = (t159 : Int).toNat := (by rw [Ny160.out, List.length_take]; omega); rw [← Ny160.out] at hr9; rw [← hy9] at hcut9; have HO164 := Aside0.mk (show Kd.V (Kd.int .u8) 5 _ w.heap.size _ (.slice A0 y160.length c0) y160 from Kd.V_mk (by omega) hr9); have HC164 := Aside0.mk (show y160.length ≤ c0 from by omega); clear hr9 hC9 hroom9 hi09 hsz9; have KY9 := Aside0.mk hy9; clear hy9; replace q9 := eq_true q9; have q10 : ((ji6) : Int) ≤ ((l0.length : Int) : Int) := of_decide_eq_true (by first | (with_reducible assumption) | assumption); obtain ⟨i010, hi010, _, hsz10, _⟩ := info_parts info5; have hroom10 : l0.length ≤ c0 := (Kd.V_reads' HO0.out).2.1; have hC10 : Kd.F (Kd.int .u8) _ _ A0 l0.length l0 := (Kd.V_at (base := w.heap.size) HO0.out).2.2; have q010 : (0 : Int) ≤ ((ji6) : Int) := of_decide_eq_true (by first | (with_reducible assumption) | assumption); have hcut10 := cut_from (P := Try.prog) 24 5 .i64 Try.underlying24 hi010 1 hsz10 A0 l0.length c0 (ji6) q010 q10; have hr10 := Kd.F_cut (m := ((ji6) : Int).toNat) (c := c0) hC10 (by omega) hroom10; obtain ⟨A10, hA10⟩ : ∃ A1, A1 = (if c0 = ((ji6) : Int).toNat then A0 else (A0 : Option Addr).map (·.add (((ji6) : Int).toNat * 1))) := ⟨_, rfl⟩; obtain ⟨c10, hc10⟩ : ∃ c1, c1 = c0 - ((ji6) : Int).toNat := ⟨_, rfl⟩; have hy10 : y165.length = l0.length - ((ji6) : Int).toNat := (by rw [Ny165.out, List.length_drop] <;> omega); rw [show (l0).drop ((ji6) : Int).toNat = y165 from Ny165.out.symm] at hr10; replace hr10 : Kd.F (Kd.int .u8) _ _ A10 y165.length y165 := (by rw [hA10]; exact hr10); rw [← hy10, ← hA10, ← hc10] at hcut10; have HO169 := Aside0.mk (show Kd.V (Kd.int .u8) 5 _ w.heap.size _ (.slice A10 y165.length c10) y165 from Kd.V_mk (by rw [hy10, hc10]; exact Nat.sub_le_sub_right hroom10 _) hr10); have HC169 := Aside0.mk (show y165.length ≤ c10 from by rw [hy10, hc10]; exact Nat.sub_le_sub_right hroom10 _); clear hr10 hC10 hroom10 hi010 hsz10 hc10; have KY10 := Aside0.mk hy10; have KA10 := Aside0.mk hA10; clear hy10 hA10; replace q10 := eq_true q10))
              repeat (go_quiet (first | (go_at_call 74; (with_reducible refine (bytes_IndexByte.calls _ _ l0 0 t159 _ ?side1 ?side2 A2.out).mono ?_); (case side1 => repeat (first | exact (Kd.V_reads' HO0.out).2.2 | (with_reducible refine Kd.C_alloc ?_ _) | (with_reducible refine Kd.C_drewN ?_ _) | (with_reducible refine Kd.C_drew ?_))); (case side2 => exact (Kd.V_reads' HO0.out).2.1); rintro e w' ⟨rfl, ⟨nd, rfl⟩⟩; (try first | exact ⟨rfl, _, World.drewN_drewN _ _ _⟩ | exact ⟨rfl, _, Eq.trans (World.drewN_drewN _ _ _) (congrArg (World.drewN _) (Nat.add_assoc _ _ _))⟩); have q9 : (t159 : Int) ≤ ((l0.length : Int) : Int) := of_decide_eq_true (by first | (with_reducible assumption) | assumption); obtain ⟨i09, hi09, _, hsz9, _⟩ := info_parts info5; have hroom9 : l0.length ≤ c0 := (Kd.V_reads' HO0.out).2.1; have hC9 : Kd.F (Kd.int .u8) _ _ A0 l0.length l0 := (Kd.V_at (base := w.heap.size) HO0.out).2.2; have hcut9 := cut_to (P := Try.prog) 24 5 .i64 Try.underlying24 hi09 A0 l0.length c0 t159 (of_decide_eq_true (by first | (with_reducible assumption) | assumption)) q9 hroom9; have hr9 := Kd.F_take (m := (t159 : Int).toNat) hC9 (by omega); have hy9 : y160.length = (t159 : Int).toNat := (by rw [Ny160.out, List.length_take]; omega); rw [← Ny160.out] at hr9; rw [← hy9] at hcut9; have HO164 := Aside0.mk (show Kd.V (Kd.int .u8) 5 _ w.heap.size _ (.slice A0 y160.length c0) y160 from Kd.V_mk (by omega) hr9); have HC164 := Aside0.mk (show y160.length ≤ c0 from by omega); clear hr9 hC9 hroom9 hi09 hsz9; have KY9 := Aside0.mk hy9; clear hy9; replace q9 := eq_true q9; have q10 : ((ji6) : Int) ≤ ((l0.length : Int) : Int) := of_decide_eq_true (by first | (with_reducible assumption) | assumption); obtain ⟨i010, hi010, _, hsz10, _⟩ := info_parts info5; have hroom10 : l0.length ≤ c0 := (Kd.V_reads' HO0.out).2.1; have hC10 : Kd.F (Kd.int .u8) _ _ A0 l0.length l0 := (Kd.V_at (base := w.heap.size) HO0.out).2.2; have q010 : (0 : Int) ≤ ((ji6) : Int) := of_decide_eq_true (by first | (with_reducible assumption) | assumption); have hcut10 := cut_from (P := Try.prog) 24 5 .i64 Try.underlying24 hi010 1 hsz10 A0 l0.length c0 (ji6) q010 q10; have hr10 := Kd.F_cut (m := ((ji6) : Int).toNat) (c := c0) hC10 (by omega) hroom10; obtain ⟨A10, hA10⟩ : ∃ A1, A1 = (if c0 = ((ji6) : Int).toNat then A0 else (A0 : Option Addr).map (·.add (((ji6) : Int).toNat * 1))) := ⟨_, rfl⟩; obtain ⟨c10, hc10⟩ : ∃ c1, c1 = c0 - ((ji6) : Int).toNat := ⟨_, rfl⟩; have hy10 : y165.length = l0.length - ((ji6) : Int).toNat := (by rw [Ny165.out, List.length_drop] <;> omega); rw [show (l0).drop ((ji6) : Int).toNat = y165 from Ny165.out.symm] at hr10; replace hr10 : Kd.F (Kd.int .u8) _ _ A10 y165.length y165 := (by rw [hA10]; exact hr10); rw [← hy10, ← hA10, ← hc10] at hcut10; have HO169 := Aside0.mk (show Kd.V (Kd.int .u8) 5 _ w.heap.size _ (.slice A10 y165.length c10) y165 from Kd.V_mk (by rw [hy10, hc10]; exact Nat.sub_le_sub_right hroom10 _) hr10); have HC169 := Aside0.mk (show y165.length ≤ c10 from by rw [hy10, hc10]; exact Nat.sub_le_sub_right hroom10 _); clear hr10 hC10 hroom10 hi010 hsz10 hc10; have KY10 := Aside0.mk hy10; have KA10 := Aside0.mk hA10; clear hy10 hA10; replace q10 := eq_true q10)); try go_wp2_with (first | (go_at_call 74; (with_reducible refine (bytes_IndexByte.calls _ _ l0 0 t159 _ ?side1 ?side2 A2.out).mono ?_); (case side1 => repeat (first | exact (Kd.V_reads' HO0.out).2.2 | (with_reducible refine Kd.C_alloc ?_ _) | (with_reducible refine Kd.C_drewN ?_ _) | (with_reducible refine Kd.C_drew ?_))); (case side2 => exact (Kd.V_reads' HO0.out).2.1); rintro e w' ⟨rfl, ⟨nd, rfl⟩⟩; (try first | exact ⟨rfl, _, World.drewN_drewN _ _ _⟩ | exact ⟨rfl, _, Eq.trans (World.drewN_drewN _ _ _) (congrArg (World.drewN _) (Nat.add_assoc _ _ _))⟩); have q9 : (t159 : Int) ≤ ((l0.length : Int) : Int) := of_decide_eq_true (by first | (with_reducible assumption) | assumption); obtain ⟨i09, hi09, _, hsz9, _⟩ := info_parts info5; have hroom9 : l0.length ≤ c0 := (Kd.V_reads' HO0.out).2.1; have hC9 : Kd.F (Kd.int .u8) _ _ A0 l0.length l0 := (Kd.V_at (base := w.heap.size) HO0.out).2.2; have hcut9 := cut_to (P := Try.prog) 24 5 .i64 Try.underlying24 hi09 A0 l0.length c0 t159 (of_decide_eq_true (by first | (with_reducible assumption) | assumption)) q9 hroom9; have hr9 := Kd.F_take (m := (t159 : Int).toNat) hC9 (by omega); have hy9 : y160.length = (t159 : Int).toNat := (by rw [Ny160.out, List.length_take]; omega); rw [← Ny160.out] at hr9; rw [← hy9] at hcut9; have HO164 := Aside0.mk (show Kd.V (Kd.int .u8) 5 _ w.heap.size _ (.slice A0 y160.length c0) y160 from Kd.V_mk (by omega) hr9); have HC164 := Aside0.mk (show y160.length ≤ c0 from by omega); clear hr9 hC9 hroom9 hi09 hsz9; have KY9 := Aside0.mk hy9; clear hy9; replace q9 := eq_true q9; have q10 : ((ji6) : Int) ≤ ((l0.length : Int) : Int) := of_decide_eq_true (by first | (with_reducible assumption) | assumption); obtain ⟨i010, hi010, _, hsz10, _⟩ := info_parts info5; have hroom10 : l0.length ≤ c0 := (Kd.V_reads' HO0.out).2.1; have hC10 : Kd.F (Kd.int .u8) _ _ A0 l0.length l0 := (Kd.V_at (base := w.heap.size) HO0.out).2.2; have q010 : (0 : Int) ≤ ((ji6) : Int) := of_decide_eq_true (by first | (with_reducible assumption) | assumption); have hcut10 := cut_from (P := Try.prog) 24 5 .i64 Try.underlying24 hi010 1 hsz10 A0 l0.length c0 (ji6) q010 q10; have hr10 := Kd.F_cut (m := ((ji6) : Int).toNat) (c := c0) hC10 (by omega) hroom10; obtain ⟨A10, hA10⟩ : ∃ A1, A1 = (if c0 = ((ji6) : Int).toNat then A0 else (A0 : Option Addr).map (·.add (((ji6) : Int).toNat * 1))) := ⟨_, rfl⟩; obtain ⟨c10, hc10⟩ : ∃ c1, c1 = c0 - ((ji6) : Int).toNat := ⟨_, rfl⟩; have hy10 : y165.length = l0.length - ((ji6) : Int).toNat := (by rw [Ny165.out, List.length_drop] <;> omega); rw [show (l0).drop ((ji6) : Int).toNat = y165 from Ny165.out.symm] at hr10; replace hr10 : Kd.F (Kd.int .u8) _ _ A10 y165.length y165 := (by rw [hA10]; exact hr10); rw [← hy10, ← hA10, ← hc10] at hcut10; have HO169 := Aside0.mk (show Kd.V (Kd.int .u8) 5 _ w.heap.size _ (.slice A10 y165.length c10) y165 from Kd.V_mk (by rw [hy10, hc10]; exact Nat.sub_le_sub_right hroom10 _) hr10); have HC169 := Aside0.mk (show y165.length ≤ c10 from by rw [hy10, hc10]; exact Nat.sub_le_sub_right hroom10 _); clear hr10 hC10 hroom10 hi010 hsz10 hc10; have KY10 := Aside0.mk hy10; have KA10 := Aside0.mk hA10; clear hy10 hA10; replace q10 := eq_true q10)))
              go_ret3
              exact ⟨_, _, by first | rfl | (simp [errW_none, errW_some] <;> rfl) | (simp only [← hji6]; first | rfl | (simp [errW_none, errW_some] <;> rfl)) | (simp [*, errW_none, errW_some] <;> rfl), by (with_reducible repeat (first | apply Kd.V_alloc | apply Kd.V_drewN | apply Kd.V_drew)); exact HO164.out, by (with_reducible repeat (first | apply Kd.V_alloc | apply Kd.V_drewN | apply Kd.V_drew)); exact HO169.out, by repeat (first | (with_reducible first | exact HB.out | apply below_alloc | apply pw_below_drewN | apply below_drew1) | exact HB.out)⟩
          · rw [if_neg c8] at H
            exact absurd H (by simp)
        · rw [if_neg c7] at H
          exact absurd H (by simp)
      · rw [if_neg c5] at H
        exact absurd H (by simp)
    · rw [if_neg c4] at H
      exact absurd H (by simp)

/-! ### binaryutil_ReadCString: function 50 -/
def binaryutil_ReadCString.f (l0 : List Int) : Option (ByteArray × List Int × Bool) := (binaryutil_ReadCStringBytes.f l0).bind fun bt170 => (if bt170.2.2 = true then (some (strOfNums bt170.1, bt170.2.1, true)) else (some ((⟨#[]⟩ : ByteArray), l0, false)))
set_option maxHeartbeats 8000000 in
set_option maxRecDepth 100000 in
theorem binaryutil_ReadCString.calls (P0_ : Nat → Prop) (A0 : Option Addr) (c0 : Nat) (l0 : List Int) (r1 : ByteArray) (r2 : List Int) (r3 : Bool) (w : World) (hs0 : Kd.V (Kd.int .u8) 5 w w.heap.size (fun k_ => P0_ k_) (.slice A0 l0.length c0) l0) (h : binaryutil_ReadCString.f l0 = some (r1, r2, r3)) :
    Calls Try.prog 50 #[.slice A0 l0.length c0] w fun e w' => ∃ v1_ : Value, e = .returned (.tuple #[.string r1, v1_, .bool r3]) ∧ Kd.V (Kd.int .u8) 5 w' w.heap.size (fun k_ => (P0_ k_ ∨ w.heap.size ≤ k_)) v1_ r2 ∧ Below w.heap.size w w' := by
  have HO0 := Aside0.mk (show Kd.V (Kd.int .u8) 5 w w.heap.size (fun k_ => (P0_ k_ ∨ w.heap.size ≤ k_)) (.slice A0 l0.length c0) l0 from Kd.V_mono hs0 (fun k_ hk => .inl hk))
  have HB := Aside0.mk (Below.refl w.heap.size w)
  have H : ((binaryutil_ReadCStringBytes.f l0).bind fun bt170 => (if bt170.2.2 = true then (some (strOfNums bt170.1, bt170.2.1, true)) else (some ((⟨#[]⟩ : ByteArray), l0, false)))) = some (r1, r2, r3) := h
  clear h
  replace H := Option.bind_eq_some_iff.mp H
  obtain ⟨⟨t170, t173, t176⟩, A20, H⟩ := H
  replace H : (if t176 = true then (some (strOfNums t170, t173, true)) else (some ((⟨#[]⟩ : ByteArray), l0, false))) = some (r1, r2, r3) := H
  have A2 := Aside0.mk A20
  clear A20
  by_cases c3 : t176 = true
  · subst c3
    have H1 : (some (strOfNums t170, t173, true)) = some (r1, r2, r3) := by rw [if_pos rfl] at H; exact H
    clear H
    have H := H1
    clear H1
    as_aux_lemma =>
      simp only [Option.some.injEq, Prod.mk.injEq] at H
      obtain ⟨rfl, rfl, rfl⟩ := H
      go_enter Try.func50, Try.ntmps50
      go_wp2_with (first | ((with_reducible refine gate_callee (f := 64) rfl ?_); refine goesL_ (some 10) rfl rfl Try.func64 (by kernel_rfl) rfl #[.slice A0 l0.length c0] rfl (by (try simp only [List.map_toArray, List.map_cons, List.map_nil]); first | done | rfl | (simp only [List.length_drop, List.length_take]; rfl)) ?_; (with_reducible refine (binaryutil_ReadCStringBytes.calls (fun k_ => (P0_ k_ ∨ w.heap.size ≤ k_)) _ _ l0 t170 t173 true _ ?side1 A2.out).mono ?_); (case side1 => exact HO0.out); rintro e w4 ⟨v171, v174, rfl, ho0, ho1, hb⟩; refine ⟨_, rfl, ?_⟩; have n0_ := Aside0.mk (Kd.V_below (by (with_reducible repeat (first | apply Kd.V_alloc | apply Kd.V_drewN | apply Kd.V_drew)); exact HO0.out) hb); have n1_ := Aside0.mk (Kd.V_lower (Kd.V_mono (ok' := fun k_ => (P0_ k_ ∨ w.heap.size ≤ k_)) ho0 (fun k_ hk_ => Or.elim hk_ (fun hs_ => hs_) (fun hn_ => (.inr (Nat.le_trans (below_size (by repeat (first | (with_reducible first | exact HB.out | apply below_alloc | apply pw_below_drewN | apply below_drew1) | exact HB.out))) hn_))))) (below_size (by repeat (first | (with_reducible first | exact HB.out | apply below_alloc | apply pw_below_drewN | apply below_drew1) | exact HB.out)))); have n2_ := Aside0.mk (Kd.V_lower (Kd.V_mono (ok' := fun k_ => (P0_ k_ ∨ w.heap.size ≤ k_)) ho1 (fun k_ hk_ => Or.elim hk_ (fun hs_ => hs_) (fun hn_ => (.inr (Nat.le_trans (below_size (by repeat (first | (with_reducible first | exact HB.out | apply below_alloc | apply pw_below_drewN | apply below_drew1) | exact HB.out))) hn_))))) (below_size (by repeat (first | (with_reducible first | exact HB.out | apply below_alloc | apply pw_below_drewN | apply below_drew1) | exact HB.out)))); have n3_ := Aside0.mk (below_step (by repeat (first | (with_reducible first | exact HB.out | apply below_alloc | apply pw_below_drewN | apply below_drew1) | exact HB.out)) hb); clear HO0; clear HB; have HO0 := n0_; have HO172 := n1_; have HO175 := n2_; have HB := n3_; clear n0_ n1_ n2_ n3_; (try clear hb); (try clear hb2); (try clear hk); (try clear hi); (try clear ho0); (try clear ho1); have hcv5 := HW.V_string (P := Try.prog) Try.underlying24 Try.underlying5 Try.underlying9 (HO172.out)))
      go_ret3
      exact ⟨_, by first | rfl | (simp [errW_none, errW_some] <;> rfl) | (simp [*, errW_none, errW_some] <;> rfl), by (with_reducible repeat (first | apply Kd.V_alloc | apply Kd.V_drewN | apply Kd.V_drew)); exact HO175.out, by repeat (first | (with_reducible first | exact HB.out | apply below_alloc | apply pw_below_drewN | apply below_drew1) | exact HB.out)⟩
  · replace c3 := Bool.eq_false_iff.mpr c3
    subst c3
    have H1 : (some ((⟨#[]⟩ : ByteArray), l0, false)) = some (r1, r2, r3) := by rw [if_neg (show ¬ (false = true) by decide)] at H; exact H
    clear H
    have H := H1
    clear H1
    as_aux_lemma =>
      simp only [Option.some.injEq, Prod.mk.injEq] at H
      obtain ⟨rfl, rfl, rfl⟩ := H
      go_enter Try.func50, Try.ntmps50
      go_wp2_with (first | ((with_reducible refine gate_callee (f := 64) rfl ?_); refine goesL_ (some 10) rfl rfl Try.func64 (by kernel_rfl) rfl #[.slice A0 l0.length c0] rfl (by (try simp only [List.map_toArray, List.map_cons, List.map_nil]); first | done | rfl | (simp only [List.length_drop, List.length_take]; rfl)) ?_; (with_reducible refine (binaryutil_ReadCStringBytes.calls (fun k_ => (P0_ k_ ∨ w.heap.size ≤ k_)) _ _ l0 t170 t173 false _ ?side1 A2.out).mono ?_); (case side1 => exact HO0.out); rintro e w6 ⟨v171, v174, rfl, ho0, ho1, hb⟩; refine ⟨_, rfl, ?_⟩; have n0_ := Aside0.mk (Kd.V_below (by (with_reducible repeat (first | apply Kd.V_alloc | apply Kd.V_drewN | apply Kd.V_drew)); exact HO0.out) hb); have n1_ := Aside0.mk (Kd.V_lower (Kd.V_mono (ok' := fun k_ => (P0_ k_ ∨ w.heap.size ≤ k_)) ho0 (fun k_ hk_ => Or.elim hk_ (fun hs_ => hs_) (fun hn_ => (.inr (Nat.le_trans (below_size (by repeat (first | (with_reducible first | exact HB.out | apply below_alloc | apply pw_below_drewN | apply below_drew1) | exact HB.out))) hn_))))) (below_size (by repeat (first | (with_reducible first | exact HB.out | apply below_alloc | apply pw_below_drewN | apply below_drew1) | exact HB.out)))); have n2_ := Aside0.mk (Kd.V_lower (Kd.V_mono (ok' := fun k_ => (P0_ k_ ∨ w.heap.size ≤ k_)) ho1 (fun k_ hk_ => Or.elim hk_ (fun hs_ => hs_) (fun hn_ => (.inr (Nat.le_trans (below_size (by repeat (first | (with_reducible first | exact HB.out | apply below_alloc | apply pw_below_drewN | apply below_drew1) | exact HB.out))) hn_))))) (below_size (by repeat (first | (with_reducible first | exact HB.out | apply below_alloc | apply pw_below_drewN | apply below_drew1) | exact HB.out)))); have n3_ := Aside0.mk (below_step (by repeat (first | (with_reducible first | exact HB.out | apply below_alloc | apply pw_below_drewN | apply below_drew1) | exact HB.out)) hb); clear HO0; clear HB; have HO0 := n0_; have HO172 := n1_; have HO175 := n2_; have HB := n3_; clear n0_ n1_ n2_ n3_; (try clear hb); (try clear hb2); (try clear hk); (try clear hi); (try clear ho0); (try clear ho1)))
      go_ret3
      exact ⟨_, by first | rfl | (simp [errW_none, errW_some] <;> rfl) | (simp [*, errW_none, errW_some] <;> rfl), by (with_reducible repeat (first | apply Kd.V_alloc | apply Kd.V_drewN | apply Kd.V_drew)); exact HO0.out, by repeat (first | (with_reducible first | exact HB.out | apply below_alloc | apply pw_below_drewN | apply below_drew1) | exact HB.out)⟩

/-! ### bsoncore_ReadKey: function 48 -/
def bsoncore_ReadKey.f (l0 : List Int) : Option (ByteArray × List Int × Bool) := (binaryutil_ReadCString.f l0).bind fun bt177 => (some (bt177.1, bt177.2.1, bt177.2.2))
set_option maxHeartbeats 8000000 in
set_option maxRecDepth 100000 in
theorem bsoncore_ReadKey.calls (P0_ : Nat → Prop) (A0 : Option Addr) (c0 : Nat) (l0 : List Int) (r1 : ByteArray) (r2 : List Int) (r3 : Bool) (w : World) (hs0 : Kd.V (Kd.int .u8) 5 w w.heap.size (fun k_ => P0_ k_) (.slice A0 l0.length c0) l0) (h : bsoncore_ReadKey.f l0 = some (r1, r2, r3)) :
    Calls Try.prog 48 #[.slice A0 l0.length c0] w fun e w' => ∃ v1_ : Value, e = .returned (.tuple #[.string r1, v1_, .bool r3]) ∧ Kd.V (Kd.int .u8) 5 w' w.heap.size (fun k_ => (P0_ k_ ∨ w.heap.size ≤ k_)) v1_ r2 ∧ Below w.heap.size w w' := by
  have HO0 := Aside0.mk (show Kd.V (Kd.int .u8) 5 w w.heap.size (fun k_ => (P0_ k_ ∨ w.heap.size ≤ k_)) (.slice A0 l0.length c0) l0 from Kd.V_mono hs0 (fun k_ hk => .inl hk))
  have HB := Aside0.mk (Below.refl w.heap.size w)
  have H : ((binaryutil_ReadCString.f l0).bind fun bt177 => (some (bt177.1, bt177.2.1, bt177.2.2))) = some (r1, r2, r3) := h
  clear h
  replace H := Option.bind_eq_some_iff.mp H
  obtain ⟨⟨t177, t178, t181⟩, A20, H⟩ := H
  replace H : (some (t177, t178, t181)) = some (r1, r2, r3) := H
  have A2 := Aside0.mk A20
  clear A20
  as_aux_lemma =>
    simp only [Option.some.injEq, Prod.mk.injEq] at H
    obtain ⟨rfl, rfl, rfl⟩ := H
    go_enter Try.func48, Try.ntmps48
    go_wp2_with (first | ((with_reducible refine gate_callee (f := 50) rfl ?_); refine goesL_ (some 6) rfl rfl Try.func50 (by kernel_rfl) rfl #[.slice A0 l0.length c0] rfl (by (try simp only [List.map_toArray, List.map_cons, List.map_nil]); first | done | rfl | (simp only [List.length_drop, List.length_take]; rfl)) ?_; (with_reducible refine (binaryutil_ReadCString.calls (fun k_ => (P0_ k_ ∨ w.heap.size ≤ k_)) _ _ l0 t177 t178 t181 _ ?side1 A2.out).mono ?_); (case side1 => exact HO0.out); rintro e w3 ⟨v179, rfl, ho0, hb⟩; refine ⟨_, rfl, ?_⟩; have n0_ := Aside0.mk (Kd.V_below (by (with_reducible repeat (first | apply Kd.V_alloc | apply Kd.V_drewN | apply Kd.V_drew)); exact HO0.out) hb); have n1_ := Aside0.mk (Kd.V_lower (Kd.V_mono (ok' := fun k_ => (P0_ k_ ∨ w.heap.size ≤ k_)) ho0 (fun k_ hk_ => Or.elim hk_ (fun hs_ => hs_) (fun hn_ => (.inr (Nat.le_trans (below_size (by repeat (first | (with_reducible first | exact HB.out | apply below_alloc | apply pw_below_drewN | apply below_drew1) | exact HB.out))) hn_))))) (below_size (by repeat (first | (with_reducible first | exact HB.out | apply below_alloc | apply pw_below_drewN | apply below_drew1) | exact HB.out)))); have n2_ := Aside0.mk (below_step (by repeat (first | (with_reducible first | exact HB.out | apply below_alloc | apply pw_below_drewN | apply below_drew1) | exact HB.out)) hb); clear HO0; clear HB; have HO0 := n0_; have HO180 := n1_; have HB := n2_; clear n0_ n1_ n2_; (try clear hb); (try clear hb2); (try clear hk); (try clear hi); (try clear ho0)))
    go_ret3
    exact ⟨_, by first | rfl | (simp [errW_none, errW_some] <;> rfl) | (simp [*, errW_none, errW_some] <;> rfl), by (with_reducible repeat (first | apply Kd.V_alloc | apply Kd.V_drewN | apply Kd.V_drew)); exact HO180.out, by repeat (first | (with_reducible first | exact HB.out | apply below_alloc | apply pw_below_drewN | apply below_drew1) | exact HB.out)⟩

/-! ### bsoncore_ReadHeader: function 46 -/
def bsoncore_ReadHeader.f (l0 : List Int) : Option (Int × ByteArray × List Int × Bool) := (bsoncore_ReadType.f l0).bind fun bt182 => (if bt182.2.2 = true then ((bsoncore_ReadKey.f bt182.2.1).bind fun bt187 => (if bt187.2.2 = true then (some (bt182.1, bt187.1, bt187.2.1, true)) else (some (0, (⟨#[]⟩ : ByteArray), l0, false)))) else (some (0, (⟨#[]⟩ : ByteArray), l0, false)))
set_option maxHeartbeats 8000000 in
set_option maxRecDepth 100000 in
theorem bsoncore_ReadHeader.calls (P0_ : Nat → Prop) (A0 : Option Addr) (c0 : Nat) (l0 : List Int) (r1 : Int) (r2 : ByteArray) (r3 : List Int) (r4 : Bool) (w : World) (hs0 : Kd.V (Kd.int .u8) 5 w w.heap.size (fun k_ => P0_ k_) (.slice A0 l0.length c0) l0) (h : bsoncore_ReadHeader.f l0 = some (r1, r2, r3, r4)) :
    Calls Try.prog 46 #[.slice A0 l0.length c0] w fun e w' => ∃ v2_ : Value, e = .returned (.tuple #[.int .u8 r1, .string r2, v2_, .bool r4]) ∧ Kd.V (Kd.int .u8) 5 w' w.heap.size (fun k_ => (P0_ k_ ∨ w.heap.size ≤ k_)) v2_ r3 ∧ Below w.heap.size w w' := by
  have HO0 := Aside0.mk (show Kd.V (Kd.int .u8) 5 w w.heap.size (fun k_ => (P0_ k_ ∨ w.heap.size ≤ k_)) (.slice A0 l0.length c0) l0 from Kd.V_mono hs0 (fun k_ hk => .inl hk))
  have HB := Aside0.mk (Below.refl w.heap.size w)
  have H : ((bsoncore_ReadType.f l0).bind fun bt182 => (if bt182.2.2 = true then ((bsoncore_ReadKey.f bt182.2.1).bind fun bt187 => (if bt187.2.2 = true then (some (bt182.1, bt187.1, bt187.2.1, true)) else (some (0, (⟨#[]⟩ : ByteArray), l0, false)))) else (some (0, (⟨#[]⟩ : ByteArray), l0, false)))) = some (r1, r2, r3, r4) := h
  clear h
  replace H := Option.bind_eq_some_iff.mp H
  obtain ⟨⟨t182, t183, t186⟩, A20, H⟩ := H
  replace H : (if t186 = true then ((bsoncore_ReadKey.f t183).bind fun bt187 => (if bt187.2.2 = true then (some (t182, bt187.1, bt187.2.1, true)) else (some (0, (⟨#[]⟩ : ByteArray), l0, false)))) else (some (0, (⟨#[]⟩ : ByteArray), l0, false))) = some (r1, r2, r3, r4) := H
  have A2 := Aside0.mk A20
  clear A20
  by_cases c3 : t186 = true
  · subst c3
    have H1 : ((bsoncore_ReadKey.f t183).bind fun bt187 => (if bt187.2.2 = true then (some (t182, bt187.1, bt187.2.1, true)) else (some (0, (⟨#[]⟩ : ByteArray), l0, false)))) = some (r1, r2, r3, r4) := by rw [if_pos rfl] at H; exact H
    clear H
    have H := H1
    clear H1
    replace H := Option.bind_eq_some_iff.mp H
    obtain ⟨⟨t187, t188, t191⟩, A40, H⟩ := H
    replace H : (if t191 = true then (some (t182, t187, t188, true)) else (some (0, (⟨#[]⟩ : ByteArray), l0, false))) = some (r1, r2, r3, r4) := H
    have A4 := Aside0.mk A40
    clear A40
    by_cases c5 : t191 = true
    · subst c5
      have H1 : (some (t182, t187, t188, true)) = some (r1, r2, r3, r4) := by rw [if_pos rfl] at H; exact H
      clear H
      have H := H1
      clear H1
      as_aux_lemma =>
        simp only [Option.some.injEq, Prod.mk.injEq] at H
        obtain ⟨rfl, rfl, rfl, rfl⟩ := H
        go_enter Try.func46, Try.ntmps46
        go_wp2_with (first | ((with_reducible refine gate_callee (f := 47) rfl ?_); refine goesL_ (some 8) rfl rfl Try.func47 (by kernel_rfl) rfl #[.slice A0 l0.length c0] rfl (by (try simp only [List.map_toArray, List.map_cons, List.map_nil]); first | done | rfl | (simp only [List.length_drop, List.length_take]; rfl)) ?_; (with_reducible refine (bsoncore_ReadType.calls (fun k_ => (P0_ k_ ∨ w.heap.size ≤ k_)) _ _ l0 t182 t183 true _ ?side1 A2.out).mono ?_); (case side1 => exact HO0.out); rintro e w6 ⟨v184, rfl, ho0, hb⟩; refine ⟨_, rfl, ?_⟩; have n0_ := Aside0.mk (Kd.V_below (by (with_reducible repeat (first | apply Kd.V_alloc | apply Kd.V_drewN | apply Kd.V_drew)); exact HO0.out) hb); have n1_ := Aside0.mk (Kd.V_lower (Kd.V_mono (ok' := fun k_ => (P0_ k_ ∨ w.heap.size ≤ k_)) ho0 (fun k_ hk_ => Or.elim hk_ (fun hs_ => hs_) (fun hn_ => (.inr (Nat.le_trans (below_size (by repeat (first | (with_reducible first | exact HB.out | apply below_alloc | apply pw_below_drewN | apply below_drew1) | exact HB.out))) hn_))))) (below_size (by repeat (first | (with_reducible first | exact HB.out | apply below_alloc | apply pw_below_drewN | apply below_drew1) | exact HB.out)))); have n2_ := Aside0.mk (below_step (by repeat (first | (with_reducible first | exact HB.out | apply below_alloc | apply pw_below_drewN | apply below_drew1) | exact HB.out)) hb); clear HO0; clear HB; have HO0 := n0_; have HO185 := n1_; have HB := n2_; clear n0_ n1_ n2_; (try clear hb); (try clear hb2); (try clear hk); (try clear hi); (try clear ho0); obtain ⟨Ao7, co7, eo7⟩ := Kd.V_slice HO185.out; subst eo7) | ((with_reducible refine gate_callee (f := 48) rfl ?_); refine goesL_ (some 17) rfl rfl Try.func48 (by kernel_rfl) rfl #[.slice Ao7 t183.length co7] rfl (by (try simp only [List.map_toArray, List.map_cons, List.map_nil]); first | done | rfl | (simp only [List.length_drop, List.length_take]; rfl)) ?_; (with_reducible refine (bsoncore_ReadKey.calls (fun k_ => (P0_ k_ ∨ w.heap.size ≤ k_)) _ _ t183 t187 t188 true _ ?side1 A4.out).mono ?_); (case side1 => exact HO185.out); rintro e w8 ⟨v189, rfl, ho0, hb⟩; refine ⟨_, rfl, ?_⟩; have n0_ := Aside0.mk (Kd.V_below (by (with_reducible repeat (first | apply Kd.V_alloc | apply Kd.V_drewN | apply Kd.V_drew)); exact HO0.out) hb); have n1_ := Aside0.mk (Kd.V_below (by (with_reducible repeat (first | apply Kd.V_alloc | apply Kd.V_drewN | apply Kd.V_drew)); exact HO185.out) hb); have n2_ := Aside0.mk (Kd.V_lower (Kd.V_mono (ok' := fun k_ => (P0_ k_ ∨ w.heap.size ≤ k_)) ho0 (fun k_ hk_ => Or.elim hk_ (fun hs_ => hs_) (fun hn_ => (.inr (Nat.le_trans (below_size (by repeat (first | (with_reducible first | exact HB.out | apply below_alloc | apply pw_below_drewN | apply below_drew1) | exact HB.out))) hn_))))) (below_size (by repeat (first | (with_reducible first | exact HB.out | apply below_alloc | apply pw_below_drewN | apply below_drew1) | exact HB.out)))); have n3_ := Aside0.mk (below_step (by repeat (first | (with_reducible first | exact HB.out | apply below_alloc | apply pw_below_drewN | apply below_drew1) | exact HB.out)) hb); clear HO0; clear HO185; clear HB; have HO0 := n0_; have HO185 := n1_; have HO190 := n2_; have HB := n3_; clear n0_ n1_ n2_ n3_; (try clear hb); (try clear hb2); (try clear hk); (try clear hi); (try clear ho0)))
        refine bodyPost_ret (results_list (rs := [.tmp 2, .tmp 3, .tmp 4, .tmp 5]) rfl (by simp) (.tmp (.tmp (.tmp (.tmp .nil))))) rfl ?_
        exact ⟨_, by first | rfl | (simp [errW_none, errW_some] <;> rfl) | (simp [*, errW_none, errW_some] <;> rfl), by (with_reducible repeat (first | apply Kd.V_alloc | apply Kd.V_drewN | apply Kd.V_drew)); exact HO190.out, by repeat (first | (with_reducible first | exact HB.out | apply below_alloc | apply pw_below_drewN | apply below_drew1) | exact HB.out)⟩
    · replace c5 := Bool.eq_false_iff.mpr c5
      subst c5
      have H1 : (some (0, (⟨#[]⟩ : ByteArray), l0, false)) = some (r1, r2, r3, r4) := by rw [if_neg (show ¬ (false = true) by decide)] at H; exact H
      clear H
      have H := H1
      clear H1
      as_aux_lemma =>
        simp only [Option.some.injEq, Prod.mk.injEq] at H
        obtain ⟨rfl, rfl, rfl, rfl⟩ := H
        go_enter Try.func46, Try.ntmps46
        go_wp2_with (first | ((with_reducible refine gate_callee (f := 47) rfl ?_); refine goesL_ (some 8) rfl rfl Try.func47 (by kernel_rfl) rfl #[.slice A0 l0.length c0] rfl (by (try simp only [List.map_toArray, List.map_cons, List.map_nil]); first | done | rfl | (simp only [List.length_drop, List.length_take]; rfl)) ?_; (with_reducible refine (bsoncore_ReadType.calls (fun k_ => (P0_ k_ ∨ w.heap.size ≤ k_)) _ _ l0 t182 t183 true _ ?side1 A2.out).mono ?_); (case side1 => exact HO0.out); rintro e w9 ⟨v184, rfl, ho0, hb⟩; refine ⟨_, rfl, ?_⟩; have n0_ := Aside0.mk (Kd.V_below (by (with_reducible repeat (first | apply Kd.V_alloc | apply Kd.V_drewN | apply Kd.V_drew)); exact HO0.out) hb); have n1_ := Aside0.mk (Kd.V_lower (Kd.V_mono (ok' := fun k_ => (P0_ k_ ∨ w.heap.size ≤ k_)) ho0 (fun k_ hk_ => Or.elim hk_ (fun hs_ => hs_) (fun hn_ => (.inr (Nat.le_trans (below_size (by repeat (first | (with_reducible first | exact HB.out | apply below_alloc | apply pw_below_drewN | apply below_drew1) | exact HB.out))) hn_))))) (below_size (by repeat (first | (with_reducible first | exact HB.out | apply below_alloc | apply pw_below_drewN | apply below_drew1) | exact HB.out)))); have n2_ := Aside0.mk (below_step (by repeat (first | (with_reducible first | exact HB.out | apply below_alloc | apply pw_below_drewN | apply below_drew1) | exact HB.out)) hb); clear HO0; clear HB; have HO0 := n0_; have HO185 := n1_; have HB := n2_; clear n0_ n1_ n2_; (try clear hb); (try clear hb2); (try clear hk); (try clear hi); (try clear ho0); obtain ⟨Ao10, co10, eo10⟩ := Kd.V_slice HO185.out; subst eo10) | ((with_reducible refine gate_callee (f := 48) rfl ?_); refine goesL_ (some 17) rfl rfl Try.func48 (by kernel_rfl) rfl #[.slice Ao10 t183.length co10] rfl (by (try simp only [List.map_toArray, List.map_cons, List.map_nil]); first | done | rfl | (simp only [List.length_drop, List.length_take]; rfl)) ?_; (with_reducible refine (bsoncore_ReadKey.calls (fun k_ => (P0_ k_ ∨ w.heap.size ≤ k_)) _ _ t183 t187 t188 false _ ?side1 A4.out).mono ?_); (case side1 => exact HO185.out); rintro e w11 ⟨v189, rfl, ho0, hb⟩; refine ⟨_, rfl, ?_⟩; have n0_ := Aside0.mk (Kd.V_below (by (with_reducible repeat (first | apply Kd.V_alloc | apply Kd.V_drewN | apply Kd.V_drew)); exact HO0.out) hb); have n1_ := Aside0.mk (Kd.V_below (by (with_reducible repeat (first | apply Kd.V_alloc | apply Kd.V_drewN | apply Kd.V_drew)); exact HO185.out) hb); have n2_ := Aside0.mk (Kd.V_lower (Kd.V_mono (ok' := fun k_ => (P0_ k_ ∨ w.heap.size ≤ k_)) ho0 (fun k_ hk_ => Or.elim hk_ (fun hs_ => hs_) (fun hn_ => (.inr (Nat.le_trans (below_size (by repeat (first | (with_reducible first | exact HB.out | apply below_alloc | apply pw_below_drewN | apply below_drew1) | exact HB.out))) hn_))))) (below_size (by repeat (first | (with_reducible first | exact HB.out | apply below_alloc | apply pw_below_drewN | apply below_drew1) | exact HB.out)))); have n3_ := Aside0.mk (below_step (by repeat (first | (with_reducible first | exact HB.out | apply below_alloc | apply pw_below_drewN | apply below_drew1) | exact HB.out)) hb); clear HO0; clear HO185; clear HB; have HO0 := n0_; have HO185 := n1_; have HO190 := n2_; have HB := n3_; clear n0_ n1_ n2_ n3_; (try clear hb); (try clear hb2); (try clear hk); (try clear hi); (try clear ho0)))
        refine bodyPost_ret (results_list (rs := [.tmp 2, .tmp 3, .tmp 4, .tmp 5]) rfl (by simp) (.tmp (.tmp (.tmp (.tmp .nil))))) rfl ?_
        exact ⟨_, by first | rfl | (simp [errW_none, errW_some] <;> rfl) | (simp [*, errW_none, errW_some] <;> rfl), by (with_reducible repeat (first | apply Kd.V_alloc | apply Kd.V_drewN | apply Kd.V_drew)); exact HO0.out, by repeat (first | (with_reducible first | exact HB.out | apply below_alloc | apply pw_below_drewN | apply below_drew1) | exact HB.out)⟩
  · replace c3 := Bool.eq_false_iff.mpr c3
    subst c3
    have H1 : (some (0, (⟨#[]⟩ : ByteArray), l0, false)) = some (r1, r2, r3, r4) := by rw [if_neg (show ¬ (false = true) by decide)] at H; exact H
    clear H
    have H := H1
    clear H1
    as_aux_lemma =>
      simp only [Option.some.injEq, Prod.mk.injEq] at H
      obtain ⟨rfl, rfl, rfl, rfl⟩ := H
      go_enter Try.func46, Try.ntmps46
      go_wp2_with (first | ((with_reducible refine gate_callee (f := 47) rfl ?_); refine goesL_ (some 8) rfl rfl Try.func47 (by kernel_rfl) rfl #[.slice A0 l0.length c0] rfl (by (try simp only [List.map_toArray, List.map_cons, List.map_nil]); first | done | rfl | (simp only [List.length_drop, List.length_take]; rfl)) ?_; (with_reducible refine (bsoncore_ReadType.calls (fun k_ => (P0_ k_ ∨ w.heap.size ≤ k_)) _ _ l0 t182 t183 false _ ?side1 A2.out).mono ?_); (case side1 => exact HO0.out); rintro e w12 ⟨v184, rfl, ho0, hb⟩; refine ⟨_, rfl, ?_⟩; have n0_ := Aside0.mk (Kd.V_below (by (with_reducible repeat (first | apply Kd.V_alloc | apply Kd.V_drewN | apply Kd.V_drew)); exact HO0.out) hb); have n1_ := Aside0.mk (Kd.V_lower (Kd.V_mono (ok' := fun k_ => (P0_ k_ ∨ w.heap.size ≤ k_)) ho0 (fun k_ hk_ => Or.elim hk_ (fun hs_ => hs_) (fun hn_ => (.inr (Nat.le_trans (below_size (by repeat (first | (with_reducible first | exact HB.out | apply below_alloc | apply pw_below_drewN | apply below_drew1) | exact HB.out))) hn_))))) (below_size (by repeat (first | (with_reducible first | exact HB.out | apply below_alloc | apply pw_below_drewN | apply below_drew1) | exact HB.out)))); have n2_ := Aside0.mk (below_step (by repeat (first | (with_reducible first | exact HB.out | apply below_alloc | apply pw_below_drewN | apply below_drew1) | exact HB.out)) hb); clear HO0; clear HB; have HO0 := n0_; have HO185 := n1_; have HB := n2_; clear n0_ n1_ n2_; (try clear hb); (try clear hb2); (try clear hk); (try clear hi); (try clear ho0)))
      refine bodyPost_ret (results_list (rs := [.tmp 2, .tmp 3, .tmp 4, .tmp 5]) rfl (by simp) (.tmp (.tmp (.tmp (.tmp .nil))))) rfl ?_
      exact ⟨_, by first | rfl | (simp [errW_none, errW_some] <;> rfl) | (simp [*, errW_none, errW_some] <;> rfl), by (with_reducible repeat (first | apply Kd.V_alloc | apply Kd.V_drewN | apply Kd.V_drew)); exact HO0.out, by repeat (first | (with_reducible first | exact HB.out | apply below_alloc | apply pw_below_drewN | apply below_drew1) | exact HB.out)⟩

/-! ### impl_ReadHeader: function 26 -/
def impl_ReadHeader.f (l0 : List Int) : Option (Int × ByteArray × List Int × Bool) := (bsoncore_ReadHeader.f l0).bind fun bt192 => ((impl_own.f bt192.2.2.1).bind fun t198 => (some (wrap64 (bt192.1), bt192.2.1, t198, bt192.2.2.2)))
set_option maxHeartbeats 8000000 in
set_option maxRecDepth 100000 in
theorem impl_ReadHeader.calls (A0 : Option Addr) (c0 : Nat) (l0 : List Int) (r1 : Int) (r2 : ByteArray) (r3 : List Int) (r4 : Bool) (w : World) (hr0 : Kd.C (Kd.int .u8) w A0 l0.length l0) (hc0 : l0.length ≤ c0) (h : impl_ReadHeader.f l0 = some (r1, r2, r3, r4)) :
    Calls Try.prog 26 #[.slice A0 l0.length c0] w fun e w' => ∃ v2_ : Value, e = .returned (.tuple #[.int .i64 r1, .string r2, v2_, .bool r4]) ∧ Kd.R (Kd.int .u8) 5 w' w.heap.size (fun _ => True) v2_ r3 ∧ Below w.heap.size w w' := by
  have HR0 := Aside0.mk hr0
  have HC0 := Aside0.mk hc0
  clear hr0 hc0
  have HB := Aside0.mk (Below.refl w.heap.size w)
  have H : ((bsoncore_ReadHeader.f l0).bind fun bt192 => ((impl_own.f bt192.2.2.1).bind fun t198 => (some (wrap64 (bt192.1), bt192.2.1, t198, bt192.2.2.2)))) = some (r1, r2, r3, r4) := h
  clear h
  replace H := Option.bind_eq_some_iff.mp H
  obtain ⟨⟨t192, t193, t194, t197⟩, A20, H⟩ := H
  replace H : ((impl_own.f t194).bind fun t198 => (some (wrap64 (t192), t193, t198, t197))) = some (r1, r2, r3, r4) := H
  have A2 := Aside0.mk A20
  clear A20
  replace H := Option.bind_eq_some_iff.mp H
  obtain ⟨t198, A30, H⟩ := H
  replace H : (some (wrap64 (t192), t193, t198, t197)) = some (r1, r2, r3, r4) := H
  have A3 := Aside0.mk A30
  clear A30
  as_aux_lemma =>
    simp only [Option.some.injEq, Prod.mk.injEq] at H
    obtain ⟨rfl, rfl, rfl, rfl⟩ := H
    go_enter Try.func26, Try.ntmps26
    go_wp2_with (first | ((with_reducible refine gate_callee (f := 46) rfl ?_); refine goesL_ (some 9) rfl rfl Try.func46 (by kernel_rfl) rfl #[.slice A0 l0.length c0] rfl (by (try simp only [List.map_toArray, List.map_cons, List.map_nil]); first | done | rfl | (simp only [List.length_drop, List.length_take]; rfl)) ?_; (with_reducible refine (bsoncore_ReadHeader.calls (fun k_ => k_ < w.heap.size) _ _ l0 t192 t193 t194 t197 _ ?side1 A2.out).mono ?_); (case side1 => exact Kd.V_mk HC0.out (Kd.F_below (Kd.C_F (Kd.heap_int .u8) HR0.out) (by repeat (first | (with_reducible first | exact HB.out | apply below_alloc | apply pw_below_drewN | apply below_drew1) | exact HB.out)))); rintro e w4 ⟨v195, rfl, ho0, hb⟩; refine ⟨_, rfl, ?_⟩; have n0_ := Aside0.mk (Kd.V_lower (Kd.V_mono (ok' := fun k_ => True) ho0 (fun k_ hk_ => trivial)) (below_size (by repeat (first | (with_reducible first | exact HB.out | apply below_alloc | apply pw_below_drewN | apply below_drew1) | exact HB.out)))); have n1_ := Aside0.mk (below_step (by repeat (first | (with_reducible first | exact HB.out | apply below_alloc | apply pw_below_drewN | apply below_drew1) | exact HB.out)) hb); clear HB; have HO196 := n0_; have HB := n1_; clear n0_ n1_; (try clear hb); (try clear hb2); (try clear hk); (try clear hi); (try clear ho0); obtain ⟨Ao5, co5, eo5⟩ := Kd.V_slice HO196.out; subst eo5) | ((with_reducible refine gate_callee (f := 38) rfl ?_); refine goesL_ (some 18) rfl rfl Try.func38 (by kernel_rfl) rfl #[.slice Ao5 t194.length co5] rfl (by (try simp only [List.map_toArray, List.map_cons, List.map_nil]); first | done | rfl | (simp only [List.length_drop, List.length_take]; rfl)) ?_; (with_reducible refine (impl_own.calls _ _ t194 t198 _ ?side1 ?side2 A3.out).mono ?_); (case side1 => repeat (first | exact (Kd.V_reads' HO196.out).2.2 | (with_reducible refine Kd.C_alloc ?_ _) | (with_reducible refine Kd.C_drewN ?_ _) | (with_reducible refine Kd.C_drew ?_))); (case side2 => exact (Kd.V_reads' HO196.out).2.1); rintro e w6 ⟨v199, rfl, ho0, hb⟩; refine ⟨_, rfl, ?_⟩; have n0_ := Aside0.mk (Kd.V_elder' (by (with_reducible repeat (first | apply Kd.V_alloc | apply Kd.V_drewN | apply Kd.V_drew)); exact HO196.out) (Kd.R_base ho0) hb); have n1_ := Aside0.mk (Kd.R_lower ho0 (below_size (by repeat (first | (with_reducible first | exact HB.out | apply below_alloc | apply pw_below_drewN | apply below_drew1) | exact HB.out)))); have n2_ := Aside0.mk (below_step (by repeat (first | (with_reducible first | exact HB.out | apply below_alloc | apply pw_below_drewN | apply below_drew1) | exact HB.out)) hb); clear HO196; clear HB; have HO196 := n0_; have HO200 := n1_; have HB := n2_; clear n0_ n1_ n2_; (try clear hb); (try clear hb2); (try clear hk); (try clear hi); (try clear ho0)))
    refine bodyPost_ret (results_list (rs := [.tmp 2, .tmp 3, .tmp 4, .tmp 5]) rfl (by simp) (.tmp (.tmp (.tmp (.tmp .nil))))) rfl ?_
    exact ⟨_, by first | rfl | (simp [errW_none, errW_some] <;> rfl) | (simp [*, errW_none, errW_some] <;> rfl), by (with_reducible repeat (first | apply Kd.R_alloc | apply Kd.R_drewN | apply Kd.R_drew)); exact HO200.out, by repeat (first | (with_reducible first | exact HB.out | apply below_alloc | apply pw_below_drewN | apply below_drew1) | exact HB.out)⟩

/-! ### impl_ReadType: function 27 -/
def impl_ReadType.f (l0 : List Int) : Option (Int × List Int × Bool) := (bsoncore_ReadType.f l0).bind fun bt201 => ((impl_own.f bt201.2.1).bind fun t206 => (some (wrap64 (bt201.1), t206, bt201.2.2)))
set_option maxHeartbeats 8000000 in
set_option maxRecDepth 100000 in
theorem impl_ReadType.calls (A0 : Option Addr) (c0 : Nat) (l0 : List Int) (r1 : Int) (r2 : List Int) (r3 : Bool) (w : World) (hr0 : Kd.C (Kd.int .u8) w A0 l0.length l0) (hc0 : l0.length ≤ c0) (h : impl_ReadType.f l0 = some (r1, r2, r3)) :
    Calls Try.prog 27 #[.slice A0 l0.length c0] w fun e w' => ∃ v1_ : Value, e = .returned (.tuple #[.int .i64 r1, v1_, .bool r3]) ∧ Kd.R (Kd.int .u8) 5 w' w.heap.size (fun _ => True) v1_ r2 ∧ Below w.heap.size w w' := by
  have HR0 := Aside0.mk hr0
  have HC0 := Aside0.mk hc0
  clear hr0 hc0
  have HB := Aside0.mk (Below.refl w.heap.size w)
  have H : ((bsoncore_ReadType.f l0).bind fun bt201 => ((impl_own.f bt201.2.1).bind fun t206 => (some (wrap64 (bt201.1), t206, bt201.2.2)))) = some (r1, r2, r3) := h
  clear h
  replace H := Option.bind_eq_some_iff.mp H
  obtain ⟨⟨t201, t202, t205⟩, A20, H⟩ := H
  replace H : ((impl_own.f t202).bind fun t206 => (some (wrap64 (t201), t206, t205))) = some (r1, r2, r3) := H
  have A2 := Aside0.mk A20
  clear A20
  replace H := Option.bind_eq_some_iff.mp H
  obtain ⟨t206, A30, H⟩ := H
  replace H : (some (wrap64 (t201), t206, t205)) = some (r1, r2, r3) := H
  have A3 := Aside0.mk A30
  clear A30
  as_aux_lemma =>
    simp only [Option.some.injEq, Prod.mk.injEq] at H
    obtain ⟨rfl, rfl, rfl⟩ := H
    go_enter Try.func27, Try.ntmps27
    go_wp2_with (first | ((with_reducible refine gate_callee (f := 47) rfl ?_); refine goesL_ (some 10) rfl rfl Try.func47 (by kernel_rfl) rfl #[.slice A0 l0.length c0] rfl (by (try simp only [List.map_toArray, List.map_cons, List.map_nil]); first | done | rfl | (simp only [List.length_drop, List.length_take]; rfl)) ?_; (with_reducible refine (bsoncore_ReadType.calls (fun k_ => k_ < w.heap.size) _ _ l0 t201 t202 t205 _ ?side1 A2.out).mono ?_); (case side1 => exact Kd.V_mk HC0.out (Kd.F_below (Kd.C_F (Kd.heap_int .u8) HR0.out) (by repeat (first | (with_reducible first | exact HB.out | apply below_alloc | apply pw_below_drewN | apply below_drew1) | exact HB.out)))); rintro e w4 ⟨v203, rfl, ho0, hb⟩; refine ⟨_, rfl, ?_⟩; have n0_ := Aside0.mk (Kd.V_lower (Kd.V_mono (ok' := fun k_ => True) ho0 (fun k_ hk_ => trivial)) (below_size (by repeat (first | (with_reducible first | exact HB.out | apply below_alloc | apply pw_below_drewN | apply below_drew1) | exact HB.out)))); have n1_ := Aside0.mk (below_step (by repeat (first | (with_reducible first | exact HB.out | apply below_alloc | apply pw_below_drewN | apply below_drew1) | exact HB.out)) hb); clear HB; have HO204 := n0_; have HB := n1_; clear n0_ n1_; (try clear hb); (try clear hb2); (try clear hk); (try clear hi); (try clear ho0); obtain ⟨Ao5, co5, eo5⟩ := Kd.V_slice HO204.out; subst eo5) | ((with_reducible refine gate_callee (f := 38) rfl ?_); refine goesL_ (some 17) rfl rfl Try.func38 (by kernel_rfl) rfl #[.slice Ao5 t202.length co5] rfl (by (try simp only [List.map_toArray, List.map_cons, List.map_nil]); first | done | rfl | (simp only [List.length_drop, List.length_take]; rfl)) ?_; (with_reducible refine (impl_own.calls _ _ t202 t206 _ ?side1 ?side2 A3.out).mono ?_); (case side1 => repeat (first | exact (Kd.V_reads' HO204.out).2.2 | (with_reducible refine Kd.C_alloc ?_ _) | (with_reducible refine Kd.C_drewN ?_ _) | (with_reducible refine Kd.C_drew ?_))); (case side2 => exact (Kd.V_reads' HO204.out).2.1); rintro e w6 ⟨v207, rfl, ho0, hb⟩; refine ⟨_, rfl, ?_⟩; have n0_ := Aside0.mk (Kd.V_elder' (by (with_reducible repeat (first | apply Kd.V_alloc | apply Kd.V_drewN | apply Kd.V_drew)); exact HO204.out) (Kd.R_base ho0) hb); have n1_ := Aside0.mk (Kd.R_lower ho0 (below_size (by repeat (first | (with_reducible first | exact HB.out | apply below_alloc | apply pw_below_drewN | apply below_drew1) | exact HB.out)))); have n2_ := Aside0.mk (below_step (by repeat (first | (with_reducible first | exact HB.out | apply below_alloc | apply pw_below_drewN | apply below_drew1) | exact HB.out)) hb); clear HO204; clear HB; have HO204 := n0_; have HO208 := n1_; have HB := n2_; clear n0_ n1_ n2_; (try clear hb); (try clear hb2); (try clear hk); (try clear hi); (try clear ho0)))
    go_ret3
    exact ⟨_, by first | rfl | (simp [errW_none, errW_some] <;> rfl) | (simp [*, errW_none, errW_some] <;> rfl), by (with_reducible repeat (first | apply Kd.R_alloc | apply Kd.R_drewN | apply Kd.R_drew)); exact HO208.out, by repeat (first | (with_reducible first | exact HB.out | apply below_alloc | apply pw_below_drewN | apply below_drew1) | exact HB.out)⟩

end Go.Proofs.Ythlpmeiihchdjaa.PDH
